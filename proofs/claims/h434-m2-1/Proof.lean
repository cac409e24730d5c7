import JvmDerived
import JvmDerived.Pilot.@@N@@Statement
import JvmDerived.Pilot.@@N@@Code
set_option linter.unusedVariables false
set_option linter.unusedSimpArgs false
namespace Jvm.Pilot.@@N@@
open Jvm Jvm.ClassFile Sem Op Lib Jvm.Free Jvm.Stand Jvm.LawKit Jvm.RoadKit Bundle Jvm.Pilot.@@N@@.Jvm.D
/-! OWN KIT 1: the fresh part of the heap: a list of (address, what its cell is) -/
abbrev Hp : Type := List (Addr × (Cell → Prop))
def Own (Z : State) (h : Heap) (M : Hp) : Prop := Ext Z.heap h ∧ (∀ (i : Nat) x, M[i]? = some x → Z.heap.size ≤ x.1 ∧ ∃ c : Cell, h[x.1]? = some c ∧ x.2 c) ∧ ∀ (i j : Nat) x y, M[i]? = some x → M[j]? = some y → x.1 = y.1 → i = j
theorem Own.ch {Z : State} {h h' : Heap} {M : Hp} {i : Nat} {a : Addr} {P P' : Cell → Prop} (O : Own Z h M) (hi : M[i]? = some (a, P)) (hs : h.size ≤ h'.size) (hk : ∀ (x : Addr) (c : Cell), h[x]? = some c → x ≠ a → h'[x]? = some c) (hc : ∃ c : Cell, h'[a]? = some c ∧ P' c) : Own Z h' (M.set i (a, P')) := by
  obtain ⟨o1, o2, o3⟩ := O
  have hil : i < M.length := (List.getElem?_eq_some_iff.mp hi).1
  have key : ∀ (j : Nat) x, (M.set i (a, P'))[j]? = some x → (j = i ∧ x = (a, P')) ∨ (j ≠ i ∧ M[j]? = some x) := by
    intro j x hx
    by_cases e : j = i
    · subst e
      rw [List.getElem?_set_self hil] at hx
      exact Or.inl ⟨rfl, (Option.some.inj hx).symm⟩
    · rw [List.getElem?_set_ne (Ne.symm e)] at hx
      exact Or.inr ⟨e, hx⟩
  refine ⟨⟨Nat.le_trans o1.1 hs, fun x c hx => hk x c (o1.2 x c hx) ?_⟩, fun j x hx => ?_, fun j j' x y hx hy e => ?_⟩
  · have h1 := (Array.getElem?_eq_some_iff.mp hx).1
    have h2 := (o2 i _ hi).1
    exact Nat.ne_of_lt (Nat.lt_of_lt_of_le h1 h2)
  · rcases key j x hx with ⟨rfl, rfl⟩ | ⟨ne, hx'⟩
    · exact ⟨(o2 j _ hi).1, hc⟩
    · obtain ⟨q1, c, q2, q3⟩ := o2 j x hx'
      exact ⟨q1, c, hk _ _ q2 (fun e => ne (o3 j i _ _ hx' hi e)), q3⟩
  · rcases key j x hx with ⟨rfl, rfl⟩ | ⟨ne, hx'⟩ <;> rcases key j' y hy with ⟨rfl, rfl⟩ | ⟨ne', hy'⟩
    · rfl
    · exact o3 _ _ _ _ hi hy' e
    · exact o3 _ _ _ _ hx' hi e
    · exact o3 _ _ _ _ hx' hy' e
theorem Own.upd {Z : State} {h h' : Heap} {M : Hp} {i : Nat} {a : Addr} {P P' : Cell → Prop} {sl : Nat} {v : Value} (O : Own Z h M) (hi : M[i]? = some (a, P)) (W : Wr h h' a sl v) (q : ∀ c : Cell, h[a]? = some c → P c → P' (c.setSlot sl v)) : Own Z h' (M.set i (a, P')) := by
  refine O.ch hi (Nat.le_of_eq W.size.symm) (fun x c hx ne => ?_) ?_
  · obtain ⟨c', e1, -, -, -, e5, -⟩ := wr_at W hx
    rw [e1, e5 ne]
  · obtain ⟨-, c, h1, h2⟩ := O.2.1 i _ hi
    obtain ⟨c', e1, -, -, -, -, -, e7⟩ := wr_at W h1
    exact ⟨c', e1, by rw [(e7 rfl).1]; exact q c h1 h2⟩
theorem Own.new {Z : State} {h h' : Heap} {M : Hp} {P : Cell → Prop} {c : Cell} (O : Own Z h M) (E : Ext h h') (hc : h'[h.size]? = some c) (q : P c) : Own Z h' ((h.size, P) :: M) := by
  obtain ⟨o1, o2, o3⟩ := O
  have lt : ∀ (j : Nat) x, M[j]? = some x → x.1 < h.size := fun j x hx => by
    obtain ⟨-, c, h1, -⟩ := o2 j x hx
    exact (Array.getElem?_eq_some_iff.mp h1).1
  refine ⟨⟨Nat.le_trans o1.1 E.1, fun x c hx => E.2 _ _ (o1.2 x c hx)⟩, fun j x hx => ?_, fun j j' x y hx hy e => ?_⟩
  · cases j with
    | zero => cases hx; exact ⟨o1.1, c, hc, q⟩
    | succ j => obtain ⟨q1, c, q2, q3⟩ := o2 j x hx; exact ⟨q1, c, E.2 _ _ q2, q3⟩
  · cases j <;> cases j'
    · rfl
    · cases hx; exact absurd e (Nat.ne_of_gt (lt _ _ hy))
    · cases hy; exact absurd e (Nat.ne_of_lt (lt _ _ hx))
    · exact congrArg _ (o3 _ _ _ _ hx hy e)
theorem Own.perm {Z : State} {h : Heap} {M M' : Hp} (O : Own Z h M) (p : M.Perm M') : Own Z h M' := by
  obtain ⟨o1, o2, o3⟩ := O
  have nd : (M.map Prod.fst).Nodup := by
    rw [List.nodup_iff_pairwise_ne, List.pairwise_iff_getElem]
    intro i j hi hj lt e
    simp only [List.length_map] at hi hj
    simp only [List.getElem_map] at e
    exact absurd (o3 i j _ _ (List.getElem?_eq_getElem hi) (List.getElem?_eq_getElem hj) e) (Nat.ne_of_lt lt)
  have nd' : (M'.map Prod.fst).Nodup := (p.map _).nodup_iff.mp nd
  refine ⟨o1, fun i x hx => ?_, fun i j x y hx hy e => ?_⟩
  · obtain ⟨j, hj⟩ := List.mem_iff_getElem?.mp (p.mem_iff.mpr (List.mem_of_getElem? hx))
    exact o2 j x hj
  · rw [List.nodup_iff_pairwise_ne, List.pairwise_iff_getElem] at nd'
    obtain ⟨hi, rfl⟩ := List.getElem?_eq_some_iff.mp hx
    obtain ⟨hj, rfl⟩ := List.getElem?_eq_some_iff.mp hy
    rcases Nat.lt_trichotomy i j with lt | rfl | lt
    · exact (nd' i j (by simpa using hi) (by simpa using hj) lt (by simpa using e)).elim
    · rfl
    · exact (nd' j i (by simpa using hj) (by simpa using hi) lt (by simpa using e.symm)).elim
theorem Own.ne {Z : State} {h : Heap} {M : Hp} {i j : Nat} {a b : Addr} {P P' : Cell → Prop} (O : Own Z h M) (hi : M[i]? = some (a, P)) (hj : M[j]? = some (b, P')) (ne : i ≠ j) : a ≠ b := fun e => ne (O.2.2 i j _ _ hi hj e)
/-! what a cell is: an object of the class C with these fields; an array of ints (bytes, booleans ..), an array of longs -/
abbrev Fd : Type := String × String × String × Value
def Apart (Z : State) (fs : List Fd) : Prop := ∀ (i j : Nat) f g, fs[i]? = some f → fs[j]? = some g → Jvm.RoadKit.slotOf Z f.1 f.2.1 f.2.2.1 = Jvm.RoadKit.slotOf Z g.1 g.2.1 g.2.2.1 → i = j
def Obj (Z : State) (C : String) (fs : List Fd) (c : Cell) : Prop := (∀ (h : Heap) (a : Addr), h[a]? = some c → Exa Z h a C ∧ ∀ (i : Nat) f, fs[i]? = some f → Fld Z h a f.1 f.2.1 f.2.2.1 f.2.2.2) ∧ Apart Z fs
def ArI (Z : State) (ty : FieldType) (vs : List Int32) (c : Cell) : Prop := Z.isArrayOf c ty ∧ c.vm ≠ .unknown ∧ c.slots = (vs.map Value.int).toArray ∧ vs.length < 2 ^ 31 ∧ ∀ x ∈ vs, fits ty (.int x) = true
def ArL (Z : State) (vs : List Int64) (c : Cell) : Prop := Z.isArrayOf c .long ∧ c.vm ≠ .unknown ∧ c.slots = (vs.map Value.long).toArray ∧ vs.length < 2 ^ 31
theorem exa_at_cell {Z : State} {h h' : Heap} {a a' : Addr} {C : String} {c : Cell} (E : Exa Z h a C) (hc : h[a]? = some c) (hc' : h'[a']? = some c) : Exa Z h' a' C := by
  obtain ⟨c1, k, h1, r⟩ := E
  cases h1.symm.trans hc
  exact ⟨_, k, hc', r⟩
theorem fld_at_cell {Z : State} {h h' : Heap} {a a' : Addr} {C n d : String} {v : Value} {c : Cell} (E : Fld Z h a C n d v) (hc : h[a]? = some c) (hc' : h'[a']? = some c) : Fld Z h' a' C n d v := by
  obtain ⟨c1, cf, k, i, f, h1, r⟩ := E
  cases h1.symm.trans hc
  exact ⟨_, cf, k, i, f, hc', r⟩
theorem Obj.put {Z : State} {C O n d : String} {fs : List Fd} {c : Cell} {j : Nat} {v w : Value} (B : Obj Z C fs c) (hj : fs[j]? = some (O, n, d, w)) {h h' : Heap} {a : Addr} (hc : h[a]? = some c) (W : Wr h h' a (Jvm.RoadKit.slotOf Z O n d) v) : Obj Z C (fs.set j (O, n, d, v)) (c.setSlot (Jvm.RoadKit.slotOf Z O n d) v) := by
  obtain ⟨b1, b2⟩ := B
  have hl : j < fs.length := (List.getElem?_eq_some_iff.mp hj).1
  have key : ∀ (i : Nat) x, (fs.set j (O, n, d, v))[i]? = some x → (i = j ∧ x = (O, n, d, v)) ∨ (i ≠ j ∧ fs[i]? = some x) := by
    intro i x hx
    by_cases e : i = j
    · subst e; rw [List.getElem?_set_self hl] at hx; exact Or.inl ⟨rfl, (Option.some.inj hx).symm⟩
    · rw [List.getElem?_set_ne (Ne.symm e)] at hx; exact Or.inr ⟨e, hx⟩
  have hnew : h'[a]? = some (c.setSlot (Jvm.RoadKit.slotOf Z O n d) v) := by
    obtain ⟨c', e1, -, -, -, -, -, e7⟩ := wr_at W hc
    rw [e1, (e7 rfl).1]
  refine ⟨fun h2 a2 h2c => ⟨exa_at_cell ((b1 h a hc).1.wr W) hnew h2c, fun i f hf => ?_⟩, fun i i' f g hf hg e => ?_⟩
  · rcases key i f hf with ⟨rfl, rfl⟩ | ⟨ne, hf'⟩
    · exact fld_at_cell (((b1 h a hc).2 i _ hj).same W) hnew h2c
    · exact fld_at_cell (((b1 h a hc).2 i _ hf').other W (Or.inr fun e => ne (b2 i j _ _ hf' hj e))) hnew h2c
  · rcases key i f hf with ⟨rfl, rfl⟩ | ⟨ne, hf'⟩ <;> rcases key i' g hg with ⟨rfl, rfl⟩ | ⟨ne', hg'⟩
    · rfl
    · exact b2 _ _ _ _ hj hg' e
    · exact b2 _ _ _ _ hf' hj e
    · exact b2 _ _ _ _ hf' hg' e
theorem ArI.arr {Z : State} {ty : FieldType} {vs : List Int32} {c : Cell} {h : Heap} {a : Addr} (B : ArI Z ty vs c) (hc : h[a]? = some c) : Arr Z h a c ty := ⟨hc, B.1, B.2.1⟩
theorem ArL.arr {Z : State} {vs : List Int64} {c : Cell} {h : Heap} {a : Addr} (B : ArL Z vs c) (hc : h[a]? = some c) : Arr Z h a c .long := ⟨hc, B.1, B.2.1⟩
theorem ArI.size {Z : State} {ty : FieldType} {vs : List Int32} {c : Cell} (B : ArI Z ty vs c) : c.slots.size = vs.length := by rw [B.2.2.1]; simp
theorem ArL.size {Z : State} {vs : List Int64} {c : Cell} (B : ArL Z vs c) : c.slots.size = vs.length := by rw [B.2.2.1]; simp
theorem ArI.put {Z : State} {ty : FieldType} {vs : List Int32} {c : Cell} (B : ArI Z ty vs c) (j : Nat) {x : Int32} (hx : fits ty (.int x) = true) : ArI Z ty (vs.set j x) (c.setSlot j (.int x)) := by
  refine ⟨B.1, B.2.1, ?_, by simpa using B.2.2.2.1, fun y hy => ?_⟩
  · show c.slots.setIfInBounds j (.int x) = _
    rw [B.2.2.1]; apply Array.ext'; simp [List.map_set]
  · rcases List.mem_or_eq_of_mem_set hy with h | rfl
    · exact B.2.2.2.2 y h
    · exact hx
theorem ArL.put {Z : State} {vs : List Int64} {c : Cell} (B : ArL Z vs c) (j : Nat) {x : Int64} : ArL Z (vs.set j x) (c.setSlot j (.long x)) := by
  refine ⟨B.1, B.2.1, ?_, by simpa using B.2.2.2⟩
  show c.slots.setIfInBounds j (.long x) = _
  rw [B.2.2.1]; apply Array.ext'; simp [List.map_set]
/-! OWN KIT 2: where a run stands, and how it ends -/
abbrev Cx : Type := Program × Launch × Env × Room × State × MethodId × Array Value × List Frame × Method × Code × (Option Value → Hp → Prop)
def Wk (Z : State) : Cx → State → Nat → Nat → Hp → Prop
  | (p, l, e, R, s, m, args, below, meth, c, _), T, cn, sn, M => ∃ locs, Stand p l e R s m args below meth c T locs cn sn ∧ Fr Z.heap.size locs ∧ Own Z T.heap M
def Ends (Z : State) : Cx → State → Nat → Array Slot → List Value → Prop
  | (p, l, e, R, s, m, args, below, meth, c, Q), T, pc, Ls, st => ∃ t o, Steps p.tables e below (T.setTop (mkF m pc Ls st)) t ∧ t.status = .running ∧ Ended t below o ∧ ∃ v L, o = .returned v ∧ (Fr Z.heap.size L ∧ ∃ M, Q v M ∧ Own Z t.heap M) ∧ FrameEnd s o t L R.cells R.slots
/-- from this frame, over such a heap, the run ends as Q says -/
def Go (Z : State) (k : Cx) (cn sn : Nat) (M : Hp) (pc : Nat) (Ls : Array Slot) (st : List Value) : Prop := ∀ T, Wk Z k T cn sn M → Ends Z k T pc Ls st
def Tb (Z : State) : Prop := ∃ a0, ∀ d ∈ tables_1, d.before a0 Z = true
def Ok (Z : State) (k : Cx) (R : Room) (Q : Option Value → Hp → Prop) (y : MethodName) (b : ByteArray) (ml : Nat) (rt : Option FieldType) : Prop :=
  match k with
  | (p, l, e, R', s, m, args, below, meth, c, Q') => p.tables.exec = Jvm.exec ∧ Z.Warmed39 s.vm ∧ c.code = b ∧ c.maxLocals = ml ∧ s.vm.findClass y.cls = some m.cls ∧ meth.name = y.name ∧ meth.sig.returnType = rt ∧ meth.locks = false ∧ Tb Z ∧ R' = R ∧ Q' = Q
theorem Ok.tb {Z : State} {k : Cx} {R : Room} {Q : Option Value → Hp → Prop} {y : MethodName} {b : ByteArray} {ml : Nat} {rt : Option FieldType} (H : Ok Z k R Q y b ml rt) : Tb Z := by
  obtain ⟨p, l, e, R', s, m, args, below, meth, c, Q'⟩ := k
  exact H.2.2.2.2.2.2.2.2.1
section Kit
variable {ty : FieldType} {Z : State} {k : Cx} {R : Room} {Q : Option Value → Hp → Prop} {y : MethodName} {b : ByteArray} {ml : Nat} {rt : Option FieldType} {cn sn : Nat} {M : Hp} {pc pc' : Nat} {Ls : Array Slot} {st : List Value}
theorem mem {i : Nat} {d : Jvm.Cond} (h : tables_1[i]? = some d) : d ∈ tables_1 := List.mem_of_getElem? h
theorem Go.more {cn' sn' : Nat} (hc : cn ≤ cn') (hs : sn ≤ sn') (g : Go Z k cn' sn' M pc Ls st) : Go Z k cn sn M pc Ls st := by
  obtain ⟨p, l, e, R, s, m, args, below, meth, c, Q⟩ := k
  intro T w
  obtain ⟨locs, X, F, O⟩ := w
  exact g T ⟨locs, X.more hc hs, F, O⟩
theorem Go.perm {M' : Hp} (p : M.Perm M') (g : Go Z k cn sn M' pc Ls st) : Go Z k cn sn M pc Ls st := by
  obtain ⟨p', l, e, R, s, m, args, below, meth, c, Q⟩ := k
  intro T w
  obtain ⟨locs, X, F, O⟩ := w
  exact g T ⟨locs, X, F, O.perm p⟩
theorem Go.fact {φ : Prop} (f : ∀ h, Own Z h M → φ) (g : φ → Go Z k cn sn M pc Ls st) : Go Z k cn sn M pc Ls st := by
  obtain ⟨p', l, e, R, s, m, args, below, meth, c, Q⟩ := k
  intro T w
  have w' := w
  obtain ⟨locs, X, F, O⟩ := w
  exact g (f _ O) T w'
theorem Go.cast {pc2 : Nat} {Ls2 : Array Slot} {st2 : List Value} {M2 : Hp} (h1 : pc = pc2) (h2 : Ls = Ls2) (h3 : st = st2) (h4 : M = M2) (g : Go Z k cn sn M2 pc2 Ls2 st2) : Go Z k cn sn M pc Ls st := by
  subst h1 h2 h3 h4; exact g
theorem s_iloadn (H : Ok Z k R Q y b ml rt) {i : Fin 4} {z : Int32} (hd : decode b pc = .ok (.iload_n i, 1)) (hl : Ls[i.val]? = some (.val (.int z))) (hp : pc + 1 = pc') (g : Go Z k cn sn M pc' Ls (.int z :: st)) : Go Z k cn sn M pc Ls (st) := by
  obtain ⟨p, l, e, R', s, m, args, below, meth, c, Q'⟩ := k
  obtain ⟨hx, hZ, hby, -⟩ := H
  subst hp
  intro T w
  have w' := w
  obtain ⟨locs, X, F, O⟩ := w
  obtain ⟨t, o, hs, r⟩ := g T w'
  exact ⟨t, o, XS.iloadN X.here hx rfl (hb hby hd) hl hs, r⟩
theorem s_iload (H : Ok Z k R Q y b ml rt) {i : Nat} {z : Int32} (hd : decode b pc = .ok (.iload i, 2)) (hl : Ls[i]? = some (.val (.int z))) (hp : pc + 2 = pc') (g : Go Z k cn sn M pc' Ls (.int z :: st)) : Go Z k cn sn M pc Ls (st) := by
  obtain ⟨p, l, e, R', s, m, args, below, meth, c, Q'⟩ := k
  obtain ⟨hx, hZ, hby, -⟩ := H
  subst hp
  intro T w
  have w' := w
  obtain ⟨locs, X, F, O⟩ := w
  obtain ⟨t, o, hs, r⟩ := g T w'
  exact ⟨t, o, XS.iload X.here hx rfl (hb hby hd) hl hs, r⟩
theorem s_istoren (H : Ok Z k R Q y b ml rt) {i : Fin 4} {x : Int32} {L' : Int32 → Array Slot} (hd : decode b pc = .ok (.istore_n i, 1)) (hl : ∀ z, storeLocals Ls i.val (.int z) = some (L' z)) (hp : pc + 1 = pc') (g : ∀ z, z = x → Go Z k cn sn M pc' (L' z) st) : Go Z k cn sn M pc Ls (.int x :: st) := by
  obtain ⟨p, l, e, R', s, m, args, below, meth, c, Q'⟩ := k
  obtain ⟨hx, hZ, hby, -⟩ := H
  subst hp
  intro T w
  have w' := w
  obtain ⟨locs, X, F, O⟩ := w
  obtain ⟨t, o, hs, r⟩ := g x rfl T w'
  exact ⟨t, o, XS.istoreN X.here hx rfl (hb hby hd) rfl (hl x) hs, r⟩
theorem s_istore (H : Ok Z k R Q y b ml rt) {i : Nat} {x : Int32} {L' : Int32 → Array Slot} (hd : decode b pc = .ok (.istore i, 2)) (hl : ∀ z, storeLocals Ls i (.int z) = some (L' z)) (hp : pc + 2 = pc') (g : ∀ z, z = x → Go Z k cn sn M pc' (L' z) st) : Go Z k cn sn M pc Ls (.int x :: st) := by
  obtain ⟨p, l, e, R', s, m, args, below, meth, c, Q'⟩ := k
  obtain ⟨hx, hZ, hby, -⟩ := H
  subst hp
  intro T w
  have w' := w
  obtain ⟨locs, X, F, O⟩ := w
  obtain ⟨t, o, hs, r⟩ := g x rfl T w'
  exact ⟨t, o, XS.istore X.here hx rfl (hb hby hd) rfl (hl x) hs, r⟩
theorem s_lloadn (H : Ok Z k R Q y b ml rt) {i : Fin 4} {z : Int64} (hd : decode b pc = .ok (.lload_n i, 1)) (hl : Ls[i.val]? = some (.val (.long z))) (hp : pc + 1 = pc') (g : Go Z k cn sn M pc' Ls (.long z :: st)) : Go Z k cn sn M pc Ls (st) := by
  obtain ⟨p, l, e, R', s, m, args, below, meth, c, Q'⟩ := k
  obtain ⟨hx, hZ, hby, -⟩ := H
  subst hp
  intro T w
  have w' := w
  obtain ⟨locs, X, F, O⟩ := w
  obtain ⟨t, o, hs, r⟩ := g T w'
  exact ⟨t, o, XS.lloadN X.here hx rfl (hb hby hd) hl hs, r⟩
theorem s_lload (H : Ok Z k R Q y b ml rt) {i : Nat} {z : Int64} (hd : decode b pc = .ok (.lload i, 2)) (hl : Ls[i]? = some (.val (.long z))) (hp : pc + 2 = pc') (g : Go Z k cn sn M pc' Ls (.long z :: st)) : Go Z k cn sn M pc Ls (st) := by
  obtain ⟨p, l, e, R', s, m, args, below, meth, c, Q'⟩ := k
  obtain ⟨hx, hZ, hby, -⟩ := H
  subst hp
  intro T w
  have w' := w
  obtain ⟨locs, X, F, O⟩ := w
  obtain ⟨t, o, hs, r⟩ := g T w'
  exact ⟨t, o, XS.lload X.here hx rfl (hb hby hd) hl hs, r⟩
theorem s_lstoren (H : Ok Z k R Q y b ml rt) {i : Fin 4} {x : Int64} {L' : Int64 → Array Slot} (hd : decode b pc = .ok (.lstore_n i, 1)) (hl : ∀ z, storeLocals Ls i.val (.long z) = some (L' z)) (hp : pc + 1 = pc') (g : ∀ z, z = x → Go Z k cn sn M pc' (L' z) st) : Go Z k cn sn M pc Ls (.long x :: st) := by
  obtain ⟨p, l, e, R', s, m, args, below, meth, c, Q'⟩ := k
  obtain ⟨hx, hZ, hby, -⟩ := H
  subst hp
  intro T w
  have w' := w
  obtain ⟨locs, X, F, O⟩ := w
  obtain ⟨t, o, hs, r⟩ := g x rfl T w'
  exact ⟨t, o, XS.lstoreN X.here hx rfl (hb hby hd) rfl (hl x) hs, r⟩
theorem s_lstore (H : Ok Z k R Q y b ml rt) {i : Nat} {x : Int64} {L' : Int64 → Array Slot} (hd : decode b pc = .ok (.lstore i, 2)) (hl : ∀ z, storeLocals Ls i (.long z) = some (L' z)) (hp : pc + 2 = pc') (g : ∀ z, z = x → Go Z k cn sn M pc' (L' z) st) : Go Z k cn sn M pc Ls (.long x :: st) := by
  obtain ⟨p, l, e, R', s, m, args, below, meth, c, Q'⟩ := k
  obtain ⟨hx, hZ, hby, -⟩ := H
  subst hp
  intro T w
  have w' := w
  obtain ⟨locs, X, F, O⟩ := w
  obtain ⟨t, o, hs, r⟩ := g x rfl T w'
  exact ⟨t, o, XS.lstore X.here hx rfl (hb hby hd) rfl (hl x) hs, r⟩
theorem s_aloadn (H : Ok Z k R Q y b ml rt) {i : Fin 4} {v : Value} (hd : decode b pc = .ok (.aload_n i, 1)) (hl : Ls[i.val]? = some (.val v)) (hv : v.isRef = true) (hp : pc + 1 = pc') (g : Go Z k cn sn M pc' Ls (v :: st)) : Go Z k cn sn M pc Ls (st) := by
  obtain ⟨p, l, e, R', s, m, args, below, meth, c, Q'⟩ := k
  obtain ⟨hx, hZ, hby, -⟩ := H
  subst hp
  intro T w
  have w' := w
  obtain ⟨locs, X, F, O⟩ := w
  obtain ⟨t, o, hs, r⟩ := g T w'
  exact ⟨t, o, XS.aloadN X.here hx rfl (hb hby hd) hl hv hs, r⟩
theorem s_aload (H : Ok Z k R Q y b ml rt) {i : Nat} {v : Value} (hd : decode b pc = .ok (.aload i, 2)) (hl : Ls[i]? = some (.val v)) (hv : v.isRef = true) (hp : pc + 2 = pc') (g : Go Z k cn sn M pc' Ls (v :: st)) : Go Z k cn sn M pc Ls (st) := by
  obtain ⟨p, l, e, R', s, m, args, below, meth, c, Q'⟩ := k
  obtain ⟨hx, hZ, hby, -⟩ := H
  subst hp
  intro T w
  have w' := w
  obtain ⟨locs, X, F, O⟩ := w
  obtain ⟨t, o, hs, r⟩ := g T w'
  exact ⟨t, o, XS.aload X.here hx rfl (hb hby hd) hl hv hs, r⟩
theorem s_astoren (H : Ok Z k R Q y b ml rt) {i : Fin 4} {v : Value} {L' : Array Slot} (hd : decode b pc = .ok (.astore_n i, 1)) (hv : v.isRef = true) (hl : storeLocals Ls i.val v = some L') (hp : pc + 1 = pc') (g : Go Z k cn sn M pc' L' (st)) : Go Z k cn sn M pc Ls (v :: st) := by
  obtain ⟨p, l, e, R', s, m, args, below, meth, c, Q'⟩ := k
  obtain ⟨hx, hZ, hby, -⟩ := H
  subst hp
  intro T w
  have w' := w
  obtain ⟨locs, X, F, O⟩ := w
  obtain ⟨t, o, hs, r⟩ := g T w'
  exact ⟨t, o, XS.astoreN X.here hx rfl (hb hby hd) rfl hv hl hs, r⟩
theorem s_astore (H : Ok Z k R Q y b ml rt) {i : Nat} {v : Value} {L' : Array Slot} (hd : decode b pc = .ok (.astore i, 2)) (hv : v.isRef = true) (hl : storeLocals Ls i v = some L') (hp : pc + 2 = pc') (g : Go Z k cn sn M pc' L' (st)) : Go Z k cn sn M pc Ls (v :: st) := by
  obtain ⟨p, l, e, R', s, m, args, below, meth, c, Q'⟩ := k
  obtain ⟨hx, hZ, hby, -⟩ := H
  subst hp
  intro T w
  have w' := w
  obtain ⟨locs, X, F, O⟩ := w
  obtain ⟨t, o, hs, r⟩ := g T w'
  exact ⟨t, o, XS.astore X.here hx rfl (hb hby hd) rfl hv hl hs, r⟩
theorem s_iconst (H : Ok Z k R Q y b ml rt) {i : Int} {z : Int32} (hd : decode b pc = .ok (.iconst i, 1)) (hz : z = Int32.ofInt i) (hp : pc + 1 = pc') (g : Go Z k cn sn M pc' Ls (.int z :: st)) : Go Z k cn sn M pc Ls (st) := by
  obtain ⟨p, l, e, R', s, m, args, below, meth, c, Q'⟩ := k
  obtain ⟨hx, hZ, hby, -⟩ := H
  subst hp
  intro T w
  have w' := w
  obtain ⟨locs, X, F, O⟩ := w
  obtain ⟨t, o, hs, r⟩ := g T w'
  exact ⟨t, o, XS.iconst X.here hx rfl (hb hby hd) (hz ▸ hs), r⟩
theorem s_bipush (H : Ok Z k R Q y b ml rt) {i : Int} {z : Int32} (hd : decode b pc = .ok (.bipush i, 2)) (hz : z = (Int8.ofInt i).toInt32) (hp : pc + 2 = pc') (g : Go Z k cn sn M pc' Ls (.int z :: st)) : Go Z k cn sn M pc Ls (st) := by
  obtain ⟨p, l, e, R', s, m, args, below, meth, c, Q'⟩ := k
  obtain ⟨hx, hZ, hby, -⟩ := H
  subst hp
  intro T w
  have w' := w
  obtain ⟨locs, X, F, O⟩ := w
  obtain ⟨t, o, hs, r⟩ := g T w'
  exact ⟨t, o, XS.bipush X.here hx rfl (hb hby hd) (hz ▸ hs), r⟩
theorem s_sipush (H : Ok Z k R Q y b ml rt) {i : Int} {z : Int32} (hd : decode b pc = .ok (.sipush i, 3)) (hz : z = (Int16.ofInt i).toInt32) (hp : pc + 3 = pc') (g : Go Z k cn sn M pc' Ls (.int z :: st)) : Go Z k cn sn M pc Ls (st) := by
  obtain ⟨p, l, e, R', s, m, args, below, meth, c, Q'⟩ := k
  obtain ⟨hx, hZ, hby, -⟩ := H
  subst hp
  intro T w
  have w' := w
  obtain ⟨locs, X, F, O⟩ := w
  obtain ⟨t, o, hs, r⟩ := g T w'
  exact ⟨t, o, XS.sipush X.here hx rfl (hb hby hd) (hz ▸ hs), r⟩
theorem s_lconst (H : Ok Z k R Q y b ml rt) {i : Fin 2} {z : Int64} (hd : decode b pc = .ok (.lconst i, 1)) (hz : z = Int64.ofNat i) (hp : pc + 1 = pc') (g : Go Z k cn sn M pc' Ls (.long z :: st)) : Go Z k cn sn M pc Ls (st) := by
  obtain ⟨p, l, e, R', s, m, args, below, meth, c, Q'⟩ := k
  obtain ⟨hx, hZ, hby, -⟩ := H
  subst hp
  intro T w
  have w' := w
  obtain ⟨locs, X, F, O⟩ := w
  obtain ⟨t, o, hs, r⟩ := g T w'
  exact ⟨t, o, XS.lconst X.here hx rfl (hb hby hd) (hz ▸ hs), r⟩
theorem s_anull (H : Ok Z k R Q y b ml rt) (hd : decode b pc = .ok (.aconst_null, 1)) (hp : pc + 1 = pc') (g : Go Z k cn sn M pc' Ls (.null :: st)) : Go Z k cn sn M pc Ls (st) := by
  obtain ⟨p, l, e, R', s, m, args, below, meth, c, Q'⟩ := k
  obtain ⟨hx, hZ, hby, -⟩ := H
  subst hp
  intro T w
  have w' := w
  obtain ⟨locs, X, F, O⟩ := w
  obtain ⟨t, o, hs, r⟩ := g T w'
  exact ⟨t, o, XS.aconstNull X.here hx rfl (hb hby hd) hs, r⟩
theorem s_iadd (H : Ok Z k R Q y b ml rt) {x u : Int32} (hd : decode b pc = .ok (.iadd, 1)) (hp : pc + 1 = pc') (g : Go Z k cn sn M pc' Ls (.int (x + u) :: st)) : Go Z k cn sn M pc Ls (.int u :: .int x :: st) := by
  obtain ⟨p, l, e, R', s, m, args, below, meth, c, Q'⟩ := k
  obtain ⟨hx, hZ, hby, -⟩ := H
  subst hp
  intro T w
  have w' := w
  obtain ⟨locs, X, F, O⟩ := w
  obtain ⟨t, o, hs, r⟩ := g T w'
  exact ⟨t, o, XS.iadd X.here hx rfl (hb hby hd) rfl hs, r⟩
theorem s_isub (H : Ok Z k R Q y b ml rt) {x u : Int32} (hd : decode b pc = .ok (.isub, 1)) (hp : pc + 1 = pc') (g : Go Z k cn sn M pc' Ls (.int (x - u) :: st)) : Go Z k cn sn M pc Ls (.int u :: .int x :: st) := by
  obtain ⟨p, l, e, R', s, m, args, below, meth, c, Q'⟩ := k
  obtain ⟨hx, hZ, hby, -⟩ := H
  subst hp
  intro T w
  have w' := w
  obtain ⟨locs, X, F, O⟩ := w
  obtain ⟨t, o, hs, r⟩ := g T w'
  exact ⟨t, o, XS.isub X.here hx rfl (hb hby hd) rfl hs, r⟩
theorem s_imul (H : Ok Z k R Q y b ml rt) {x u : Int32} (hd : decode b pc = .ok (.imul, 1)) (hp : pc + 1 = pc') (g : Go Z k cn sn M pc' Ls (.int (x * u) :: st)) : Go Z k cn sn M pc Ls (.int u :: .int x :: st) := by
  obtain ⟨p, l, e, R', s, m, args, below, meth, c, Q'⟩ := k
  obtain ⟨hx, hZ, hby, -⟩ := H
  subst hp
  intro T w
  have w' := w
  obtain ⟨locs, X, F, O⟩ := w
  obtain ⟨t, o, hs, r⟩ := g T w'
  exact ⟨t, o, XS.imul X.here hx rfl (hb hby hd) rfl hs, r⟩
theorem s_iand (H : Ok Z k R Q y b ml rt) {x u : Int32} (hd : decode b pc = .ok (.iand, 1)) (hp : pc + 1 = pc') (g : Go Z k cn sn M pc' Ls (.int (x &&& u) :: st)) : Go Z k cn sn M pc Ls (.int u :: .int x :: st) := by
  obtain ⟨p, l, e, R', s, m, args, below, meth, c, Q'⟩ := k
  obtain ⟨hx, hZ, hby, -⟩ := H
  subst hp
  intro T w
  have w' := w
  obtain ⟨locs, X, F, O⟩ := w
  obtain ⟨t, o, hs, r⟩ := g T w'
  exact ⟨t, o, XS.iand X.here hx rfl (hb hby hd) rfl hs, r⟩
theorem s_ior (H : Ok Z k R Q y b ml rt) {x u : Int32} (hd : decode b pc = .ok (.ior, 1)) (hp : pc + 1 = pc') (g : Go Z k cn sn M pc' Ls (.int (x ||| u) :: st)) : Go Z k cn sn M pc Ls (.int u :: .int x :: st) := by
  obtain ⟨p, l, e, R', s, m, args, below, meth, c, Q'⟩ := k
  obtain ⟨hx, hZ, hby, -⟩ := H
  subst hp
  intro T w
  have w' := w
  obtain ⟨locs, X, F, O⟩ := w
  obtain ⟨t, o, hs, r⟩ := g T w'
  exact ⟨t, o, XS.ior X.here hx rfl (hb hby hd) rfl hs, r⟩
theorem s_ixor (H : Ok Z k R Q y b ml rt) {x u : Int32} (hd : decode b pc = .ok (.ixor, 1)) (hp : pc + 1 = pc') (g : Go Z k cn sn M pc' Ls (.int (x ^^^ u) :: st)) : Go Z k cn sn M pc Ls (.int u :: .int x :: st) := by
  obtain ⟨p, l, e, R', s, m, args, below, meth, c, Q'⟩ := k
  obtain ⟨hx, hZ, hby, -⟩ := H
  subst hp
  intro T w
  have w' := w
  obtain ⟨locs, X, F, O⟩ := w
  obtain ⟨t, o, hs, r⟩ := g T w'
  exact ⟨t, o, XS.ixor X.here hx rfl (hb hby hd) rfl hs, r⟩
theorem s_idiv (H : Ok Z k R Q y b ml rt) {x u : Int32} (hd : decode b pc = .ok (.idiv, 1)) (hu : u ≠ 0) (hp : pc + 1 = pc') (g : Go Z k cn sn M pc' Ls (.int (x / u) :: st)) : Go Z k cn sn M pc Ls (.int u :: .int x :: st) := by
  obtain ⟨p, l, e, R', s, m, args, below, meth, c, Q'⟩ := k
  obtain ⟨hx, hZ, hby, -⟩ := H
  subst hp
  intro T w
  have w' := w
  obtain ⟨locs, X, F, O⟩ := w
  obtain ⟨t, o, hs, r⟩ := g T w'
  exact ⟨t, o, XS.idiv X.here hx rfl (hb hby hd) rfl hu hs, r⟩
theorem s_ineg (H : Ok Z k R Q y b ml rt) {x : Int32} (hd : decode b pc = .ok (.ineg, 1)) (hp : pc + 1 = pc') (g : Go Z k cn sn M pc' Ls (.int (-x) :: st)) : Go Z k cn sn M pc Ls (.int x :: st) := by
  obtain ⟨p, l, e, R', s, m, args, below, meth, c, Q'⟩ := k
  obtain ⟨hx, hZ, hby, -⟩ := H
  subst hp
  intro T w
  have w' := w
  obtain ⟨locs, X, F, O⟩ := w
  obtain ⟨t, o, hs, r⟩ := g T w'
  exact ⟨t, o, XS.ineg X.here hx rfl (hb hby hd) rfl hs, r⟩
theorem s_ladd (H : Ok Z k R Q y b ml rt) {x u : Int64} (hd : decode b pc = .ok (.ladd, 1)) (hp : pc + 1 = pc') (g : Go Z k cn sn M pc' Ls (.long (x + u) :: st)) : Go Z k cn sn M pc Ls (.long u :: .long x :: st) := by
  obtain ⟨p, l, e, R', s, m, args, below, meth, c, Q'⟩ := k
  obtain ⟨hx, hZ, hby, -⟩ := H
  subst hp
  intro T w
  have w' := w
  obtain ⟨locs, X, F, O⟩ := w
  obtain ⟨t, o, hs, r⟩ := g T w'
  exact ⟨t, o, XS.ladd X.here hx rfl (hb hby hd) rfl hs, r⟩
theorem s_lsub (H : Ok Z k R Q y b ml rt) {x u : Int64} (hd : decode b pc = .ok (.lsub, 1)) (hp : pc + 1 = pc') (g : Go Z k cn sn M pc' Ls (.long (x - u) :: st)) : Go Z k cn sn M pc Ls (.long u :: .long x :: st) := by
  obtain ⟨p, l, e, R', s, m, args, below, meth, c, Q'⟩ := k
  obtain ⟨hx, hZ, hby, -⟩ := H
  subst hp
  intro T w
  have w' := w
  obtain ⟨locs, X, F, O⟩ := w
  obtain ⟨t, o, hs, r⟩ := g T w'
  exact ⟨t, o, XS.lsub X.here hx rfl (hb hby hd) rfl hs, r⟩
theorem s_lmul (H : Ok Z k R Q y b ml rt) {x u : Int64} (hd : decode b pc = .ok (.lmul, 1)) (hp : pc + 1 = pc') (g : Go Z k cn sn M pc' Ls (.long (x * u) :: st)) : Go Z k cn sn M pc Ls (.long u :: .long x :: st) := by
  obtain ⟨p, l, e, R', s, m, args, below, meth, c, Q'⟩ := k
  obtain ⟨hx, hZ, hby, -⟩ := H
  subst hp
  intro T w
  have w' := w
  obtain ⟨locs, X, F, O⟩ := w
  obtain ⟨t, o, hs, r⟩ := g T w'
  exact ⟨t, o, XS.lmul X.here hx rfl (hb hby hd) rfl hs, r⟩
theorem s_land (H : Ok Z k R Q y b ml rt) {x u : Int64} (hd : decode b pc = .ok (.land, 1)) (hp : pc + 1 = pc') (g : Go Z k cn sn M pc' Ls (.long (x &&& u) :: st)) : Go Z k cn sn M pc Ls (.long u :: .long x :: st) := by
  obtain ⟨p, l, e, R', s, m, args, below, meth, c, Q'⟩ := k
  obtain ⟨hx, hZ, hby, -⟩ := H
  subst hp
  intro T w
  have w' := w
  obtain ⟨locs, X, F, O⟩ := w
  obtain ⟨t, o, hs, r⟩ := g T w'
  exact ⟨t, o, XS.land X.here hx rfl (hb hby hd) rfl hs, r⟩
theorem s_lor (H : Ok Z k R Q y b ml rt) {x u : Int64} (hd : decode b pc = .ok (.lor, 1)) (hp : pc + 1 = pc') (g : Go Z k cn sn M pc' Ls (.long (x ||| u) :: st)) : Go Z k cn sn M pc Ls (.long u :: .long x :: st) := by
  obtain ⟨p, l, e, R', s, m, args, below, meth, c, Q'⟩ := k
  obtain ⟨hx, hZ, hby, -⟩ := H
  subst hp
  intro T w
  have w' := w
  obtain ⟨locs, X, F, O⟩ := w
  obtain ⟨t, o, hs, r⟩ := g T w'
  exact ⟨t, o, XS.lor X.here hx rfl (hb hby hd) rfl hs, r⟩
theorem s_lxor (H : Ok Z k R Q y b ml rt) {x u : Int64} (hd : decode b pc = .ok (.lxor, 1)) (hp : pc + 1 = pc') (g : Go Z k cn sn M pc' Ls (.long (x ^^^ u) :: st)) : Go Z k cn sn M pc Ls (.long u :: .long x :: st) := by
  obtain ⟨p, l, e, R', s, m, args, below, meth, c, Q'⟩ := k
  obtain ⟨hx, hZ, hby, -⟩ := H
  subst hp
  intro T w
  have w' := w
  obtain ⟨locs, X, F, O⟩ := w
  obtain ⟨t, o, hs, r⟩ := g T w'
  exact ⟨t, o, XS.lxor X.here hx rfl (hb hby hd) rfl hs, r⟩
theorem s_ldiv (H : Ok Z k R Q y b ml rt) {x u : Int64} (hd : decode b pc = .ok (.ldiv, 1)) (hu : u ≠ 0) (hp : pc + 1 = pc') (g : Go Z k cn sn M pc' Ls (.long (x / u) :: st)) : Go Z k cn sn M pc Ls (.long u :: .long x :: st) := by
  obtain ⟨p, l, e, R', s, m, args, below, meth, c, Q'⟩ := k
  obtain ⟨hx, hZ, hby, -⟩ := H
  subst hp
  intro T w
  have w' := w
  obtain ⟨locs, X, F, O⟩ := w
  obtain ⟨t, o, hs, r⟩ := g T w'
  exact ⟨t, o, XS.ldiv X.here hx rfl (hb hby hd) rfl hu hs, r⟩
theorem s_lneg (H : Ok Z k R Q y b ml rt) {x : Int64} (hd : decode b pc = .ok (.lneg, 1)) (hp : pc + 1 = pc') (g : Go Z k cn sn M pc' Ls (.long (-x) :: st)) : Go Z k cn sn M pc Ls (.long x :: st) := by
  obtain ⟨p, l, e, R', s, m, args, below, meth, c, Q'⟩ := k
  obtain ⟨hx, hZ, hby, -⟩ := H
  subst hp
  intro T w
  have w' := w
  obtain ⟨locs, X, F, O⟩ := w
  obtain ⟨t, o, hs, r⟩ := g T w'
  exact ⟨t, o, XS.lneg X.here hx rfl (hb hby hd) rfl hs, r⟩
theorem s_irem (H : Ok Z k R Q y b ml rt) {x u : Int32} (hd : decode b pc = .ok (.irem, 1)) (hu : u ≠ 0) (hp : pc + 1 = pc') (g : Go Z k cn sn M pc' Ls (.int (x % u) :: st)) : Go Z k cn sn M pc Ls (.int u :: .int x :: st) := by
  obtain ⟨p, l, e, R', s, m, args, below, meth, c, Q'⟩ := k
  obtain ⟨hx, hZ, hby, -⟩ := H
  subst hp
  intro T w
  have w' := w
  obtain ⟨locs, X, F, O⟩ := w
  obtain ⟨t, o, hs, r⟩ := g T w'
  exact ⟨t, o, iremM X hx rfl (hb hby hd) rfl hu hs, r⟩
theorem s_lrem (H : Ok Z k R Q y b ml rt) {x u : Int64} (hd : decode b pc = .ok (.lrem, 1)) (hu : u ≠ 0) (hp : pc + 1 = pc') (g : Go Z k cn sn M pc' Ls (.long (x % u) :: st)) : Go Z k cn sn M pc Ls (.long u :: .long x :: st) := by
  obtain ⟨p, l, e, R', s, m, args, below, meth, c, Q'⟩ := k
  obtain ⟨hx, hZ, hby, -⟩ := H
  subst hp
  intro T w
  have w' := w
  obtain ⟨locs, X, F, O⟩ := w
  obtain ⟨t, o, hs, r⟩ := g T w'
  exact ⟨t, o, XS.lrem X.here hx rfl (hb hby hd) rfl hu (lrem_mod x u ▸ hs), r⟩
theorem s_ishl (H : Ok Z k R Q y b ml rt) {x u : Int32} (hd : decode b pc = .ok (.ishl, 1)) (hp : pc + 1 = pc') (g : Go Z k cn sn M pc' Ls (.int (x <<< (u &&& 31)) :: st)) : Go Z k cn sn M pc Ls (.int u :: .int x :: st) := by
  obtain ⟨p, l, e, R', s, m, args, below, meth, c, Q'⟩ := k
  obtain ⟨hx, hZ, hby, -⟩ := H
  subst hp
  intro T w
  have w' := w
  obtain ⟨locs, X, F, O⟩ := w
  obtain ⟨t, o, hs, r⟩ := g T w'
  exact ⟨t, o, XS.ishl X.here hx rfl (hb hby hd) rfl hs, r⟩
theorem s_ishr (H : Ok Z k R Q y b ml rt) {x u : Int32} (hd : decode b pc = .ok (.ishr, 1)) (hp : pc + 1 = pc') (g : Go Z k cn sn M pc' Ls (.int (x >>> (u &&& 31)) :: st)) : Go Z k cn sn M pc Ls (.int u :: .int x :: st) := by
  obtain ⟨p, l, e, R', s, m, args, below, meth, c, Q'⟩ := k
  obtain ⟨hx, hZ, hby, -⟩ := H
  subst hp
  intro T w
  have w' := w
  obtain ⟨locs, X, F, O⟩ := w
  obtain ⟨t, o, hs, r⟩ := g T w'
  exact ⟨t, o, XS.ishr X.here hx rfl (hb hby hd) rfl hs, r⟩
theorem s_iushr (H : Ok Z k R Q y b ml rt) {x u : Int32} (hd : decode b pc = .ok (.iushr, 1)) (hp : pc + 1 = pc') (g : Go Z k cn sn M pc' Ls (.int ((x.toUInt32 >>> (u &&& 31).toUInt32).toInt32) :: st)) : Go Z k cn sn M pc Ls (.int u :: .int x :: st) := by
  obtain ⟨p, l, e, R', s, m, args, below, meth, c, Q'⟩ := k
  obtain ⟨hx, hZ, hby, -⟩ := H
  subst hp
  intro T w
  have w' := w
  obtain ⟨locs, X, F, O⟩ := w
  obtain ⟨t, o, hs, r⟩ := g T w'
  exact ⟨t, o, XS.iushr X.here hx rfl (hb hby hd) rfl hs, r⟩
theorem s_lshl (H : Ok Z k R Q y b ml rt) {x : Int64} {u : Int32} (hd : decode b pc = .ok (.lshl, 1)) (hp : pc + 1 = pc') (g : Go Z k cn sn M pc' Ls (.long (x <<< (u &&& 0x3f).toInt64) :: st)) : Go Z k cn sn M pc Ls (.int u :: .long x :: st) := by
  obtain ⟨p, l, e, R', s, m, args, below, meth, c, Q'⟩ := k
  obtain ⟨hx, hZ, hby, -⟩ := H
  subst hp
  intro T w
  have w' := w
  obtain ⟨locs, X, F, O⟩ := w
  obtain ⟨t, o, hs, r⟩ := g T w'
  exact ⟨t, o, XS.lshl X.here hx rfl (hb hby hd) rfl hs, r⟩
theorem s_lshr (H : Ok Z k R Q y b ml rt) {x : Int64} {u : Int32} (hd : decode b pc = .ok (.lshr, 1)) (hp : pc + 1 = pc') (g : Go Z k cn sn M pc' Ls (.long (x >>> (u &&& 0x3f).toInt64) :: st)) : Go Z k cn sn M pc Ls (.int u :: .long x :: st) := by
  obtain ⟨p, l, e, R', s, m, args, below, meth, c, Q'⟩ := k
  obtain ⟨hx, hZ, hby, -⟩ := H
  subst hp
  intro T w
  have w' := w
  obtain ⟨locs, X, F, O⟩ := w
  obtain ⟨t, o, hs, r⟩ := g T w'
  exact ⟨t, o, XS.lshr X.here hx rfl (hb hby hd) rfl hs, r⟩
theorem s_lushr (H : Ok Z k R Q y b ml rt) {x : Int64} {u : Int32} (hd : decode b pc = .ok (.lushr, 1)) (hp : pc + 1 = pc') (g : Go Z k cn sn M pc' Ls (.long ((x.toUInt64 >>> (u &&& 0x3f).toInt64.toUInt64).toInt64) :: st)) : Go Z k cn sn M pc Ls (.int u :: .long x :: st) := by
  obtain ⟨p, l, e, R', s, m, args, below, meth, c, Q'⟩ := k
  obtain ⟨hx, hZ, hby, -⟩ := H
  subst hp
  intro T w
  have w' := w
  obtain ⟨locs, X, F, O⟩ := w
  obtain ⟨t, o, hs, r⟩ := g T w'
  exact ⟨t, o, XS.lushr X.here hx rfl (hb hby hd) rfl hs, r⟩
theorem s_i2l (H : Ok Z k R Q y b ml rt) {x : Int32} (hd : decode b pc = .ok (.i2l, 1)) (hp : pc + 1 = pc') (g : Go Z k cn sn M pc' Ls (.long (x.toInt64) :: st)) : Go Z k cn sn M pc Ls (.int x :: st) := by
  obtain ⟨p, l, e, R', s, m, args, below, meth, c, Q'⟩ := k
  obtain ⟨hx, hZ, hby, -⟩ := H
  subst hp
  intro T w
  have w' := w
  obtain ⟨locs, X, F, O⟩ := w
  obtain ⟨t, o, hs, r⟩ := g T w'
  exact ⟨t, o, XS.i2l X.here hx rfl (hb hby hd) rfl hs, r⟩
theorem s_l2i (H : Ok Z k R Q y b ml rt) {x : Int64} (hd : decode b pc = .ok (.l2i, 1)) (hp : pc + 1 = pc') (g : Go Z k cn sn M pc' Ls (.int (x.toInt32) :: st)) : Go Z k cn sn M pc Ls (.long x :: st) := by
  obtain ⟨p, l, e, R', s, m, args, below, meth, c, Q'⟩ := k
  obtain ⟨hx, hZ, hby, -⟩ := H
  subst hp
  intro T w
  have w' := w
  obtain ⟨locs, X, F, O⟩ := w
  obtain ⟨t, o, hs, r⟩ := g T w'
  exact ⟨t, o, XS.l2i X.here hx rfl (hb hby hd) rfl hs, r⟩
theorem s_i2b (H : Ok Z k R Q y b ml rt) {x : Int32} (hd : decode b pc = .ok (.i2b, 1)) (hp : pc + 1 = pc') (g : Go Z k cn sn M pc' Ls (.int (x.toInt8.toInt32) :: st)) : Go Z k cn sn M pc Ls (.int x :: st) := by
  obtain ⟨p, l, e, R', s, m, args, below, meth, c, Q'⟩ := k
  obtain ⟨hx, hZ, hby, -⟩ := H
  subst hp
  intro T w
  have w' := w
  obtain ⟨locs, X, F, O⟩ := w
  obtain ⟨t, o, hs, r⟩ := g T w'
  exact ⟨t, o, XS.i2b X.here hx rfl (hb hby hd) rfl hs, r⟩
theorem s_i2c (H : Ok Z k R Q y b ml rt) {x : Int32} (hd : decode b pc = .ok (.i2c, 1)) (hp : pc + 1 = pc') (g : Go Z k cn sn M pc' Ls (.int (x.toUInt32.toUInt16.toUInt32.toInt32) :: st)) : Go Z k cn sn M pc Ls (.int x :: st) := by
  obtain ⟨p, l, e, R', s, m, args, below, meth, c, Q'⟩ := k
  obtain ⟨hx, hZ, hby, -⟩ := H
  subst hp
  intro T w
  have w' := w
  obtain ⟨locs, X, F, O⟩ := w
  obtain ⟨t, o, hs, r⟩ := g T w'
  exact ⟨t, o, XS.i2c X.here hx rfl (hb hby hd) rfl hs, r⟩
theorem s_i2s (H : Ok Z k R Q y b ml rt) {x : Int32} (hd : decode b pc = .ok (.i2s, 1)) (hp : pc + 1 = pc') (g : Go Z k cn sn M pc' Ls (.int (x.toInt16.toInt32) :: st)) : Go Z k cn sn M pc Ls (.int x :: st) := by
  obtain ⟨p, l, e, R', s, m, args, below, meth, c, Q'⟩ := k
  obtain ⟨hx, hZ, hby, -⟩ := H
  subst hp
  intro T w
  have w' := w
  obtain ⟨locs, X, F, O⟩ := w
  obtain ⟨t, o, hs, r⟩ := g T w'
  exact ⟨t, o, XS.i2s X.here hx rfl (hb hby hd) rfl hs, r⟩
theorem s_lcmp (H : Ok Z k R Q y b ml rt) {x u : Int64} (hd : decode b pc = .ok (.lcmp, 1)) (hp : pc + 1 = pc') (g : Go Z k cn sn M pc' Ls (.int (lcmpW x u) :: st)) : Go Z k cn sn M pc Ls (.long u :: .long x :: st) := by
  obtain ⟨p, l, e, R', s, m, args, below, meth, c, Q'⟩ := k
  obtain ⟨hx, hZ, hby, -⟩ := H
  subst hp
  intro T w
  have w' := w
  obtain ⟨locs, X, F, O⟩ := w
  obtain ⟨t, o, hs, r⟩ := g T w'
  exact ⟨t, o, XS.lcmp X.here hx rfl (hb hby hd) rfl hs, r⟩
theorem s_dup (H : Ok Z k R Q y b ml rt) {v : Value} (hd : decode b pc = .ok (.dup, 1)) (hc : v.category = 1) (hp : pc + 1 = pc') (g : Go Z k cn sn M pc' Ls (v :: v :: st)) : Go Z k cn sn M pc Ls (v :: st) := by
  obtain ⟨p, l, e, R', s, m, args, below, meth, c, Q'⟩ := k
  obtain ⟨hx, hZ, hby, -⟩ := H
  subst hp
  intro T w
  have w' := w
  obtain ⟨locs, X, F, O⟩ := w
  obtain ⟨t, o, hs, r⟩ := g T w'
  exact ⟨t, o, XS.dup X.here hx rfl (hb hby hd) rfl hc hs, r⟩
theorem s_dupx1 (H : Ok Z k R Q y b ml rt) {v v' : Value} (hd : decode b pc = .ok (.dup_x1, 1)) (hc : v.category = 1) (hc' : v'.category = 1) (hp : pc + 1 = pc') (g : Go Z k cn sn M pc' Ls (v :: v' :: v :: st)) : Go Z k cn sn M pc Ls (v :: v' :: st) := by
  obtain ⟨p, l, e, R', s, m, args, below, meth, c, Q'⟩ := k
  obtain ⟨hx, hZ, hby, -⟩ := H
  subst hp
  intro T w
  have w' := w
  obtain ⟨locs, X, F, O⟩ := w
  obtain ⟨t, o, hs, r⟩ := g T w'
  exact ⟨t, o, XS.dupX1 X.here hx rfl (hb hby hd) rfl hc hc' hs, r⟩
theorem s_dup2 (H : Ok Z k R Q y b ml rt) {v v' : Value} (hd : decode b pc = .ok (.dup2, 1)) (hc : v.category = 1) (hc' : v'.category = 1) (hp : pc + 1 = pc') (g : Go Z k cn sn M pc' Ls (v :: v' :: v :: v' :: st)) : Go Z k cn sn M pc Ls (v :: v' :: st) := by
  obtain ⟨p, l, e, R', s, m, args, below, meth, c, Q'⟩ := k
  obtain ⟨hx, hZ, hby, -⟩ := H
  subst hp
  intro T w
  have w' := w
  obtain ⟨locs, X, F, O⟩ := w
  obtain ⟨t, o, hs, r⟩ := g T w'
  exact ⟨t, o, XT.dup2 X.here hx rfl (hb hby hd) rfl hc hc' hs, r⟩
theorem s_dup2l (H : Ok Z k R Q y b ml rt) {x : Int64} (hd : decode b pc = .ok (.dup2, 1)) (hp : pc + 1 = pc') (g : Go Z k cn sn M pc' Ls (.long x :: .long x :: st)) : Go Z k cn sn M pc Ls (.long x :: st) := by
  obtain ⟨p, l, e, R', s, m, args, below, meth, c, Q'⟩ := k
  obtain ⟨hx, hZ, hby, -⟩ := H
  subst hp
  intro T w
  have w' := w
  obtain ⟨locs, X, F, O⟩ := w
  obtain ⟨t, o, hs, r⟩ := g T w'
  exact ⟨t, o, XT.dup2L X.here hx rfl (hb hby hd) rfl hs, r⟩
theorem s_pop (H : Ok Z k R Q y b ml rt) {v : Value} (hd : decode b pc = .ok (.pop, 1)) (hc : v.category = 1) (hp : pc + 1 = pc') (g : Go Z k cn sn M pc' Ls (st)) : Go Z k cn sn M pc Ls (v :: st) := by
  obtain ⟨p, l, e, R', s, m, args, below, meth, c, Q'⟩ := k
  obtain ⟨hx, hZ, hby, -⟩ := H
  subst hp
  intro T w
  have w' := w
  obtain ⟨locs, X, F, O⟩ := w
  obtain ⟨t, o, hs, r⟩ := g T w'
  exact ⟨t, o, XS.pop X.here hx rfl (hb hby hd) rfl hc hs, r⟩
theorem s_iinc (H : Ok Z k R Q y b ml rt) {i : Nat} {cst : Int} {x u : Int32} {L' : Int32 → Array Slot} (hd : decode b pc = .ok (.iinc i cst, 3)) (hl0 : Ls[i]? = some (.val (.int x))) (hu : u = Int32.ofInt cst) (hl : ∀ z, storeLocals Ls i (.int z) = some (L' z)) (hp : pc + 3 = pc') (g : ∀ z, z = x + u → Go Z k cn sn M pc' (L' z) st) : Go Z k cn sn M pc Ls st := by
  obtain ⟨p, l, e, R', s, m, args, below, meth, c, Q'⟩ := k
  obtain ⟨hx, hZ, hby, -⟩ := H
  subst hp hu
  intro T w
  have w' := w
  obtain ⟨locs, X, F, O⟩ := w
  obtain ⟨t, o, hs, r⟩ := g _ rfl T w'
  exact ⟨t, o, XS.iinc X.here hx rfl (hb hby hd) hl0 (hl _) hs, r⟩
theorem s_goto (H : Ok Z k R Q y b ml rt) {o : Int} (hd : decode b pc = .ok (.goto o, 3)) (ho : (pc : Int) + o = pc') (g : Go Z k cn sn M pc' Ls st) : Go Z k cn sn M pc Ls st := by
  obtain ⟨p, l, e, R', s, m, args, below, meth, c, Q'⟩ := k
  obtain ⟨hx, hZ, hby, -⟩ := H
  intro T w
  have w' := w
  obtain ⟨locs, X, F, O⟩ := w
  obtain ⟨t, o, hs, r⟩ := g T w'
  exact ⟨t, o, XS.goto X.here hx rfl (pc0 := pc) rfl (hb hby hd) (by omega) (by omega) hs, r⟩
theorem s_if (H : Ok Z k R Q y b ml rt) {cd : ClassFile.Cond} {o : Int} {x : Int32} {py : Nat} {φ : Prop} (hd : decode b pc = .ok (.ifCond cd o, 3)) (hq : ifCond.holds cd x = true ↔ φ) (ho : (pc : Int) + o = py) (hp : pc + 3 = pc') (gy : φ → Go Z k cn sn M py Ls st) (gn : ¬ φ → Go Z k cn sn M pc' Ls st) : Go Z k cn sn M pc Ls (.int x :: st) := by
  obtain ⟨p, l, e, R', s, m, args, below, meth, c, Q'⟩ := k
  obtain ⟨hx, hZ, hby, -⟩ := H
  subst hp
  intro T w
  have w' := w
  obtain ⟨locs, X, F, O⟩ := w
  cases hh : ifCond.holds cd x with
  | true =>
    obtain ⟨t, o, hs, r⟩ := gy (hq.mp hh) T w'
    exact ⟨t, o, XS.ifYes X.here hx rfl (pc0 := pc) rfl (hb hby hd) rfl hh (by omega) (by omega) hs, r⟩
  | false =>
    obtain ⟨t, o, hs, r⟩ := gn (fun q => by rw [hq.mpr q] at hh; cases hh) T w'
    exact ⟨t, o, XS.ifNo X.here hx rfl (hb hby hd) rfl hh hs, r⟩
theorem s_icmp (H : Ok Z k R Q y b ml rt) {cd : ClassFile.Cond} {o : Int} {x u : Int32} {py : Nat} {φ : Prop} (hd : decode b pc = .ok (.if_icmp cd o, 3)) (hq : if_icmp.holds cd x u = true ↔ φ) (ho : (pc : Int) + o = py) (hp : pc + 3 = pc') (gy : φ → Go Z k cn sn M py Ls st) (gn : ¬ φ → Go Z k cn sn M pc' Ls st) : Go Z k cn sn M pc Ls (.int u :: .int x :: st) := by
  obtain ⟨p, l, e, R', s, m, args, below, meth, c, Q'⟩ := k
  obtain ⟨hx, hZ, hby, -⟩ := H
  subst hp
  intro T w
  have w' := w
  obtain ⟨locs, X, F, O⟩ := w
  cases hh : if_icmp.holds cd x u with
  | true =>
    obtain ⟨t, o, hs, r⟩ := gy (hq.mp hh) T w'
    exact ⟨t, o, XS.icmpYes X.here hx rfl (pc0 := pc) rfl (hb hby hd) rfl hh (by omega) (by omega) hs, r⟩
  | false =>
    obtain ⟨t, o, hs, r⟩ := gn (fun q => by rw [hq.mpr q] at hh; cases hh) T w'
    exact ⟨t, o, XS.icmpNo X.here hx rfl (hb hby hd) rfl hh hs, r⟩
theorem q_eq {x u : Int32} : if_icmp.holds .eq x u = true ↔ x = u := by simp [if_icmp.holds]
theorem z_eq {x : Int32} : ifCond.holds .eq x = true ↔ x = 0 := by rw [if0]; exact q_eq
theorem q_ne {x u : Int32} : if_icmp.holds .ne x u = true ↔ ¬ x = u := by simp [if_icmp.holds]
theorem z_ne {x : Int32} : ifCond.holds .ne x = true ↔ ¬ x = 0 := by rw [if0]; exact q_ne
theorem q_lt {x u : Int32} : if_icmp.holds .lt x u = true ↔ x < u := by simp [if_icmp.holds]
theorem z_lt {x : Int32} : ifCond.holds .lt x = true ↔ x < 0 := by rw [if0]; exact q_lt
theorem q_ge {x u : Int32} : if_icmp.holds .ge x u = true ↔ u ≤ x := by simp [if_icmp.holds]
theorem z_ge {x : Int32} : ifCond.holds .ge x = true ↔ 0 ≤ x := by rw [if0]; exact q_ge
theorem q_gt {x u : Int32} : if_icmp.holds .gt x u = true ↔ u < x := by simp [if_icmp.holds]
theorem z_gt {x : Int32} : ifCond.holds .gt x = true ↔ 0 < x := by rw [if0]; exact q_gt
theorem q_le {x u : Int32} : if_icmp.holds .le x u = true ↔ x ≤ u := by simp [if_icmp.holds]
theorem z_le {x : Int32} : ifCond.holds .le x = true ↔ x ≤ 0 := by rw [if0]; exact q_le
theorem l_eq {x u : Int64} : ifCond.holds .eq (lcmpW x u) = true ↔ x = u := z_eq.trans (lw_eq x u)
theorem l_ne {x u : Int64} : ifCond.holds .ne (lcmpW x u) = true ↔ ¬ x = u := z_ne.trans (not_congr (lw_eq x u))
theorem l_lt {x u : Int64} : ifCond.holds .lt (lcmpW x u) = true ↔ x < u := z_lt.trans (lw_lt x u)
theorem l_gt {x u : Int64} : ifCond.holds .gt (lcmpW x u) = true ↔ u < x := z_gt.trans (lw_gt x u)
theorem l_ge {x u : Int64} : ifCond.holds .ge (lcmpW x u) = true ↔ u ≤ x := z_ge.trans (by rw [lcW]; exact lc_ge x u)
theorem l_le {x u : Int64} : ifCond.holds .le (lcmpW x u) = true ↔ x ≤ u := z_le.trans (by rw [lcW]; exact lc_le x u)
theorem s_ifnull (H : Ok Z k R Q y b ml rt) {o : Int} {a : Addr} (hd : decode b pc = .ok (.ifnull o, 3)) (hp : pc + 3 = pc') (g : Go Z k cn sn M pc' Ls st) : Go Z k cn sn M pc Ls (.ref a :: st) := by
  obtain ⟨p, l, e, R', s, m, args, below, meth, c, Q'⟩ := k
  obtain ⟨hx, hZ, hby, -⟩ := H
  subst hp
  intro T w
  have w' := w
  obtain ⟨locs, X, F, O⟩ := w
  obtain ⟨t, o, hs, r⟩ := g T w'
  exact ⟨t, o, XS.ifnullNo X.here hx rfl (hb hby hd) rfl hs, r⟩
theorem s_acmpne (H : Ok Z k R Q y b ml rt) {o : Int} {a a' : Addr} {py : Nat} (hd : decode b pc = .ok (.if_acmp .ne o, 3)) (hne : a ≠ a') (ho : (pc : Int) + o = py) (g : Go Z k cn sn M py Ls st) : Go Z k cn sn M pc Ls (.ref a' :: .ref a :: st) := by
  obtain ⟨p, l, e, R', s, m, args, below, meth, c, Q'⟩ := k
  obtain ⟨hx, hZ, hby, -⟩ := H
  intro T w
  have w' := w
  obtain ⟨locs, X, F, O⟩ := w
  obtain ⟨t, o, hs, r⟩ := g T w'
  exact ⟨t, o, XS.acmpYes X.here hx rfl (pc0 := pc) rfl (hb hby hd) rfl (by simp [if_acmp.holds, hne]) (by omega) (by omega) hs, r⟩
theorem s_acmpeq (H : Ok Z k R Q y b ml rt) {o : Int} {a a' : Addr} (hd : decode b pc = .ok (.if_acmp .eq o, 3)) (hne : a ≠ a') (hp : pc + 3 = pc') (g : Go Z k cn sn M pc' Ls st) : Go Z k cn sn M pc Ls (.ref a' :: .ref a :: st) := by
  obtain ⟨p, l, e, R', s, m, args, below, meth, c, Q'⟩ := k
  obtain ⟨hx, hZ, hby, -⟩ := H
  subst hp
  intro T w
  have w' := w
  obtain ⟨locs, X, F, O⟩ := w
  obtain ⟨t, o, hs, r⟩ := g T w'
  exact ⟨t, o, XS.acmpNo X.here hx rfl (hb hby hd) rfl (by simp [if_acmp.holds, hne]) hs, r⟩
theorem s_ldc2 (H : Ok Z k R Q y b ml rt) {i : Nat} {z : Int64} (hd : decode b pc = .ok (.ldc2_w i, 3)) (w1 : Jvm.Cond.constantLong y.cls i z ∈ tables_1) (hp : pc + 3 = pc') (g : Go Z k cn sn M pc' Ls (.long z :: st)) : Go Z k cn sn M pc Ls st := by
  obtain ⟨p, l, e, R', s, m, args, below, meth, c, Q'⟩ := k
  obtain ⟨hx, hZ, hby, -, hown, -, -, -, ⟨a0, hw⟩, -⟩ := H
  subst hp
  intro T w
  have w' := w
  obtain ⟨locs, X, F, O⟩ := w
  obtain ⟨t, o, hs, r⟩ := g T w'
  exact ⟨t, o, X.ldc2Long hx hown (mvT hZ (hw _ w1)) (g := mkF m pc Ls st) rfl (hb hby hd) _ hs, r⟩
theorem s_ldc (H : Ok Z k R Q y b ml rt) {i : Nat} {z : Int32} (hd : decode b pc = .ok (.ldc i, 2)) (w1 : Jvm.Cond.constant y.cls i z ∈ tables_1) (hp : pc + 2 = pc') (g : Go Z k cn sn M pc' Ls (.int z :: st)) : Go Z k cn sn M pc Ls st := by
  obtain ⟨p, l, e, R', s, m, args, below, meth, c, Q'⟩ := k
  obtain ⟨hx, hZ, hby, -, hown, -, -, -, ⟨a0, hw⟩, -⟩ := H
  subst hp
  intro T w
  have w' := w
  obtain ⟨locs, X, F, O⟩ := w
  obtain ⟨t, o, hs, r⟩ := g T w'
  exact ⟨t, o, X.ldcInt hx hown (mvT hZ (hw _ w1)) (g := mkF m pc Ls st) rfl (hb hby hd) _ hs, r⟩
/-! the heap's steps -/
theorem nb_of {n : Nat} {j : Int32} (h0 : ¬ j < 0) (hl : j.toNatClampNeg < n) : ¬ (j < 0 ∨ n ≤ j.toNatClampNeg) := fun q => q.elim h0 fun r => Nat.not_lt.mpr r hl
theorem s_alenI (H : Ok Z k R Q y b ml rt) {i : Nat} {a : Addr} {ty : FieldType} {vs : List Int32} {z : Int32} (hd : decode b pc = .ok (.arraylength, 1)) (hi : M[i]? = some (a, ArI Z ty vs)) (hz : z = vs.length.toInt32) (hp : pc + 1 = pc') (g : Go Z k cn sn M pc' Ls (.int z :: st)) : Go Z k cn sn M pc Ls (.ref a :: st) := by
  obtain ⟨p, l, e, R', s, m, args, below, meth, c, Q'⟩ := k
  obtain ⟨hx, hZ, hby, -⟩ := H
  subst hp hz
  intro T w
  have w' := w
  obtain ⟨locs, X, F, O⟩ := w
  obtain ⟨-, cl, q1, q2⟩ := O.2.1 i _ hi
  obtain ⟨t, o, hs, r⟩ := g T w'
  exact ⟨t, o, X.arraylength hx q1 (State.isArrayOf_alike hZ.alike q2.1) (g := mkF m pc Ls (.ref a :: st)) rfl rfl (hb hby hd) _ (by rw [q2.size]; exact hs), r⟩
theorem s_alenL (H : Ok Z k R Q y b ml rt) {i : Nat} {a : Addr} {vs : List Int64} {z : Int32} (hd : decode b pc = .ok (.arraylength, 1)) (hi : M[i]? = some (a, ArL Z vs)) (hz : z = vs.length.toInt32) (hp : pc + 1 = pc') (g : Go Z k cn sn M pc' Ls (.int z :: st)) : Go Z k cn sn M pc Ls (.ref a :: st) := by
  obtain ⟨p, l, e, R', s, m, args, below, meth, c, Q'⟩ := k
  obtain ⟨hx, hZ, hby, -⟩ := H
  subst hp hz
  intro T w
  have w' := w
  obtain ⟨locs, X, F, O⟩ := w
  obtain ⟨-, cl, q1, q2⟩ := O.2.1 i _ hi
  obtain ⟨t, o, hs, r⟩ := g T w'
  exact ⟨t, o, X.arraylength hx q1 (State.isArrayOf_alike hZ.alike q2.1) (g := mkF m pc Ls (.ref a :: st)) rfl rfl (hb hby hd) _ (by rw [q2.size]; exact hs), r⟩
theorem s_iaload (H : Ok Z k R Q y b ml rt) {i : Nat} {a : Addr} {vs : List Int32} {j : Int32} {x : Int32} (hd : decode b pc = .ok (.iaload, 1)) (hi : M[i]? = some (a, ArI Z .int vs)) (h0 : ¬ j < 0) {jn : Nat} (hjn : j.toNatClampNeg = jn) (hv : vs[jn]? = some x) (hp : pc + 1 = pc') (g : Go Z k cn sn M pc' Ls (.int x :: st)) : Go Z k cn sn M pc Ls (.int j :: .ref a :: st) := by
  obtain ⟨p, l, e, R', s, m, args, below, meth, c, Q'⟩ := k
  obtain ⟨hx, hZ, hby, -⟩ := H
  subst hp hjn
  intro T w
  have w' := w
  obtain ⟨locs, X, F, O⟩ := w
  obtain ⟨-, cl, q1, q2⟩ := O.2.1 i _ hi
  obtain ⟨t, o, hs, r⟩ := g T w'
  have hlt : j.toNatClampNeg < vs.length := (List.getElem?_eq_some_iff.mp hv).1
  exact ⟨t, o, X.iaload hx (v := .int x) q1 (State.isArrayOf_alike hZ.alike q2.1) q2.2.1 (nb_of h0 (by rw [q2.size]; exact hlt)) (by rw [q2.2.2.1]; simp [hv]) (g := mkF m pc Ls (.int j :: .ref a :: st)) rfl rfl (hb hby hd) _ hs, r⟩
theorem s_baload (H : Ok Z k R Q y b ml rt) {i : Nat} {a : Addr} {vs : List Int32} {j : Int32} {x : Int32} (hd : decode b pc = .ok (.baload, 1)) (hi : M[i]? = some (a, ArI Z .byte vs)) (h0 : ¬ j < 0) {jn : Nat} (hjn : j.toNatClampNeg = jn) (hv : vs[jn]? = some x) (hp : pc + 1 = pc') (g : Go Z k cn sn M pc' Ls (.int x :: st)) : Go Z k cn sn M pc Ls (.int j :: .ref a :: st) := by
  obtain ⟨p, l, e, R', s, m, args, below, meth, c, Q'⟩ := k
  obtain ⟨hx, hZ, hby, -⟩ := H
  subst hp hjn
  intro T w
  have w' := w
  obtain ⟨locs, X, F, O⟩ := w
  obtain ⟨-, cl, q1, q2⟩ := O.2.1 i _ hi
  obtain ⟨t, o, hs, r⟩ := g T w'
  have hlt : j.toNatClampNeg < vs.length := (List.getElem?_eq_some_iff.mp hv).1
  exact ⟨t, o, X.baloadBytes hx (v := .int x) q1 (State.isArrayOf_alike hZ.alike q2.1) q2.2.1 (nb_of h0 (by rw [q2.size]; exact hlt)) (by rw [q2.2.2.1]; simp [hv]) (g := mkF m pc Ls (.int j :: .ref a :: st)) rfl rfl (hb hby hd) _ hs, r⟩
theorem s_zaload (H : Ok Z k R Q y b ml rt) {i : Nat} {a : Addr} {vs : List Int32} {j : Int32} {x : Int32} (hd : decode b pc = .ok (.baload, 1)) (hi : M[i]? = some (a, ArI Z .boolean vs)) (h0 : ¬ j < 0) {jn : Nat} (hjn : j.toNatClampNeg = jn) (hv : vs[jn]? = some x) (hp : pc + 1 = pc') (g : Go Z k cn sn M pc' Ls (.int x :: st)) : Go Z k cn sn M pc Ls (.int j :: .ref a :: st) := by
  obtain ⟨p, l, e, R', s, m, args, below, meth, c, Q'⟩ := k
  obtain ⟨hx, hZ, hby, -⟩ := H
  subst hp hjn
  intro T w
  have w' := w
  obtain ⟨locs, X, F, O⟩ := w
  obtain ⟨-, cl, q1, q2⟩ := O.2.1 i _ hi
  obtain ⟨t, o, hs, r⟩ := g T w'
  have hlt : j.toNatClampNeg < vs.length := (List.getElem?_eq_some_iff.mp hv).1
  exact ⟨t, o, X.baloadBooleans hx (v := .int x) q1 (State.isArrayOf_alike hZ.alike q2.1) q2.2.1 (nb_of h0 (by rw [q2.size]; exact hlt)) (by rw [q2.2.2.1]; simp [hv]) (g := mkF m pc Ls (.int j :: .ref a :: st)) rfl rfl (hb hby hd) _ hs, r⟩
theorem s_laload (H : Ok Z k R Q y b ml rt) {i : Nat} {a : Addr} {vs : List Int64} {j : Int32} {x : Int64} (hd : decode b pc = .ok (.laload, 1)) (hi : M[i]? = some (a, ArL Z vs)) (h0 : ¬ j < 0) {jn : Nat} (hjn : j.toNatClampNeg = jn) (hv : vs[jn]? = some x) (hp : pc + 1 = pc') (g : Go Z k cn sn M pc' Ls (.long x :: st)) : Go Z k cn sn M pc Ls (.int j :: .ref a :: st) := by
  obtain ⟨p, l, e, R', s, m, args, below, meth, c, Q'⟩ := k
  obtain ⟨hx, hZ, hby, -⟩ := H
  subst hp hjn
  intro T w
  have w' := w
  obtain ⟨locs, X, F, O⟩ := w
  obtain ⟨-, cl, q1, q2⟩ := O.2.1 i _ hi
  obtain ⟨t, o, hs, r⟩ := g T w'
  have hlt : j.toNatClampNeg < vs.length := (List.getElem?_eq_some_iff.mp hv).1
  exact ⟨t, o, X.laload hx (v := .long x) q1 (State.isArrayOf_alike hZ.alike q2.1) q2.2.1 (nb_of h0 (by rw [q2.size]; exact hlt)) (by rw [q2.2.2.1]; simp [hv]) (g := mkF m pc Ls (.int j :: .ref a :: st)) rfl rfl (hb hby hd) _ hs, r⟩
theorem s_iastore (H : Ok Z k R Q y b ml rt) {i : Nat} {a : Addr} {vs : List Int32} {j : Int32} {x : Int32} (hd : decode b pc = .ok (.iastore, 1)) (hi : M[i]? = some (a, ArI Z .int vs)) (h0 : ¬ j < 0) {jn : Nat} (hjn : j.toNatClampNeg = jn) (hj : jn < vs.length) (hp : pc + 1 = pc') (g : Go Z k cn sn (M.set i (a, ArI Z .int (vs.set jn x))) pc' Ls st) : Go Z k cn sn M pc Ls (.int x :: .int j :: .ref a :: st) := by
  obtain ⟨p, l, e, R', s, m, args, below, meth, c, Q'⟩ := k
  obtain ⟨hx, hZ, hby, -⟩ := H
  subst hp hjn
  intro T w
  obtain ⟨locs, X, F, O⟩ := w
  obtain ⟨q0, cl, q1, q2⟩ := O.2.1 i _ hi
  obtain ⟨T', h', X', e', W, sg⟩ := stI X hx hZ rfl (q2.arr q1) (j := j) (nb_of h0 (by rw [q2.size]; exact hj)) (g := mkF m pc Ls (.int x :: .int j :: .ref a :: st)) rfl rfl (hb hby hd)
  obtain ⟨t, o, hs, r⟩ := g T' ⟨_, X', Fr.snoc X' F q0, e' ▸ O.upd hi W fun c _ hc => hc.put _ rfl⟩
  exact ⟨t, o, sg _ hs, r⟩
theorem s_bastore (H : Ok Z k R Q y b ml rt) {i : Nat} {a : Addr} {vs : List Int32} {j : Int32} {x0 x : Int32} (hd : decode b pc = .ok (.bastore, 1)) (hi : M[i]? = some (a, ArI Z .byte vs)) (h0 : ¬ j < 0) {jn : Nat} (hjn : j.toNatClampNeg = jn) (hj : jn < vs.length) (hn : x = nar .byte x0) (hp : pc + 1 = pc') (g : Go Z k cn sn (M.set i (a, ArI Z .byte (vs.set jn x))) pc' Ls st) : Go Z k cn sn M pc Ls (.int x0 :: .int j :: .ref a :: st) := by
  obtain ⟨p, l, e, R', s, m, args, below, meth, c, Q'⟩ := k
  obtain ⟨hx, hZ, hby, -⟩ := H
  subst hp hjn hn
  intro T w
  obtain ⟨locs, X, F, O⟩ := w
  obtain ⟨q0, cl, q1, q2⟩ := O.2.1 i _ hi
  obtain ⟨T', h', X', e', W, sg⟩ := stB X hx hZ rfl (q2.arr q1) (j := j) (nb_of h0 (by rw [q2.size]; exact hj)) (g := mkF m pc Ls (.int x0 :: .int j :: .ref a :: st)) rfl rfl (hb hby hd)
  obtain ⟨t, o, hs, r⟩ := g T' ⟨_, X', Fr.snoc X' F q0, e' ▸ O.upd hi W fun c _ hc => hc.put _ (fits_nar_byte _)⟩
  exact ⟨t, o, sg _ hs, r⟩
theorem s_zastore (H : Ok Z k R Q y b ml rt) {i : Nat} {a : Addr} {vs : List Int32} {j : Int32} {x0 x : Int32} (hd : decode b pc = .ok (.bastore, 1)) (hi : M[i]? = some (a, ArI Z .boolean vs)) (h0 : ¬ j < 0) {jn : Nat} (hjn : j.toNatClampNeg = jn) (hj : jn < vs.length) (hn : x = nar .boolean x0) (hp : pc + 1 = pc') (g : Go Z k cn sn (M.set i (a, ArI Z .boolean (vs.set jn x))) pc' Ls st) : Go Z k cn sn M pc Ls (.int x0 :: .int j :: .ref a :: st) := by
  obtain ⟨p, l, e, R', s, m, args, below, meth, c, Q'⟩ := k
  obtain ⟨hx, hZ, hby, -⟩ := H
  subst hp hjn hn
  intro T w
  obtain ⟨locs, X, F, O⟩ := w
  obtain ⟨q0, cl, q1, q2⟩ := O.2.1 i _ hi
  obtain ⟨T', h', X', e', W, sg⟩ := stZ X hx hZ rfl (q2.arr q1) (j := j) (nb_of h0 (by rw [q2.size]; exact hj)) (g := mkF m pc Ls (.int x0 :: .int j :: .ref a :: st)) rfl rfl (hb hby hd)
  obtain ⟨t, o, hs, r⟩ := g T' ⟨_, X', Fr.snoc X' F q0, e' ▸ O.upd hi W fun c _ hc => hc.put _ (fits_nar_bool _)⟩
  exact ⟨t, o, sg _ hs, r⟩
theorem s_lastore (H : Ok Z k R Q y b ml rt) {i : Nat} {a : Addr} {vs : List Int64} {j : Int32} {x : Int64} (hd : decode b pc = .ok (.lastore, 1)) (hi : M[i]? = some (a, ArL Z vs)) (h0 : ¬ j < 0) {jn : Nat} (hjn : j.toNatClampNeg = jn) (hj : jn < vs.length) (hp : pc + 1 = pc') (g : Go Z k cn sn (M.set i (a, ArL Z (vs.set jn x))) pc' Ls st) : Go Z k cn sn M pc Ls (.long x :: .int j :: .ref a :: st) := by
  obtain ⟨p, l, e, R', s, m, args, below, meth, c, Q'⟩ := k
  obtain ⟨hx, hZ, hby, -⟩ := H
  subst hp hjn
  intro T w
  obtain ⟨locs, X, F, O⟩ := w
  obtain ⟨q0, cl, q1, q2⟩ := O.2.1 i _ hi
  obtain ⟨T', h', X', e', W, sg⟩ := stJ X hx hZ rfl (q2.arr q1) (j := j) (nb_of h0 (by rw [q2.size]; exact hj)) (g := mkF m pc Ls (.long x :: .int j :: .ref a :: st)) rfl rfl (hb hby hd)
  obtain ⟨t, o, hs, r⟩ := g T' ⟨_, X', Fr.snoc X' F q0, e' ▸ O.upd hi W fun c _ hc => hc.put _⟩
  exact ⟨t, o, sg _ hs, r⟩
theorem s_getf (H : Ok Z k R Q y b ml rt) {i j idx : Nat} {a : Addr} {C O n d : String} {fs : List Fd} {v : Value} (hd : decode b pc = .ok (.getfield idx, 3)) (w1 : Jvm.Cond.fieldLink y.cls idx O n d ∈ tables_1) (hi : M[i]? = some (a, Obj Z C fs)) (hj : fs[j]? = some (O, n, d, v)) (hp : pc + 3 = pc') (g : Go Z k cn sn M pc' Ls (v :: st)) : Go Z k cn sn M pc Ls (.ref a :: st) := by
  obtain ⟨p, l, e, R', s, m, args, below, meth, c, Q'⟩ := k
  obtain ⟨hx, hZ, hby, -, hown, -, -, -, ⟨a0, hw⟩, -⟩ := H
  subst hp
  intro T w
  obtain ⟨locs, X, F, OO⟩ := w
  obtain ⟨-, cl, q1, q2⟩ := OO.2.1 i _ hi
  obtain ⟨T', X', e', sg⟩ := getF X hx hZ hown (host := "") (Or.inl (hw _ w1)) Via.refl rfl ((q2.1 _ _ q1).2 j _ hj) (g := mkF m pc Ls (.ref a :: st)) rfl rfl (hb hby hd)
  obtain ⟨t, o, hs, r⟩ := g T' ⟨_, X', F, e' ▸ OO⟩
  exact ⟨t, o, sg _ hs, r⟩
theorem s_getfN (H : Ok Z k R Q y b ml rt) {i j idx : Nat} {a : Addr} {C O n d host : String} {fs : List Fd} {v : Value} (hd : decode b pc = .ok (.getfield idx, 3)) (w1 : Jvm.Cond.fieldLinkNest y.cls idx O n d host ∈ tables_1) (hi : M[i]? = some (a, Obj Z C fs)) (hj : fs[j]? = some (O, n, d, v)) (hp : pc + 3 = pc') (g : Go Z k cn sn M pc' Ls (v :: st)) : Go Z k cn sn M pc Ls (.ref a :: st) := by
  obtain ⟨p, l, e, R', s, m, args, below, meth, c, Q'⟩ := k
  obtain ⟨hx, hZ, hby, -, hown, -, -, -, ⟨a0, hw⟩, -⟩ := H
  subst hp
  intro T w
  obtain ⟨locs, X, F, OO⟩ := w
  obtain ⟨-, cl, q1, q2⟩ := OO.2.1 i _ hi
  obtain ⟨T', X', e', sg⟩ := getF X hx hZ hown (host := host) (Or.inr (hw _ w1)) Via.refl rfl ((q2.1 _ _ q1).2 j _ hj) (g := mkF m pc Ls (.ref a :: st)) rfl rfl (hb hby hd)
  obtain ⟨t, o, hs, r⟩ := g T' ⟨_, X', F, e' ▸ OO⟩
  exact ⟨t, o, sg _ hs, r⟩
theorem s_putf (H : Ok Z k R Q y b ml rt) {i j idx kk : Nat} {a : Addr} {C O n d : String} {fs : List Fd} {v v0 : Value} {ty : FieldType} (hd : decode b pc = .ok (.putfield idx, 3)) (w1 : Jvm.Cond.fieldLink y.cls idx O n d ∈ tables_1) (w2 : Jvm.Cond.lays C O n d ∈ tables_1 ∨ (Jvm.Cond.laysFinal C O n d ∈ tables_1 ∧ y.cls = O ∧ y.name = "<init>")) (w3 : Jvm.Cond.instantiable C kk ∈ tables_1)
    (hty : parseFieldDescriptor d = some ty) (hn : narrow ty v = v) (hf : fits ty v = true) (hi : M[i]? = some (a, Obj Z C fs)) (hj : fs[j]? = some (O, n, d, v0)) (hp : pc + 3 = pc') (g : Go Z k cn sn (M.set i (a, Obj Z C (fs.set j (O, n, d, v)))) pc' Ls st) : Go Z k cn sn M pc Ls (v :: .ref a :: st) := by
  obtain ⟨p, l, e, R', s, m, args, below, meth, c, Q'⟩ := k
  obtain ⟨hx, hZ, hby, -, hown, hnm, -, -, ⟨a0, hw⟩, -⟩ := H
  subst hp
  intro T w
  obtain ⟨locs, X, F, OO⟩ := w
  obtain ⟨q0, cl, q1, q2⟩ := OO.2.1 i _ hi
  obtain ⟨T', h', X', e', W, sg⟩ := putF X hx hZ hown (host := "") (Or.inl (hw _ w1)) Via.refl rfl ((q2.1 _ _ q1).2 j _ hj) (q2.1 _ _ q1).1 (w2.imp (fun q => hw _ q) fun q => ⟨hw _ q.1, q.2.1, hnm.trans q.2.2⟩) (hw _ w3) hty hn hf (g := mkF m pc Ls (v :: .ref a :: st)) rfl rfl (hb hby hd)
  obtain ⟨t, o, hs, r⟩ := g T' ⟨_, X', Fr.snoc X' F q0, e' ▸ OO.upd hi W fun c hc1 hc => hc.put hj hc1 W⟩
  exact ⟨t, o, sg _ hs, r⟩
def Dflt (C : String) (f : Fd) : Prop := (Jvm.Cond.lays C f.1 f.2.1 f.2.2.1 ∈ tables_1 ∨ Jvm.Cond.laysFinal C f.1 f.2.1 f.2.2.1 ∈ tables_1) ∧ ∃ ty, parseFieldDescriptor f.2.2.1 = some ty ∧ f.2.2.2 = defaultValue ty
theorem s_new (H : Ok Z k R Q y b ml rt) {idx n cn' sn' : Nat} {C : String} (fs : List Fd) (hd : decode b pc = .ok (.new idx, 3)) (w1 : Jvm.Cond.classLink y.cls idx C ∈ tables_1) (w2 : Jvm.Cond.instantiable C n ∈ tables_1) (w3 : Jvm.Cond.initialized C ∈ tables_1) (hD : ∀ f ∈ fs, Dflt C f) (hN : (fs.map fun f => f.2.1).Nodup) (hc : cn + 1 = cn') (hs : sn + n = sn') (hc' : cn' ≤ R.cells) (hs' : sn' ≤ R.slots) (hp : pc + 3 = pc')
    (g : ∀ a, Go Z k cn' sn' ((a, Obj Z C fs) :: M) pc' Ls (.ref a :: st)) : Go Z k cn sn M pc Ls st := by
  obtain ⟨p, l, e, R', s, m, args, below, meth, c, Q'⟩ := k
  obtain ⟨hx, hZ, hby, -, hown, hnm, -, -, ⟨a0, hw⟩, rfl, -⟩ := H
  subst hp hc hs
  intro T w
  obtain ⟨locs, X, F, OO⟩ := w
  obtain ⟨T', h', X', e', E, A, D, ⟨cell, hcell, -⟩, sg⟩ := newO X hx hZ hown (hw _ w1) (hw _ w2) (hw _ w3) rfl (g := mkF m pc Ls st) rfl (hb hby hd) hc' hs'
  have hL : ∀ f ∈ fs, Laid Z a0 C f.1 f.2.1 f.2.2.1 := fun f hf => (hD f hf).1.imp (fun q => hw _ q) fun q => hw _ q
  have hB : Obj Z C fs cell := by
    refine ⟨fun h2 a2 hc2 => ⟨exa_at_cell A hcell hc2, fun i f hf => ?_⟩, fun i j f f' hf hf' es => ?_⟩
    · have hm := List.mem_of_getElem? hf
      obtain ⟨-, ty, h1, h2⟩ := hD f hm
      rw [h2]
      exact fld_at_cell (D (hL f hm) h1) hcell hc2
    · obtain ⟨-, ty, h1, -⟩ := hD f (List.mem_of_getElem? hf)
      obtain ⟨-, ty', h1', -⟩ := hD f' (List.mem_of_getElem? hf')
      have hne : f.2.1 = f'.2.1 := Classical.byContradiction fun q => slot_ne (hL f (List.mem_of_getElem? hf)) (hL f' (List.mem_of_getElem? hf')) q h1 h1' es
      rw [List.nodup_iff_pairwise_ne, List.pairwise_iff_getElem] at hN
      obtain ⟨hi, rfl⟩ := List.getElem?_eq_some_iff.mp hf
      obtain ⟨hj, rfl⟩ := List.getElem?_eq_some_iff.mp hf'
      rcases Nat.lt_trichotomy i j with lt | rfl | lt
      · exact (hN i j (by simpa using hi) (by simpa using hj) lt (by simpa using hne)).elim
      · rfl
      · exact (hN j i (by simpa using hj) (by simpa using hi) lt (by simpa using hne.symm)).elim
  obtain ⟨t, o, hs, r⟩ := g _ T' ⟨_, X', F, e' ▸ OO.new E hcell hB⟩
  exact ⟨t, o, sg _ hs, r⟩
theorem s_newarr_int (H : Ok Z k R Q y b ml rt) {cn' sn' cap : Nat} {n : Int32} (hd : decode b pc = .ok (.newarray .int, 2)) (w1 : Jvm.Cond.arrayClass .int ∈ tables_1) (hn : ¬ n < 0) (hcap : n.toNatClampNeg ≤ cap) (hb8 : cap * 8 ≤ 536870912) (hc : cn + 1 = cn') (hs : sn + cap = sn') (hc' : cn' ≤ R.cells) (hs' : sn' ≤ R.slots) (hp : pc + 2 = pc')
    (g : ∀ a, Go Z k cn' sn' ((a, ArI Z .int (List.replicate n.toNatClampNeg 0)) :: M) pc' Ls (.ref a :: st)) : Go Z k cn sn M pc Ls (.int n :: st) := by
  obtain ⟨p, l, e, R', s, m, args, below, meth, c, Q'⟩ := k
  obtain ⟨hx, hZ, hby, -, hown, hnm, -, -, ⟨a0, hw⟩, rfl, -⟩ := H
  subst hp hc hs
  intro T w
  obtain ⟨locs, X, F, OO⟩ := w
  obtain ⟨T', h', cA, X', e', E, A, sg⟩ := newP X hx hZ (aty := .int) (hw _ w1) rfl (g := mkF m pc Ls (.int n :: st)) rfl (hb hby hd) rfl hn hcap hb8 hc' hs'
  have hB : ArI Z .int (List.replicate n.toNatClampNeg 0) (newA cA .int n) := ⟨A.2.1, A.2.2, by simp [newA, defaultValue], by simp; omega, fun x hx => by rw [List.eq_of_mem_replicate hx]; rfl⟩
  obtain ⟨t, o, hs, r⟩ := g _ T' ⟨_, X', F, e' ▸ OO.new E A.1 hB⟩
  exact ⟨t, o, sg _ hs, r⟩
theorem s_newarr_byte (H : Ok Z k R Q y b ml rt) {cn' sn' cap : Nat} {n : Int32} (hd : decode b pc = .ok (.newarray .byte, 2)) (w1 : Jvm.Cond.arrayClass .byte ∈ tables_1) (hn : ¬ n < 0) (hcap : n.toNatClampNeg ≤ cap) (hb8 : cap * 8 ≤ 536870912) (hc : cn + 1 = cn') (hs : sn + cap = sn') (hc' : cn' ≤ R.cells) (hs' : sn' ≤ R.slots) (hp : pc + 2 = pc')
    (g : ∀ a, Go Z k cn' sn' ((a, ArI Z .byte (List.replicate n.toNatClampNeg 0)) :: M) pc' Ls (.ref a :: st)) : Go Z k cn sn M pc Ls (.int n :: st) := by
  obtain ⟨p, l, e, R', s, m, args, below, meth, c, Q'⟩ := k
  obtain ⟨hx, hZ, hby, -, hown, hnm, -, -, ⟨a0, hw⟩, rfl, -⟩ := H
  subst hp hc hs
  intro T w
  obtain ⟨locs, X, F, OO⟩ := w
  obtain ⟨T', h', cA, X', e', E, A, sg⟩ := newP X hx hZ (aty := .byte) (hw _ w1) rfl (g := mkF m pc Ls (.int n :: st)) rfl (hb hby hd) rfl hn hcap hb8 hc' hs'
  have hB : ArI Z .byte (List.replicate n.toNatClampNeg 0) (newA cA .byte n) := ⟨A.2.1, A.2.2, by simp [newA, defaultValue], by simp; omega, fun x hx => by rw [List.eq_of_mem_replicate hx]; rfl⟩
  obtain ⟨t, o, hs, r⟩ := g _ T' ⟨_, X', F, e' ▸ OO.new E A.1 hB⟩
  exact ⟨t, o, sg _ hs, r⟩
theorem s_newarr_bool (H : Ok Z k R Q y b ml rt) {cn' sn' cap : Nat} {n : Int32} (hd : decode b pc = .ok (.newarray .boolean, 2)) (w1 : Jvm.Cond.arrayClass .boolean ∈ tables_1) (hn : ¬ n < 0) (hcap : n.toNatClampNeg ≤ cap) (hb8 : cap * 8 ≤ 536870912) (hc : cn + 1 = cn') (hs : sn + cap = sn') (hc' : cn' ≤ R.cells) (hs' : sn' ≤ R.slots) (hp : pc + 2 = pc')
    (g : ∀ a, Go Z k cn' sn' ((a, ArI Z .boolean (List.replicate n.toNatClampNeg 0)) :: M) pc' Ls (.ref a :: st)) : Go Z k cn sn M pc Ls (.int n :: st) := by
  obtain ⟨p, l, e, R', s, m, args, below, meth, c, Q'⟩ := k
  obtain ⟨hx, hZ, hby, -, hown, hnm, -, -, ⟨a0, hw⟩, rfl, -⟩ := H
  subst hp hc hs
  intro T w
  obtain ⟨locs, X, F, OO⟩ := w
  obtain ⟨T', h', cA, X', e', E, A, sg⟩ := newP X hx hZ (aty := .boolean) (hw _ w1) rfl (g := mkF m pc Ls (.int n :: st)) rfl (hb hby hd) rfl hn hcap hb8 hc' hs'
  have hB : ArI Z .boolean (List.replicate n.toNatClampNeg 0) (newA cA .boolean n) := ⟨A.2.1, A.2.2, by simp [newA, defaultValue], by simp; omega, fun x hx => by rw [List.eq_of_mem_replicate hx]; rfl⟩
  obtain ⟨t, o, hs, r⟩ := g _ T' ⟨_, X', F, e' ▸ OO.new E A.1 hB⟩
  exact ⟨t, o, sg _ hs, r⟩
theorem s_newarr_long (H : Ok Z k R Q y b ml rt) {cn' sn' cap : Nat} {n : Int32} (hd : decode b pc = .ok (.newarray .long, 2)) (w1 : Jvm.Cond.arrayClass .long ∈ tables_1) (hn : ¬ n < 0) (hcap : n.toNatClampNeg ≤ cap) (hb8 : cap * 8 ≤ 536870912) (hc : cn + 1 = cn') (hs : sn + cap = sn') (hc' : cn' ≤ R.cells) (hs' : sn' ≤ R.slots) (hp : pc + 2 = pc')
    (g : ∀ a, Go Z k cn' sn' ((a, ArL Z (List.replicate n.toNatClampNeg 0)) :: M) pc' Ls (.ref a :: st)) : Go Z k cn sn M pc Ls (.int n :: st) := by
  obtain ⟨p, l, e, R', s, m, args, below, meth, c, Q'⟩ := k
  obtain ⟨hx, hZ, hby, -, hown, hnm, -, -, ⟨a0, hw⟩, rfl, -⟩ := H
  subst hp hc hs
  intro T w
  obtain ⟨locs, X, F, OO⟩ := w
  obtain ⟨T', h', cA, X', e', E, A, sg⟩ := newP X hx hZ (aty := .long) (hw _ w1) rfl (g := mkF m pc Ls (.int n :: st)) rfl (hb hby hd) rfl hn hcap hb8 hc' hs'
  have hB : ArL Z (List.replicate n.toNatClampNeg 0) (newA cA .long n) := ⟨A.2.1, A.2.2, by simp [newA, defaultValue], by simp; omega⟩
  obtain ⟨t, o, hs, r⟩ := g _ T' ⟨_, X', F, e' ▸ OO.new E A.1 hB⟩
  exact ⟨t, o, sg _ hs, r⟩
/-! OWN KIT 3: contracts and calls -/
def MQ (Z : State) (rm : Room) (Q : Option Value → Hp → Prop) (U : State) (o : Outcome) (U' : State) : Prop := ∃ v L, o = .returned v ∧ (Fr Z.heap.size L ∧ ∃ M, Q v M ∧ Own Z U'.heap M) ∧ FrameEnd U o U' L rm.cells rm.slots
def Met (Z : State) (y : MethodName) (b : ByteArray) (ml : Nat) (rt : Option FieldType) (rm : Room) (as : List Value) (M : Hp) (Q : Option Value → Hp → Prop) : Prop :=
  ∀ (l : Launch) (h0 : Heap), Own Z h0 M → MetFree l y (head1 [Jvm.Cond.code y b ml rt] rm) (fun a U => a = as.toArray ∧ Z.Warmed39 U.vm ∧ U.heap = h0) (fun _ _ _ _ _ => True) (fun _ U o U' => ∃ v L, o = .returned v ∧ (Fr Z.heap.size L ∧ ∃ M, Q v M ∧ Own Z U'.heap M) ∧ FrameEnd U o U' L rm.cells rm.slots)
theorem met_of {ws : List Jvm.Cond} {as : List Value} {rm : Room} {h0 : Heap} (l : Launch) (hT : Tb Z) (hpl : plainFor y = true) (hef : ∀ m, entryFrame m as.toArray ml = mkF m 0 Ls []) (hO : Own Z h0 M) (body : ∀ k, Ok Z k rm Q y b ml rt → Go Z k 0 0 M 0 Ls []) :
    MetFree l y (head1 (Jvm.Cond.code y b ml rt :: ws) rm) (fun a U => a = as.toArray ∧ Z.Warmed39 U.vm ∧ U.heap = h0) (fun _ _ _ _ _ => True) (fun _ U o U' => ∃ v L, o = .returned v ∧ (Fr Z.heap.size L ∧ ∃ M, Q v M ∧ Own Z U'.heap M) ∧ FrameEnd U o U' L rm.cells rm.slots) := by
  refine MetFree.of_bodySF hpl hisR ?_
  intro p e s m args below meth c s₁ Bd hml0 hP hK
  obtain ⟨rfl, hZ, hh⟩ := hP
  have X0 : Stand p l e rm s m as.toArray below meth c s₁ [] 0 0 := Stand.of_body Bd
  have e0 : s₁.heap = h0 := by rw [← hh, Bd.state]; rfl
  obtain ⟨t, o, hs, r⟩ := body (p, l, e, rm, s, m, as.toArray, below, meth, c, Q) ⟨Bd.exec, hZ, Bd.bytes, hml0, findClass_of_methodNamed Bd.named, (name_of_methodNamed Bd.named Bd.method).1, Bd.returns, Bd.notSynchronized, hT, rfl, rfl⟩ s₁ ⟨[], X0, Fr.nil _, e0 ▸ hO⟩
  exact ⟨t, o, castTop (hef m) hs, r⟩
theorem Met.of {as : List Value} {rm : Room} (hT : Tb Z) (hpl : plainFor y = true) (hef : ∀ m, entryFrame m as.toArray ml = mkF m 0 Ls []) (body : ∀ k, Ok Z k rm Q y b ml rt → Go Z k 0 0 M 0 Ls []) : Met Z y b ml rt rm as M Q := fun l h0 hO => met_of l hT hpl hef hO body
theorem Met.mono {as : List Value} {rm : Room} {Q' : Option Value → Hp → Prop} (h : Met Z y b ml rt rm as M Q) (q : ∀ v M, Q v M → Q' v M) : Met Z y b ml rt rm as M Q' := fun l h0 hO p e ha hc hk s m args below hf happ hP hK => by
  obtain ⟨n, o, h1, h2, h3, v, L, h4, ⟨h5, M', h6, h7⟩, h8⟩ := h l h0 hO p e ha hc hk s m args below hf happ hP hK
  exact ⟨n, o, h1, h2, h3, v, L, h4, ⟨h5, M', q _ _ h6, h7⟩, h8⟩
theorem s_ret (H : Ok Z k R Q y b ml (some ty)) {i : Instr} {w : Value} (hd : decode b pc = .ok (i, 1)) (hn : narrow ty w = w)
    (hi : (i = .ireturn ∧ (ty = .int ∨ ty = .boolean ∨ ty = .byte ∨ ty = .char ∨ ty = .short) ∧ ∃ z, w = .int z) ∨ (i = .lreturn ∧ ty = .long ∧ ∃ z, w = .long z) ∨ (i = .dreturn ∧ ty = .double ∧ ∃ z, w = .double z) ∨ (i = .freturn ∧ ty = .float ∧ ∃ z, w = .float z) ∨ (i = .areturn ∧ ty.isReference = true ∧ w.isRef = true))
    (hc : cn ≤ R.cells) (hs : sn ≤ R.slots) (q : Q (some w) M) : Go Z k cn sn M pc Ls (w :: st) := by
  obtain ⟨p, l, e, R', s, m, args, below, meth, c, Q'⟩ := k
  obtain ⟨hx, hZ, hby, -, -, -, hret, hlk, -, rfl, rfl⟩ := H
  intro T w'
  obtain ⟨locs, X, F, O⟩ := w'
  obtain ⟨fs, hr, hrun, hended, hW, hsame⟩ := X.leave (v := some w) (fun h => by rw [hret] at h; cases h) hlk
  exact ⟨_, _, retOut X hx hret hn hi (hb hby hd) hr, hrun, hended, _, _, rfl, ⟨F, M, q, O⟩, ⟨_, rfl⟩, hW, hsame.mono hc hs⟩
theorem s_iret (H : Ok Z k R Q y b ml (some ty)) {z : Int32} (hd : decode b pc = .ok (.ireturn, 1)) (hn : narrow ty (.int z) = .int z) (ht : ty = .int ∨ ty = .boolean ∨ ty = .byte ∨ ty = .char ∨ ty = .short) (hc : cn ≤ R.cells) (hs : sn ≤ R.slots) (q : Q (some (.int z)) M) : Go Z k cn sn M pc Ls (.int z :: st) := s_ret H hd hn (Or.inl ⟨rfl, ht, z, rfl⟩) hc hs q
theorem s_lret (H : Ok Z k R Q y b ml (some .long)) {z : Int64} (hd : decode b pc = .ok (.lreturn, 1)) (hc : cn ≤ R.cells) (hs : sn ≤ R.slots) (q : Q (some (.long z)) M) : Go Z k cn sn M pc Ls (.long z :: st) := s_ret H hd rfl (Or.inr (Or.inl ⟨rfl, rfl, z, rfl⟩)) hc hs q
theorem s_aret (H : Ok Z k R Q y b ml (some ty)) {a : Addr} (hd : decode b pc = .ok (.areturn, 1)) (hn : narrow ty (.ref a) = .ref a) (ht : ty.isReference = true) (hc : cn ≤ R.cells) (hs : sn ≤ R.slots) (q : Q (some (.ref a)) M) : Go Z k cn sn M pc Ls (.ref a :: st) := s_ret H hd hn (Or.inr (Or.inr (Or.inr (Or.inr ⟨rfl, ht, rfl⟩)))) hc hs q
theorem s_vret (H : Ok Z k R Q y b ml none) (hd : decode b pc = .ok (.return_, 1)) (hc : cn ≤ R.cells) (hs : sn ≤ R.slots) (q : Q none M) : Go Z k cn sn M pc Ls [] := by
  obtain ⟨p, l, e, R', s, m, args, below, meth, c, Q'⟩ := k
  obtain ⟨hx, hZ, hby, -, -, -, hret, hlk, -, rfl, rfl⟩ := H
  intro T w'
  obtain ⟨locs, X, F, O⟩ := w'
  obtain ⟨fs, hr, hrun, hended, hW, hsame⟩ := X.leave (v := none) (fun _ => rfl) hlk
  exact ⟨_, _, X.returnOut hx hret (hb hby hd) hr, hrun, hended, _, _, rfl, ⟨F, M, q, O⟩, ⟨_, rfl⟩, hW, hsame.mono hc hs⟩
theorem s_objinit (H : Ok Z k R Q y b ml rt) {idx : Nat} {a : Addr} (hd : decode b pc = .ok (.invokespecial idx, 3)) (w1 : Jvm.Cond.methodLink y.cls idx Lib.objectInit ∈ tables_1) (w2 : Jvm.Cond.instanceMethod Lib.objectInit ∈ tables_1) (w3 : Jvm.Cond.code Lib.objectInit ⟨#[0xb1]⟩ 1 none ∈ tables_1) (hsz : Ls.size = ml) (hf : 1 ≤ R.frames) (hl : (st.map fun v => v.category).sum + 12 ≤ R.locals) (hp : pc + 3 = pc') (g : Go Z k cn sn M pc' Ls st) : Go Z k cn sn M pc Ls (.ref a :: st) := by
  obtain ⟨p, l, e, R', s, m, args, below, meth, c, Q'⟩ := k
  obtain ⟨hx, hZ, hby, hml, hown, hnm, -, -, ⟨a0, hw⟩, rfl, -⟩ := H
  subst hp
  intro T w
  obtain ⟨locs, X, F, OO⟩ := w
  obtain ⟨T', X', e', sg⟩ := initO X hx hZ hown (hw _ w1) (hw _ w2) (hw _ w3) rfl (g := mkF m pc Ls (.ref a :: st)) rfl (by rw [hml]; exact hsz) rfl (hb hby hd) hf (W := (st.map fun v => v.category).sum) (by show 2 * 0 + _ ≤ _; omega) hl
  obtain ⟨t, o, hs, r⟩ := g T' ⟨_, X', F, e' ▸ OO⟩
  exact ⟨t, o, sg _ hs, r⟩
theorem s_static (H : Ok Z k R Q y b ml rt) {idx cn' sn' : Nat} {y' : MethodName} {b' : ByteArray} {ml' : Nat} {rt' : Option FieldType} {rm : Room} {as rest : List Value} {Q' : Option Value → Hp → Prop} {sig : MethodDescriptor}
    (hM : Met Z y' b' ml' rt' rm as M Q') (hd : decode b pc = .ok (.invokestatic idx, 3)) (w1 : Jvm.Cond.methodLink y.cls idx y' ∈ tables_1) (w2 : Jvm.Cond.static y' ∈ tables_1) (w3 : Jvm.Cond.initialized y'.cls ∈ tables_1) (w4 : Jvm.Cond.code y' b' ml' rt' ∈ tables_1) (hy : y'.cls ≠ "java/lang/invoke/MethodHandle" ∧ y'.cls ≠ "java/lang/invoke/VarHandle")
    (hsig : parseMethodDescriptor y'.desc = some sig) (hlen : as.length = sig.parameters.length) (hst : st = as.reverse ++ rest) (hsz : Ls.size = ml) (hf : rm.frames + 1 ≤ R.frames) (hl : (rest.map fun v => v.category).sum + (ml' + 11) + rm.locals ≤ R.locals) (hc : cn + rm.cells = cn') (hs : sn + rm.slots = sn') (hc' : cn' ≤ R.cells) (hs' : sn' ≤ R.slots) (hp : pc + 3 = pc')
    (g : ∀ v M', Q' v M' → Go Z k cn' sn' M' pc' Ls (v.toList ++ rest)) : Go Z k cn sn M pc Ls st := by
  obtain ⟨p, l, e, R', s, m, args, below, meth, c, Q''⟩ := k
  obtain ⟨hx, hZ, hby, hml, hown, hnm, -, -, ⟨a0, hw⟩, rfl, -⟩ := H
  subst hp hc hs hst
  intro T w
  obtain ⟨locs, X, F, OO⟩ := w
  obtain ⟨v, _, ⟨T', L', k', n'⟩, -, X', ⟨Lc, ⟨hF, M', hQ, hO⟩, q1, q2, q3⟩, sg⟩ := Jvm.LawKit.callS X hx (y := y') hown (mvT hZ (hw _ w1)) (mvT hZ (hw _ w2)) (mvT hZ (hw _ w3)) (mvT hZ (hw _ w4)) hy (backOf (W := (rest.map fun v => v.category).sum) (Q := fun v h L => Fr Z.heap.size L ∧ ∃ M', Q' v M' ∧ Own Z h M') (hM l _ OO) hZ (hw _ w4) (hw _ w3) hf hl) (g := mkF m pc Ls (as.reverse ++ rest)) rfl (by rw [hml]; exact hsz) (argsL := as) (rest := rest) (lenOf (ps := sig.parameters) (r := sig.returnType) hsig hlen) rfl (by show 2 * 0 + _ ≤ _; omega) (hb hby hd) (fun _ _ => ⟨rfl, rfl, hc', hs'⟩)
  dsimp only [Pt.U, Pt.locs, Pt.cells, Pt.slots] at X' q1 q2 q3 sg hO
  subst q1 q2 q3
  obtain ⟨t, o, hs, r⟩ := g v M' hQ T' ⟨_, X', Fr.app F hF, hO⟩
  exact ⟨t, o, sg _ hs, r⟩
theorem s_init (H : Ok Z k R Q y b ml rt) {idx cn' sn' : Nat} {a : Addr} {y' : MethodName} {b' : ByteArray} {ml' : Nat} {rm : Room} {as rest : List Value} {Q' : Option Value → Hp → Prop} {sig : MethodDescriptor}
    (hM : Met Z y' b' ml' none rm (.ref a :: as) M Q') (hd : decode b pc = .ok (.invokespecial idx, 3)) (hy1 : y'.name = "<init>") (w1 : Jvm.Cond.methodLink y.cls idx y' ∈ tables_1) (w2 : Jvm.Cond.instanceMethod y' ∈ tables_1) (w3 : Jvm.Cond.initialized y'.cls ∈ tables_1) (w4 : Jvm.Cond.code y' b' ml' none ∈ tables_1) (hy : y'.cls ≠ "java/lang/invoke/MethodHandle" ∧ y'.cls ≠ "java/lang/invoke/VarHandle")
    (hsig : parseMethodDescriptor y'.desc = some sig) (hlen : as.length = sig.parameters.length) (hst : st = as.reverse ++ .ref a :: rest) (hsz : Ls.size = ml) (hf : rm.frames + 1 ≤ R.frames) (hl : (rest.map fun v => v.category).sum + (ml' + 11) + rm.locals ≤ R.locals) (hc : cn + rm.cells = cn') (hs : sn + rm.slots = sn') (hc' : cn' ≤ R.cells) (hs' : sn' ≤ R.slots) (hp : pc + 3 = pc')
    (g : ∀ v M', Q' v M' → Go Z k cn' sn' M' pc' Ls (v.toList ++ rest)) : Go Z k cn sn M pc Ls st := by
  obtain ⟨p, l, e, R', s, m, args, below, meth, c, Q''⟩ := k
  obtain ⟨hx, hZ, hby, hml, hown, hnm, -, -, ⟨a0, hw⟩, rfl, -⟩ := H
  subst hp hc hs hst
  intro T w
  obtain ⟨locs, X, F, OO⟩ := w
  obtain ⟨v, _, ⟨T', L', k', n'⟩, -, X', ⟨Lc, ⟨hF, M', hQ, hO⟩, q1, q2, q3⟩, sg⟩ := X.specialBack hx (y := y') hy1 hown (mvT hZ (hw _ w1)) (mvT hZ (hw _ w2)) (mvT hZ (hw _ w4)) hy (backOf (W := (rest.map fun v => v.category).sum) (Q := fun v h L => Fr Z.heap.size L ∧ ∃ M', Q' v M' ∧ Own Z h M') (hM l _ OO) hZ (hw _ w4) (hw _ w3) hf hl) (g := mkF m pc Ls (as.reverse ++ .ref a :: rest)) rfl (by rw [hml]; exact hsz) (Steps.refl _) (a := a) (argsL := as) (rest := rest) (lenOf (ps := sig.parameters) (r := sig.returnType) hsig hlen) rfl (by show 2 * 0 + _ ≤ _; omega) (hb hby hd) (fun _ _ => ⟨rfl, rfl, hc', hs'⟩)
  dsimp only [Pt.U, Pt.locs, Pt.cells, Pt.slots] at X' q1 q2 q3 sg hO
  subst q1 q2 q3
  obtain ⟨t, o, hs, r⟩ := g v M' hQ T' ⟨_, X', Fr.app F hF, hO⟩
  exact ⟨t, o, sg.trans hs, r⟩
theorem s_virtual (H : Ok Z k R Q y b ml rt) {i idx cn' sn' : Nat} {a : Addr} {C : String} {fs : List Fd} {y' : MethodName} {b' : ByteArray} {ml' : Nat} {rt' : Option FieldType} {rm : Room} {as rest : List Value} {Q' : Option Value → Hp → Prop} {sig : MethodDescriptor}
    (hM : Met Z y' b' ml' rt' rm (.ref a :: as) M Q') (hd : decode b pc = .ok (.invokevirtual idx, 3)) (hi : M[i]? = some (a, Obj Z C fs)) (w1 : Jvm.Cond.methodLink y.cls idx y' ∈ tables_1) (w2 : Jvm.Cond.declares y' ∈ tables_1) (w5 : Jvm.Cond.selects C y' y' ∈ tables_1) (w6 : Jvm.Cond.instanceMethod y' ∈ tables_1) (w3 : Jvm.Cond.initialized y'.cls ∈ tables_1) (w4 : Jvm.Cond.code y' b' ml' rt' ∈ tables_1) (hy : y'.cls ≠ "java/lang/invoke/MethodHandle" ∧ y'.cls ≠ "java/lang/invoke/VarHandle")
    (hsig : parseMethodDescriptor y'.desc = some sig) (hlen : as.length = sig.parameters.length) (hst : st = as.reverse ++ .ref a :: rest) (hsz : Ls.size = ml) (hf : rm.frames + 1 ≤ R.frames) (hl : (rest.map fun v => v.category).sum + (ml' + 11) + rm.locals ≤ R.locals) (hc : cn + rm.cells = cn') (hs : sn + rm.slots = sn') (hc' : cn' ≤ R.cells) (hs' : sn' ≤ R.slots) (hp : pc + 3 = pc')
    (g : ∀ v M', Q' v M' → Go Z k cn' sn' M' pc' Ls (v.toList ++ rest)) : Go Z k cn sn M pc Ls st := by
  obtain ⟨p, l, e, R', s, m, args, below, meth, c, Q''⟩ := k
  obtain ⟨hx, hZ, hby, hml, hown, hnm, -, -, ⟨a0, hw⟩, rfl, -⟩ := H
  subst hp hc hs hst
  intro T w
  obtain ⟨locs, X, F, OO⟩ := w
  obtain ⟨-, cl, c1, c2⟩ := OO.2.1 i _ hi
  obtain ⟨cq, kq, qa, qb, qc⟩ := isOf hZ rfl (c2.1 _ _ c1).1
  obtain ⟨v, _, ⟨T', L', k', n'⟩, -, X', ⟨Lc, ⟨hF, M', hQ, hO⟩, q1, q2, q3⟩, sg⟩ := X.virtualBack hx (y := y') (z := y') hown (mvT hZ (hw _ w1)) (mvT hZ (hw _ w2)) (notFace_of_selects (args := #[]) (mvT hZ (hw _ w5))) (mvT hZ (hw _ w5)) (mvT hZ (hw _ w6)) hy (backOf (W := (rest.map fun v => v.category).sum) (Q := fun v h L => Fr Z.heap.size L ∧ ∃ M', Q' v M' ∧ Own Z h M') (hM l _ OO) hZ (hw _ w4) (hw _ w3) hf hl) qa qc (g := mkF m pc Ls (as.reverse ++ .ref a :: rest)) rfl (by rw [hml]; exact hsz) (Steps.refl _) (argsL := as) (rest := rest) (lenOf (ps := sig.parameters) (r := sig.returnType) hsig hlen) rfl (by show 2 * 0 + _ ≤ _; omega) (hb hby hd) (fun _ _ => ⟨rfl, rfl, hc', hs'⟩)
  dsimp only [Pt.U, Pt.locs, Pt.cells, Pt.slots] at X' q1 q2 q3 sg hO
  subst q1 q2 q3
  obtain ⟨t, o, hs, r⟩ := g v M' hQ T' ⟨_, X', Fr.app F hF, hO⟩
  exact ⟨t, o, sg.trans hs, r⟩
theorem s_priv (H : Ok Z k R Q y b ml rt) {i idx cn' sn' : Nat} {a : Addr} {C : String} {fs : List Fd} {y' y0 : MethodName} {b' : ByteArray} {ml' : Nat} {rt' : Option FieldType} {rm : Room} {as rest : List Value} {Q' : Option Value → Hp → Prop} {sig : MethodDescriptor}
    (hM : Met Z y' b' ml' rt' rm (.ref a :: as) M Q') (hd : decode b pc = .ok (.invokevirtual idx, 3)) (hi : M[i]? = some (a, Obj Z C fs)) (w1 : Jvm.Cond.methodLink y.cls idx y' ∈ tables_1) (w2 : Jvm.Cond.privateMethod y' ∈ tables_1) (w5 : Jvm.Cond.selects y'.cls y0 y0 ∈ tables_1) (h0 : y0.cls = y'.cls) (w6 : Jvm.Cond.instanceMethod y' ∈ tables_1) (w3 : Jvm.Cond.initialized y'.cls ∈ tables_1) (w4 : Jvm.Cond.code y' b' ml' rt' ∈ tables_1) (hy : y'.cls ≠ "java/lang/invoke/MethodHandle" ∧ y'.cls ≠ "java/lang/invoke/VarHandle")
    (hsig : parseMethodDescriptor y'.desc = some sig) (hlen : as.length = sig.parameters.length) (hst : st = as.reverse ++ .ref a :: rest) (hsz : Ls.size = ml) (hf : rm.frames + 1 ≤ R.frames) (hl : (rest.map fun v => v.category).sum + (ml' + 11) + rm.locals ≤ R.locals) (hc : cn + rm.cells = cn') (hs : sn + rm.slots = sn') (hc' : cn' ≤ R.cells) (hs' : sn' ≤ R.slots) (hp : pc + 3 = pc')
    (g : ∀ v M', Q' v M' → Go Z k cn' sn' M' pc' Ls (v.toList ++ rest)) : Go Z k cn sn M pc Ls st := by
  obtain ⟨p, l, e, R', s, m, args, below, meth, c, Q''⟩ := k
  obtain ⟨hx, hZ, hby, hml, hown, hnm, -, -, ⟨a0, hw⟩, rfl, -⟩ := H
  subst hp hc hs hst
  intro T w
  obtain ⟨locs, X, F, OO⟩ := w
  obtain ⟨-, cl, c1, c2⟩ := OO.2.1 i _ hi
  obtain ⟨cl', d1, d2⟩ := (c2.1 _ _ c1).1.cell
  have hpriv : s.PrivateAt y' := Cond.privateMethod_at (mvP hZ (hw _ w2) (args := #[]))
  obtain ⟨mk, mM, hn, hm, hst, hab⟩ := Cond.instanceMethod_spec (mvT (args := #[]) hZ (hw _ w6))
  obtain ⟨c3, r3, m3, -, -, n3, -, kP, hk, hkI⟩ := Cond.selects_spec (mvT (args := #[]) hZ (hw _ w5))
  have e3 : m3.cls = mk.cls := by
    have u1 := findClass_of_methodNamed n3
    have u2 := findClass_of_methodNamed hn
    rw [h0, u2] at u1; exact (Option.some.inj u1).symm
  rw [e3] at hk
  obtain ⟨mM', cM, hm2, -, -, -, -, -, -, hsg⟩ := Cond.code_spec hn (mvT (args := #[]) hZ (hw _ w4))
  cases hm.symm.trans hm2
  obtain ⟨vm₁, X₁, st₁⟩ := X.invokevirtual hx hown (mvT hZ (hw _ w1)) hn hm hst hk hkI hy (a := a) d1 d2 (selectMethod_private hm (hpriv mk _ hn hm)) hm hab hk hkI (g := mkF m pc Ls (as.reverse ++ .ref a :: rest)) rfl (argsL := as) (rest := rest) (lenOf (ps := sig.parameters) (r := sig.returnType) hsig hlen _ hsg) rfl (hb hby hd)
  have hK := backOf (l := l) (p := p) (e := e) (below := below) (R := R') (args := args) (len := 3) (W := (rest.map fun v => v.category).sum) (Q := fun v h L => Fr Z.heap.size L ∧ ∃ M', Q' v M' ∧ Own Z h M') (hM l _ OO) hZ (hw _ w4) (hw _ w3) hf hl
  obtain ⟨v, ⟨T', L', k', n'⟩, X', ⟨Lc, ⟨hF, M', hQ, hO⟩, q1, q2, q3⟩, sg⟩ := hK m meth c ⟨T.setVm vm₁, locs, cn, sn⟩ (mkF m pc Ls rest) (.invokevirtual idx) mk (.ref a :: as).toArray X₁ rfl (by rw [hml]; exact hsz) (hb hby hd) (by show 2 * 0 + (rest.map fun v => v.category).sum ≤ _; omega) (X₁.named hn) ⟨rfl, rfl, hc', hs'⟩
  dsimp only [Pt.U, Pt.locs, Pt.cells, Pt.slots] at X' q1 q2 q3 sg hO
  subst q1 q2 q3
  obtain ⟨t, o, hs, r⟩ := g v M' hQ T' ⟨_, X', Fr.app F hF, hO⟩
  exact ⟨t, o, st₁ _ (fun acts => by rw [doInvoke_state]; exact sg.trans hs), r⟩
end Kit
theorem own_nat {m : Nat} (h : m < 2147483648) : m.toInt32.toNatClampNeg = m ∧ ¬ m.toInt32 < 0 ∧ m.toInt32.toInt = m := by
  have e : m.toInt32.toInt = m := Int32.toInt_ofNat_small (by omega)
  refine ⟨?_, ?_, e⟩
  · show m.toInt32.toInt.toNat = m
    rw [e]; rfl
  · rw [Int32.lt_iff_toInt_lt, e, show (0 : Int32).toInt = 0 from by decide]; omega
theorem own_lt {m n : Nat} (h : m < 2147483648) (h' : n < 2147483648) : m.toInt32 < n.toInt32 ↔ m < n := by rw [Int32.lt_iff_toInt_lt, (own_nat h).2.2, (own_nat h').2.2]; omega
theorem own_le {m n : Nat} (h : m < 2147483648) (h' : n < 2147483648) : m.toInt32 ≤ n.toInt32 ↔ m ≤ n := by rw [Int32.le_iff_toInt_le, (own_nat h).2.2, (own_nat h').2.2]; omega
theorem own_succ (m : Nat) : m.toInt32 + 1 = (m + 1).toInt32 := by
  show Int32.ofNat m + Int32.ofNat 1 = Int32.ofNat (m + 1)
  rw [← Int32.ofNat_add]
theorem allN {α : Type} {P : α → Prop} : ∀ x ∈ ([] : List α), P x := fun _ q => nomatch q
theorem allC {α : Type} {P : α → Prop} {z : α} {L : List α} (q : P z) (r : ∀ x ∈ L, P x) : ∀ x ∈ z :: L, P x := fun x h => (List.mem_cons.mp h).elim (fun u => u ▸ q) (r x)
/-! OWN KIT 4: System.arraycopy -/
theorem own_us {α : Type} {f : α → Value} {vs : List α} {d : α} {s n : Nat} (h : s + n ≤ vs.length) : ((List.range n).map fun i => (vs.map f).getD (s + i) (f d)) = (((vs.drop s).take n).map f) := by
  apply List.ext_getElem?
  intro i
  simp only [List.getElem?_map, List.getElem?_take, List.getElem?_drop]
  rcases Nat.lt_or_ge i n with lt | ge
  · rw [List.getElem?_range lt, if_pos lt, List.getElem?_eq_getElem (by omega)]
    simp [List.getD_eq_getElem?_getD, List.getElem?_eq_getElem (show s + i < vs.length from by omega)]
  · rw [List.getElem?_eq_none (by simpa using ge), if_neg (by omega)]; rfl
theorem own_back {α : Type} {f : α → Value} {d : α} {vs : List α} {c : Cell} {n : Int32} (hs : c.slots.size = n.toNatClampNeg) (hn : n.toNatClampNeg = vs.length) (hH : Has c (vs.map f) (f d)) : c.slots = (vs.map f).toArray := by
  apply Array.ext_getElem?
  intro i
  rcases Nat.lt_or_ge i c.slots.size with lt | ge
  · rw [hH i lt]
    have : i < vs.length := by omega
    simp [List.getD_eq_getElem?_getD, List.getElem?_eq_getElem this]
  · rw [Array.getElem?_eq_none ge]
    symm
    apply Array.getElem?_eq_none
    simp; omega
theorem arv_L {Z : State} {vs : List Int64} {c : Cell} {h : Heap} {a : Addr} (B : ArL Z vs c) (hc : h[a]? = some c) : Arv Z h a c.cls .long vs.length.toInt32 (vs.map Value.long) (Value.long 0) := by
  have hl : vs.length < 2147483648 := B.2.2.2
  refine ⟨c, B.arr hc, rfl, by rw [B.size, (own_nat hl).1], (own_nat hl).2.1, fun i hi => ?_, fun i hi => ?_⟩
  · rw [B.size] at hi
    rw [B.2.2.1]
    simp [List.getD_eq_getElem?_getD, List.getElem?_eq_getElem hi]
  · rw [B.size] at hi
    rw [List.getD_eq_getElem?_getD, List.getElem?_map, List.getElem?_eq_getElem hi]
    rfl
theorem s_acopy_L {Z : State} {k : Cx} {R : Room} {Q : Option Value → Hp → Prop} {y : MethodName} {b : ByteArray} {ml : Nat} {rt : Option FieldType} {cn sn : Nat} {M : Hp} {pc pc' : Nat} {Ls : Array Slot} {st : List Value} (H : Ok Z k R Q y b ml rt) {i j idx : Nat} {a a' : Addr} {vs vd : List Int64} {sp dp nn : Int32} (s d n : Nat) (hd : decode b pc = .ok (.invokestatic idx, 3)) (w1 : Jvm.Cond.methodLink y.cls idx Jvm.Stand.acN ∈ tables_1) (w2 : Jvm.Cond.native Jvm.Stand.acN ∈ tables_1) (w3 : Jvm.Cond.static Jvm.Stand.acN ∈ tables_1) (w4 : Jvm.Cond.initialized "java/lang/System" ∈ tables_1)
    (hi : M[i]? = some (a, ArL Z vs)) (hj : M[j]? = some (a', ArL Z vd)) (es : sp = s.toInt32) (ed : dp = d.toInt32) (en : nn = n.toInt32) (h1 : s + n ≤ vs.length) (h2 : d + n ≤ vd.length) (hsz : Ls.size = ml) (hf : 1 ≤ R.frames) (hlo : (st.map fun v => v.category).sum + (nativeFrameWords "java/lang/System" "arraycopy" 5 + 11) ≤ R.locals) (hp : pc + 3 = pc')
    (g : Go Z k cn sn (M.set j (a', ArL Z (vd.take d ++ (vs.drop s).take n ++ vd.drop (d + n)))) pc' Ls st) : Go Z k cn sn M pc Ls (.int nn :: .int dp :: .ref a' :: .int sp :: .ref a :: st) := by
  obtain ⟨p, l, e, R', s', m, args, below, meth, c, Q'⟩ := k
  obtain ⟨hx, hZ, hby, hml, hown, -, -, -, ⟨a0, hw⟩, rfl, -⟩ := H
  subst hp es ed en
  intro T w
  obtain ⟨locs, X, F, O⟩ := w
  obtain ⟨q0, cs, q1, q2⟩ := O.2.1 i _ hi
  obtain ⟨p0, cd, p1, p2⟩ := O.2.1 j _ hj
  have ls : vs.length < 2147483648 := q2.2.2.2
  have ld : vd.length < 2147483648 := p2.2.2.2
  obtain ⟨T', h', L, X', e', F', K, B, sg⟩ := cpA X hx hZ hown (hw _ w1) (hw _ w2) (hw _ w3) (hw _ w4) rfl (arv_L q2 q1) (arv_L p2 p1) (Or.inl ⟨rfl, rfl⟩) (sp := s.toInt32) (dp := d.toInt32) (nn := n.toInt32) (own_nat (by omega)).2.1 (own_nat (by omega)).2.1 (own_nat (by omega)).2.1 (by rw [(own_nat (by omega)).1, (own_nat (by omega)).1, (own_nat ls).1]; exact h1) (by rw [(own_nat (by omega)).1, (own_nat (by omega)).1, (own_nat ld).1]; exact h2) rfl (by rw [(own_nat (by omega)).1, (own_nat (by omega)).1, List.length_map]; exact h2) F p0 (g := mkF m pc Ls (.int n.toInt32 :: .int d.toInt32 :: .ref a' :: .int s.toInt32 :: .ref a :: st)) rfl (by rw [hml]; exact hsz) rfl (hb hby hd) hf (W := (st.map fun v => v.category).sum) (by show 2 * 0 + _ ≤ _; omega) hlo
  rw [(own_nat (show n < 2147483648 by omega)).1, (own_nat (show d < 2147483648 by omega)).1, (own_nat (show s < 2147483648 by omega)).1, own_us h1] at B
  have eL : (vd.map Value.long).take d ++ ((vs.drop s).take n).map Value.long ++ (vd.map Value.long).drop (d + n) = (vd.take d ++ (vs.drop s).take n ++ vd.drop (d + n)).map Value.long := by simp [List.map_append, List.map_take, List.map_drop]
  rw [eL] at B
  have len : (vd.take d ++ (vs.drop s).take n ++ vd.drop (d + n)).length = vd.length := by simp; omega
  obtain ⟨c', A', k1, k2, k3, k4, k5⟩ := B
  have hc' : ArL Z (vd.take d ++ (vs.drop s).take n ++ vd.drop (d + n)) c' := by
    refine ⟨A'.2.1, A'.2.2, own_back k2 (by rw [(own_nat ld).1, len]) k4, by rw [len]; exact ld⟩
  obtain ⟨t, o, hs, r⟩ := g T' ⟨_, X', F', e' ▸ O.ch hj K.1 (fun x c hx ne => K.2.1 x c hx (by simpa using ne)) ⟨c', A'.1, hc'⟩⟩
  exact ⟨t, o, sg _ hs, r⟩
theorem arv_I {Z : State} {ty : FieldType} {vs : List Int32} {c : Cell} {h : Heap} {a : Addr} (B : ArI Z ty vs c) (hc : h[a]? = some c) : Arv Z h a c.cls ty vs.length.toInt32 (vs.map Value.int) (Value.int 0) := by
  have hl : vs.length < 2147483648 := B.2.2.2.1
  refine ⟨c, B.arr hc, rfl, by rw [B.size, (own_nat hl).1], (own_nat hl).2.1, fun i hi => ?_, fun i hi => ?_⟩
  · rw [B.size] at hi
    rw [B.2.2.1]
    simp [List.getD_eq_getElem?_getD, List.getElem?_eq_getElem hi]
  · rw [B.size] at hi
    rw [List.getD_eq_getElem?_getD, List.getElem?_map, List.getElem?_eq_getElem hi]
    exact B.2.2.2.2 _ (List.getElem_mem hi)
theorem s_acopy_I {Z : State} {k : Cx} {R : Room} {Q : Option Value → Hp → Prop} {y : MethodName} {b : ByteArray} {ml : Nat} {rt : Option FieldType} {cn sn : Nat} {M : Hp} {pc pc' : Nat} {Ls : Array Slot} {st : List Value} (H : Ok Z k R Q y b ml rt) {ty : FieldType} {i j idx : Nat} {a a' : Addr} {vs vd : List Int32} {sp dp nn : Int32} (s d n : Nat) (hd : decode b pc = .ok (.invokestatic idx, 3)) (w1 : Jvm.Cond.methodLink y.cls idx Jvm.Stand.acN ∈ tables_1) (w2 : Jvm.Cond.native Jvm.Stand.acN ∈ tables_1) (w3 : Jvm.Cond.static Jvm.Stand.acN ∈ tables_1) (w4 : Jvm.Cond.initialized "java/lang/System" ∈ tables_1)
    (hi : M[i]? = some (a, ArI Z ty vs)) (hj : M[j]? = some (a', ArI Z ty vd)) (hrk : refKind ty = false) (es : sp = s.toInt32) (ed : dp = d.toInt32) (en : nn = n.toInt32) (h1 : s + n ≤ vs.length) (h2 : d + n ≤ vd.length) (hsz : Ls.size = ml) (hf : 1 ≤ R.frames) (hlo : (st.map fun v => v.category).sum + (nativeFrameWords "java/lang/System" "arraycopy" 5 + 11) ≤ R.locals) (hp : pc + 3 = pc')
    (g : Go Z k cn sn (M.set j (a', ArI Z ty (vd.take d ++ (vs.drop s).take n ++ vd.drop (d + n)))) pc' Ls st) : Go Z k cn sn M pc Ls (.int nn :: .int dp :: .ref a' :: .int sp :: .ref a :: st) := by
  obtain ⟨p, l, e, R', s', m, args, below, meth, c, Q'⟩ := k
  obtain ⟨hx, hZ, hby, hml, hown, -, -, -, ⟨a0, hw⟩, rfl, -⟩ := H
  subst hp es ed en
  intro T w
  obtain ⟨locs, X, F, O⟩ := w
  obtain ⟨q0, cs, q1, q2⟩ := O.2.1 i _ hi
  obtain ⟨p0, cd, p1, p2⟩ := O.2.1 j _ hj
  have ls : vs.length < 2147483648 := q2.2.2.2.1
  have ld : vd.length < 2147483648 := p2.2.2.2.1
  obtain ⟨T', h', L, X', e', F', K, B, sg⟩ := cpA X hx hZ hown (hw _ w1) (hw _ w2) (hw _ w3) (hw _ w4) rfl (arv_I q2 q1) (arv_I p2 p1) (Or.inl ⟨rfl, hrk⟩) (sp := s.toInt32) (dp := d.toInt32) (nn := n.toInt32) (own_nat (by omega)).2.1 (own_nat (by omega)).2.1 (own_nat (by omega)).2.1 (by rw [(own_nat (by omega)).1, (own_nat (by omega)).1, (own_nat ls).1]; exact h1) (by rw [(own_nat (by omega)).1, (own_nat (by omega)).1, (own_nat ld).1]; exact h2) rfl (by rw [(own_nat (by omega)).1, (own_nat (by omega)).1, List.length_map]; exact h2) F p0 (g := mkF m pc Ls (.int n.toInt32 :: .int d.toInt32 :: .ref a' :: .int s.toInt32 :: .ref a :: st)) rfl (by rw [hml]; exact hsz) rfl (hb hby hd) hf (W := (st.map fun v => v.category).sum) (by show 2 * 0 + _ ≤ _; omega) hlo
  rw [(own_nat (show n < 2147483648 by omega)).1, (own_nat (show d < 2147483648 by omega)).1, (own_nat (show s < 2147483648 by omega)).1, own_us h1] at B
  have eL : (vd.map Value.int).take d ++ ((vs.drop s).take n).map Value.int ++ (vd.map Value.int).drop (d + n) = (vd.take d ++ (vs.drop s).take n ++ vd.drop (d + n)).map Value.int := by simp [List.map_append, List.map_take, List.map_drop]
  rw [eL] at B
  have len : (vd.take d ++ (vs.drop s).take n ++ vd.drop (d + n)).length = vd.length := by simp; omega
  obtain ⟨c', A', k1, k2, k3, k4, k5⟩ := B
  have hc' : ArI Z ty (vd.take d ++ (vs.drop s).take n ++ vd.drop (d + n)) c' := by
    refine ⟨A'.2.1, A'.2.2, own_back k2 (by rw [(own_nat ld).1, len]) k4, by rw [len]; exact ld, fun x hx => ?_⟩
    simp only [List.mem_append] at hx
    rcases hx with (hx | hx) | hx
    · exact p2.2.2.2.2 x (List.mem_of_mem_take hx)
    · exact q2.2.2.2.2 x (List.mem_of_mem_drop (List.mem_of_mem_take hx))
    · exact p2.2.2.2.2 x (List.mem_of_mem_drop hx)
  obtain ⟨t, o, hs, r⟩ := g T' ⟨_, X', F', e' ▸ O.ch hj K.1 (fun x c hx ne => K.2.1 x c hx (by simpa using ne)) ⟨c', A'.1, hc'⟩⟩
  exact ⟨t, o, sg _ hs, r⟩
abbrev y_1 : MethodName := ⟨"java/lang/Math", "min", "(II)I"⟩
theorem d1_0 : decode jdk_29_method_69_code 0 = .ok (.iload_n 0, 1) := by decide +kernel
theorem d1_1 : decode jdk_29_method_69_code 1 = .ok (.iload_n 1, 1) := by decide +kernel
theorem d1_2 : decode jdk_29_method_69_code 2 = .ok (.if_icmp .gt 7, 3) := by decide +kernel
theorem d1_5 : decode jdk_29_method_69_code 5 = .ok (.iload_n 0, 1) := by decide +kernel
theorem d1_6 : decode jdk_29_method_69_code 6 = .ok (.goto 4, 3) := by decide +kernel
theorem d1_9 : decode jdk_29_method_69_code 9 = .ok (.iload_n 1, 1) := by decide +kernel
theorem d1_10 : decode jdk_29_method_69_code 10 = .ok (.ireturn, 1) := by decide +kernel
theorem pl_1 : plainFor y_1 = true := Jvm.Free.JP.mathPlain rfl (by decide +kernel)
theorem pd_1 : parseMethodDescriptor "(II)I" = some ⟨[.int, .int], some .int⟩ := by decide +kernel
abbrev y_2 : MethodName := ⟨"com/example/mangrove/mangrove/MemorySlidingWindowLog$KeyLog", "<init>", "(I)V"⟩
theorem d2_0 : decode prog_23_method_1_code 0 = .ok (.aload_n 0, 1) := by decide +kernel
theorem d2_1 : decode prog_23_method_1_code 1 = .ok (.invokespecial 1, 3) := by decide +kernel
theorem d2_4 : decode prog_23_method_1_code 4 = .ok (.aload_n 0, 1) := by decide +kernel
theorem d2_5 : decode prog_23_method_1_code 5 = .ok (.iload_n 1, 1) := by decide +kernel
theorem d2_6 : decode prog_23_method_1_code 6 = .ok (.newarray .long, 2) := by decide +kernel
theorem d2_8 : decode prog_23_method_1_code 8 = .ok (.putfield 7, 3) := by decide +kernel
theorem d2_11 : decode prog_23_method_1_code 11 = .ok (.return_, 1) := by decide +kernel
theorem pl_2 : plainFor y_2 = true := plainFor_of_name (by first | (simp [plainName, overriddenIn]; done) | decide +kernel)
theorem pd_2 : parseMethodDescriptor "(I)V" = some ⟨[.int], none⟩ := by decide +kernel
abbrev y_4 : MethodName := ⟨"com/example/mangrove/mangrove/MemorySlidingWindowLog$KeyLog", "add", "(JJ)V"⟩
theorem d4_0 : decode prog_23_method_7_code 0 = .ok (.aload_n 0, 1) := by decide +kernel
theorem d4_1 : decode prog_23_method_7_code 1 = .ok (.getfield 13, 3) := by decide +kernel
theorem d4_4 : decode prog_23_method_7_code 4 = .ok (.aload_n 0, 1) := by decide +kernel
theorem d4_5 : decode prog_23_method_7_code 5 = .ok (.getfield 7, 3) := by decide +kernel
theorem d4_8 : decode prog_23_method_7_code 8 = .ok (.arraylength, 1) := by decide +kernel
theorem d4_9 : decode prog_23_method_7_code 9 = .ok (.if_icmp .ne 8, 3) := by decide +kernel
theorem d4_12 : decode prog_23_method_7_code 12 = .ok (.aload_n 0, 1) := by decide +kernel
theorem d4_13 : decode prog_23_method_7_code 13 = .ok (.lload_n 3, 1) := by decide +kernel
theorem d4_14 : decode prog_23_method_7_code 14 = .ok (.invokevirtual 20, 3) := by decide +kernel
theorem d4_17 : decode prog_23_method_7_code 17 = .ok (.aload_n 0, 1) := by decide +kernel
theorem d4_18 : decode prog_23_method_7_code 18 = .ok (.getfield 7, 3) := by decide +kernel
theorem d4_21 : decode prog_23_method_7_code 21 = .ok (.aload_n 0, 1) := by decide +kernel
theorem d4_22 : decode prog_23_method_7_code 22 = .ok (.getfield 17, 3) := by decide +kernel
theorem d4_25 : decode prog_23_method_7_code 25 = .ok (.aload_n 0, 1) := by decide +kernel
theorem d4_26 : decode prog_23_method_7_code 26 = .ok (.getfield 13, 3) := by decide +kernel
theorem d4_29 : decode prog_23_method_7_code 29 = .ok (.iadd, 1) := by decide +kernel
theorem d4_30 : decode prog_23_method_7_code 30 = .ok (.aload_n 0, 1) := by decide +kernel
theorem d4_31 : decode prog_23_method_7_code 31 = .ok (.getfield 7, 3) := by decide +kernel
theorem d4_34 : decode prog_23_method_7_code 34 = .ok (.arraylength, 1) := by decide +kernel
theorem d4_35 : decode prog_23_method_7_code 35 = .ok (.irem, 1) := by decide +kernel
theorem d4_36 : decode prog_23_method_7_code 36 = .ok (.lload_n 1, 1) := by decide +kernel
theorem d4_37 : decode prog_23_method_7_code 37 = .ok (.lastore, 1) := by decide +kernel
theorem d4_38 : decode prog_23_method_7_code 38 = .ok (.aload_n 0, 1) := by decide +kernel
theorem d4_39 : decode prog_23_method_7_code 39 = .ok (.dup, 1) := by decide +kernel
theorem d4_40 : decode prog_23_method_7_code 40 = .ok (.getfield 13, 3) := by decide +kernel
theorem d4_43 : decode prog_23_method_7_code 43 = .ok (.iconst 1, 1) := by decide +kernel
theorem d4_44 : decode prog_23_method_7_code 44 = .ok (.iadd, 1) := by decide +kernel
theorem d4_45 : decode prog_23_method_7_code 45 = .ok (.putfield 13, 3) := by decide +kernel
theorem d4_48 : decode prog_23_method_7_code 48 = .ok (.return_, 1) := by decide +kernel
theorem pl_4 : plainFor y_4 = true := plainFor_of_name (by first | (simp [plainName, overriddenIn]; done) | decide +kernel)
theorem pd_4 : parseMethodDescriptor "(JJ)V" = some ⟨[.long, .long], none⟩ := by decide +kernel
abbrev y_5 : MethodName := ⟨"com/example/mangrove/mangrove/MemorySlidingWindowLog$KeyLog", "newest", "()J"⟩
theorem d5_0 : decode prog_23_method_5_code 0 = .ok (.aload_n 0, 1) := by decide +kernel
theorem d5_1 : decode prog_23_method_5_code 1 = .ok (.getfield 7, 3) := by decide +kernel
theorem d5_4 : decode prog_23_method_5_code 4 = .ok (.aload_n 0, 1) := by decide +kernel
theorem d5_5 : decode prog_23_method_5_code 5 = .ok (.getfield 17, 3) := by decide +kernel
theorem d5_8 : decode prog_23_method_5_code 8 = .ok (.aload_n 0, 1) := by decide +kernel
theorem d5_9 : decode prog_23_method_5_code 9 = .ok (.getfield 13, 3) := by decide +kernel
theorem d5_12 : decode prog_23_method_5_code 12 = .ok (.iadd, 1) := by decide +kernel
theorem d5_13 : decode prog_23_method_5_code 13 = .ok (.iconst 1, 1) := by decide +kernel
theorem d5_14 : decode prog_23_method_5_code 14 = .ok (.isub, 1) := by decide +kernel
theorem d5_15 : decode prog_23_method_5_code 15 = .ok (.aload_n 0, 1) := by decide +kernel
theorem d5_16 : decode prog_23_method_5_code 16 = .ok (.getfield 7, 3) := by decide +kernel
theorem d5_19 : decode prog_23_method_5_code 19 = .ok (.arraylength, 1) := by decide +kernel
theorem d5_20 : decode prog_23_method_5_code 20 = .ok (.irem, 1) := by decide +kernel
theorem d5_21 : decode prog_23_method_5_code 21 = .ok (.laload, 1) := by decide +kernel
theorem d5_22 : decode prog_23_method_5_code 22 = .ok (.lreturn, 1) := by decide +kernel
theorem pl_5 : plainFor y_5 = true := plainFor_of_name (by first | (simp [plainName, overriddenIn]; done) | decide +kernel)
theorem pd_5 : parseMethodDescriptor "()J" = some ⟨[], some .long⟩ := by decide +kernel
abbrev y_6 : MethodName := ⟨"com/example/mangrove/mangrove/MemorySlidingWindowLog$KeyLog", "grow", "(J)V"⟩
theorem d6_0 : decode prog_23_method_8_code 0 = .ok (.lload_n 1, 1) := by decide +kernel
theorem d6_1 : decode prog_23_method_8_code 1 = .ok (.ldc2_w 24, 3) := by decide +kernel
theorem d6_4 : decode prog_23_method_8_code 4 = .ok (.aload_n 0, 1) := by decide +kernel
theorem d6_5 : decode prog_23_method_8_code 5 = .ok (.getfield 7, 3) := by decide +kernel
theorem d6_8 : decode prog_23_method_8_code 8 = .ok (.arraylength, 1) := by decide +kernel
theorem d6_9 : decode prog_23_method_8_code 9 = .ok (.i2l, 1) := by decide +kernel
theorem d6_10 : decode prog_23_method_8_code 10 = .ok (.lmul, 1) := by decide +kernel
theorem d6_11 : decode prog_23_method_8_code 11 = .ok (.invokestatic 26, 3) := by decide +kernel
theorem d6_14 : decode prog_23_method_8_code 14 = .ok (.invokestatic 32, 3) := by decide +kernel
theorem d6_17 : decode prog_23_method_8_code 17 = .ok (.newarray .long, 2) := by decide +kernel
theorem d6_19 : decode prog_23_method_8_code 19 = .ok (.astore_n 3, 1) := by decide +kernel
theorem d6_20 : decode prog_23_method_8_code 20 = .ok (.aload_n 0, 1) := by decide +kernel
theorem d6_21 : decode prog_23_method_8_code 21 = .ok (.getfield 7, 3) := by decide +kernel
theorem d6_24 : decode prog_23_method_8_code 24 = .ok (.arraylength, 1) := by decide +kernel
theorem d6_25 : decode prog_23_method_8_code 25 = .ok (.aload_n 0, 1) := by decide +kernel
theorem d6_26 : decode prog_23_method_8_code 26 = .ok (.getfield 17, 3) := by decide +kernel
theorem d6_29 : decode prog_23_method_8_code 29 = .ok (.isub, 1) := by decide +kernel
theorem d6_30 : decode prog_23_method_8_code 30 = .ok (.istore 4, 2) := by decide +kernel
theorem d6_32 : decode prog_23_method_8_code 32 = .ok (.aload_n 0, 1) := by decide +kernel
theorem d6_33 : decode prog_23_method_8_code 33 = .ok (.getfield 7, 3) := by decide +kernel
theorem d6_36 : decode prog_23_method_8_code 36 = .ok (.aload_n 0, 1) := by decide +kernel
theorem d6_37 : decode prog_23_method_8_code 37 = .ok (.getfield 17, 3) := by decide +kernel
theorem d6_40 : decode prog_23_method_8_code 40 = .ok (.aload_n 3, 1) := by decide +kernel
theorem d6_41 : decode prog_23_method_8_code 41 = .ok (.iconst 0, 1) := by decide +kernel
theorem d6_42 : decode prog_23_method_8_code 42 = .ok (.iload 4, 2) := by decide +kernel
theorem d6_44 : decode prog_23_method_8_code 44 = .ok (.invokestatic 36, 3) := by decide +kernel
theorem d6_47 : decode prog_23_method_8_code 47 = .ok (.aload_n 0, 1) := by decide +kernel
theorem d6_48 : decode prog_23_method_8_code 48 = .ok (.getfield 7, 3) := by decide +kernel
theorem d6_51 : decode prog_23_method_8_code 51 = .ok (.iconst 0, 1) := by decide +kernel
theorem d6_52 : decode prog_23_method_8_code 52 = .ok (.aload_n 3, 1) := by decide +kernel
theorem d6_53 : decode prog_23_method_8_code 53 = .ok (.iload 4, 2) := by decide +kernel
theorem d6_55 : decode prog_23_method_8_code 55 = .ok (.aload_n 0, 1) := by decide +kernel
theorem d6_56 : decode prog_23_method_8_code 56 = .ok (.getfield 17, 3) := by decide +kernel
theorem d6_59 : decode prog_23_method_8_code 59 = .ok (.invokestatic 36, 3) := by decide +kernel
theorem d6_62 : decode prog_23_method_8_code 62 = .ok (.aload_n 0, 1) := by decide +kernel
theorem d6_63 : decode prog_23_method_8_code 63 = .ok (.aload_n 3, 1) := by decide +kernel
theorem d6_64 : decode prog_23_method_8_code 64 = .ok (.putfield 7, 3) := by decide +kernel
theorem d6_67 : decode prog_23_method_8_code 67 = .ok (.aload_n 0, 1) := by decide +kernel
theorem d6_68 : decode prog_23_method_8_code 68 = .ok (.iconst 0, 1) := by decide +kernel
theorem d6_69 : decode prog_23_method_8_code 69 = .ok (.putfield 17, 3) := by decide +kernel
theorem d6_72 : decode prog_23_method_8_code 72 = .ok (.return_, 1) := by decide +kernel
theorem pl_6 : plainFor y_6 = true := plainFor_of_name (by first | (simp [plainName, overriddenIn]; done) | decide +kernel)
theorem pd_6 : parseMethodDescriptor "(J)V" = some ⟨[.long], none⟩ := by decide +kernel
abbrev y_7 : MethodName := ⟨"java/lang/Math", "min", "(JJ)J"⟩
theorem d7_0 : decode jdk_29_method_70_code 0 = .ok (.lload_n 0, 1) := by decide +kernel
theorem d7_1 : decode jdk_29_method_70_code 1 = .ok (.lload_n 2, 1) := by decide +kernel
theorem d7_2 : decode jdk_29_method_70_code 2 = .ok (.lcmp, 1) := by decide +kernel
theorem d7_3 : decode jdk_29_method_70_code 3 = .ok (.ifCond .gt 7, 3) := by decide +kernel
theorem d7_6 : decode jdk_29_method_70_code 6 = .ok (.lload_n 0, 1) := by decide +kernel
theorem d7_7 : decode jdk_29_method_70_code 7 = .ok (.goto 4, 3) := by decide +kernel
theorem d7_10 : decode jdk_29_method_70_code 10 = .ok (.lload_n 2, 1) := by decide +kernel
theorem d7_11 : decode jdk_29_method_70_code 11 = .ok (.lreturn, 1) := by decide +kernel
theorem pl_7 : plainFor y_7 = true := Jvm.Free.JP.mathPlain rfl (by decide +kernel)
theorem pd_7 : parseMethodDescriptor "(JJ)J" = some ⟨[.long, .long], some .long⟩ := by decide +kernel
abbrev y_8 : MethodName := ⟨"java/lang/Math", "toIntExact", "(J)I"⟩
theorem d8_0 : decode jdk_29_method_43_code 0 = .ok (.lload_n 0, 1) := by decide +kernel
theorem d8_1 : decode jdk_29_method_43_code 1 = .ok (.l2i, 1) := by decide +kernel
theorem d8_2 : decode jdk_29_method_43_code 2 = .ok (.i2l, 1) := by decide +kernel
theorem d8_3 : decode jdk_29_method_43_code 3 = .ok (.lload_n 0, 1) := by decide +kernel
theorem d8_4 : decode jdk_29_method_43_code 4 = .ok (.lcmp, 1) := by decide +kernel
theorem d8_5 : decode jdk_29_method_43_code 5 = .ok (.ifCond .eq 13, 3) := by decide +kernel
theorem d8_18 : decode jdk_29_method_43_code 18 = .ok (.lload_n 0, 1) := by decide +kernel
theorem d8_19 : decode jdk_29_method_43_code 19 = .ok (.l2i, 1) := by decide +kernel
theorem d8_20 : decode jdk_29_method_43_code 20 = .ok (.ireturn, 1) := by decide +kernel
theorem pl_8 : plainFor y_8 = true := Jvm.Free.JP.mathPlain rfl (by decide +kernel)
theorem pd_8 : parseMethodDescriptor "(J)I" = some ⟨[.long], some .int⟩ := by decide +kernel
abbrev y_9 : MethodName := ⟨"com/example/mangrove/mangrove/MemorySlidingWindowLog$KeyLog", "removeOldest", "()V"⟩
theorem d9_0 : decode prog_23_method_6_code 0 = .ok (.aload_n 0, 1) := by decide +kernel
theorem d9_1 : decode prog_23_method_6_code 1 = .ok (.aload_n 0, 1) := by decide +kernel
theorem d9_2 : decode prog_23_method_6_code 2 = .ok (.getfield 17, 3) := by decide +kernel
theorem d9_5 : decode prog_23_method_6_code 5 = .ok (.iconst 1, 1) := by decide +kernel
theorem d9_6 : decode prog_23_method_6_code 6 = .ok (.iadd, 1) := by decide +kernel
theorem d9_7 : decode prog_23_method_6_code 7 = .ok (.aload_n 0, 1) := by decide +kernel
theorem d9_8 : decode prog_23_method_6_code 8 = .ok (.getfield 7, 3) := by decide +kernel
theorem d9_11 : decode prog_23_method_6_code 11 = .ok (.arraylength, 1) := by decide +kernel
theorem d9_12 : decode prog_23_method_6_code 12 = .ok (.irem, 1) := by decide +kernel
theorem d9_13 : decode prog_23_method_6_code 13 = .ok (.putfield 17, 3) := by decide +kernel
theorem d9_16 : decode prog_23_method_6_code 16 = .ok (.aload_n 0, 1) := by decide +kernel
theorem d9_17 : decode prog_23_method_6_code 17 = .ok (.dup, 1) := by decide +kernel
theorem d9_18 : decode prog_23_method_6_code 18 = .ok (.getfield 13, 3) := by decide +kernel
theorem d9_21 : decode prog_23_method_6_code 21 = .ok (.iconst 1, 1) := by decide +kernel
theorem d9_22 : decode prog_23_method_6_code 22 = .ok (.isub, 1) := by decide +kernel
theorem d9_23 : decode prog_23_method_6_code 23 = .ok (.putfield 13, 3) := by decide +kernel
theorem d9_26 : decode prog_23_method_6_code 26 = .ok (.return_, 1) := by decide +kernel
theorem pl_9 : plainFor y_9 = true := plainFor_of_name (by first | (simp [plainName, overriddenIn]; done) | decide +kernel)
theorem pd_9 : parseMethodDescriptor "()V" = some ⟨[], none⟩ := by decide +kernel
def LQ : Option Value → Hp → Prop := fun v _ => v = some (.int 1)
theorem own_addN (m n : Nat) : m.toInt32 + n.toInt32 = (m + n).toInt32 := (Int32.ofNat_add m n).symm
theorem own_subN {m n : Nat} (h : n ≤ m) (hm : m < 2147483648) : m.toInt32 - n.toInt32 = (m - n).toInt32 := by
  apply Int32.toInt_inj.mp
  have s := c_isub m.toInt32 n.toInt32
  have r := rng32 (m.toInt32 - n.toInt32)
  rw [(own_nat hm).2.2, (own_nat (by omega)).2.2] at s
  rw [(own_nat (m := m - n) (by omega)).2.2]
  omega
theorem own_modN {m n : Nat} (hm : m < 2147483648) (hn : n < 2147483648) : m.toInt32 % n.toInt32 = (m % n).toInt32 := by
  have : m % n ≤ m := Nat.mod_le m n
  apply Int32.toInt_inj.mp
  rw [Int32.toInt_mod, (own_nat hm).2.2, (own_nat hn).2.2, (own_nat (by omega)).2.2, Int.tmod_eq_emod_of_nonneg (by omega)]
  rfl
theorem own_inj {m n : Nat} (h : m < 2147483648) (h' : n < 2147483648) : m.toInt32 = n.toInt32 ↔ m = n := ⟨fun e => by have := congrArg Int32.toInt e; rw [(own_nat h).2.2, (own_nat h').2.2] at this; omega, fun e => by rw [e]⟩
theorem own_ne0 {n : Nat} (h : 0 < n) (h' : n < 2147483648) : n.toInt32 ≠ 0 := fun e => by
  have := (own_inj h' (by decide : 0 < 2147483648)).mp e
  omega
theorem own_wrap {f i n : Nat} (hf : f < n) (hi : i ≤ n) : (f + i) % n = if f + i < n then f + i else f + i - n := by
  split
  · rename_i h; exact Nat.mod_eq_of_lt h
  · rename_i h; rw [Nat.mod_eq_sub_mod (by omega)]; exact Nat.mod_eq_of_lt (by omega)
def KL (es : List Int64) (f s : Nat) (q : List Int64) : Prop := q.length = s ∧ s ≤ es.length ∧ f < es.length ∧ es.length < 100 ∧ ∀ i, i < s → es[(f + i) % es.length]? = q[i]?
theorem KL.new {n : Nat} (h : 0 < n) (h' : n < 100) : KL (List.replicate n 0) 0 0 [] := ⟨rfl, Nat.zero_le _, by simpa using h, by simpa using h', fun i hi => absurd hi (Nat.not_lt_zero i)⟩
theorem KL.add {es q : List Int64} {f s : Nat} {x : Int64} (K : KL es f s q) (hs : s < es.length) : KL (es.set ((f + s) % es.length) x) f (s + 1) (q ++ [x]) := by
  obtain ⟨k1, k2, k3, k4, k5⟩ := K
  refine ⟨by simp [k1], by rw [List.length_set]; exact hs, by simpa using k3, by simpa using k4, fun i hi => ?_⟩
  rw [List.length_set]
  rcases Nat.lt_or_ge i s with lt | ge
  · have ne : (f + s) % es.length ≠ (f + i) % es.length := by
      rw [own_wrap k3 (by omega), own_wrap k3 (by omega)]; split <;> split <;> omega
    rw [List.getElem?_set_ne ne, k5 i lt, List.getElem?_append_left (by omega)]
  · have : i = s := by omega
    subst this
    rw [List.getElem?_set_self (Nat.mod_lt _ (by omega)), List.getElem?_append_right (by omega)]
    simp [k1]
theorem KL.rem {es t : List Int64} {f s : Nat} {y : Int64} (K : KL es f s (y :: t)) : KL es ((f + 1) % es.length) (s - 1) t := by
  obtain ⟨k1, k2, k3, k4, k5⟩ := K
  simp only [List.length_cons] at k1
  refine ⟨by omega, by omega, Nat.mod_lt _ (by omega), k4, fun i hi => ?_⟩
  rw [Nat.mod_add_mod, show f + 1 + i = f + (i + 1) from by omega, k5 (i + 1) (by omega)]
  rfl
theorem KL.last {es q : List Int64} {f s : Nat} {x : Int64} (K : KL es f s (q ++ [x])) : es[(f + s - 1) % es.length]? = some x := by
  obtain ⟨k1, k2, k3, k4, k5⟩ := K
  simp only [List.length_append, List.length_cons, List.length_nil] at k1
  rw [show f + s - 1 = f + (s - 1) from by omega, k5 (s - 1) (by omega), List.getElem?_append_right (by omega)]
  have : s - 1 - q.length = 0 := by omega
  rw [this]; rfl
theorem KL.head {es t : List Int64} {f s : Nat} {y : Int64} (K : KL es f s (y :: t)) : es[f]? = some y := by
  obtain ⟨k1, k2, k3, k4, k5⟩ := K
  simp only [List.length_cons] at k1
  have := k5 0 (by omega)
  rw [Nat.add_zero, Nat.mod_eq_of_lt k3] at this
  exact this
theorem KL.bound {es q : List Int64} {f s : Nat} (K : KL es f s q) : es.length < 100 ∧ 0 < es.length ∧ f < es.length ∧ s ≤ es.length := ⟨K.2.2.2.1, Nat.lt_of_le_of_lt (Nat.zero_le _) K.2.2.1, K.2.2.1, K.2.1⟩
set_option maxRecDepth 65536 in
set_option maxHeartbeats 40000000 in
theorem met_ki {Z : State} (HT : Tb Z) {F : Hp} (g : Addr) (n : Nat) (hn : n ≤ 3) : Met Z y_2 prog_23_method_1_code 2 none ({ frames := 1, cells := 1, slots := 3, locals := 12 } : Room) [(.ref g), (.int n.toInt32)] ((g, Obj Z "com/example/mangrove/mangrove/MemorySlidingWindowLog$KeyLog" [("com/example/mangrove/mangrove/MemorySlidingWindowLog$KeyLog", "entries", "[J", .null), ("com/example/mangrove/mangrove/MemorySlidingWindowLog$KeyLog", "size", "I", (.int (0 : Int32))), ("com/example/mangrove/mangrove/MemorySlidingWindowLog$KeyLog", "first", "I", (.int (0 : Int32)))]) :: F) (fun v M' => ∃ ea : Addr, v = none ∧ M' = ((ea, ArL Z (List.replicate n 0)) :: (g, Obj Z "com/example/mangrove/mangrove/MemorySlidingWindowLog$KeyLog" [("com/example/mangrove/mangrove/MemorySlidingWindowLog$KeyLog", "entries", "[J", (.ref ea)), ("com/example/mangrove/mangrove/MemorySlidingWindowLog$KeyLog", "size", "I", (.int (0 : Nat).toInt32)), ("com/example/mangrove/mangrove/MemorySlidingWindowLog$KeyLog", "first", "I", (.int (0 : Nat).toInt32))]) :: F)) := by
  refine Met.of HT pl_2 (Ls := #[.val (.ref g), .val (.int n.toInt32)]) (fun m => by first | (simp [entryFrame, mkF, argsToLocals, Value.category]; done) | rfl) (fun k H => ?_)
  refine s_aloadn H d2_0 rfl rfl (pc' := 1) rfl ?_
  refine s_objinit H d2_1 (mem (i := 11) rfl) (mem (i := 12) rfl) (mem (i := 13) rfl) rfl (by decide) (Nat.le_of_ble_eq_true rfl) (pc' := 4) rfl ?_
  refine s_aloadn H d2_4 rfl rfl (pc' := 5) rfl ?_
  refine s_iloadn H d2_5 rfl (pc' := 6) rfl ?_
  refine s_newarr_long H d2_6 (mem (i := 14) rfl) (own_nat (by omega)).2.1 (cap := 3) (by rw [(own_nat (by omega)).1]; exact hn) (by decide) (cn' := 1) (sn' := 3) rfl rfl (by decide) (by decide) (pc' := 8) rfl (fun ea => ?_)
  rw [(own_nat (by omega)).1]
  show Go Z k 1 3 ((ea, ArL Z (List.replicate n 0)) :: (g, Obj Z "com/example/mangrove/mangrove/MemorySlidingWindowLog$KeyLog" [("com/example/mangrove/mangrove/MemorySlidingWindowLog$KeyLog", "entries", "[J", .null), ("com/example/mangrove/mangrove/MemorySlidingWindowLog$KeyLog", "size", "I", (.int (0 : Int32))), ("com/example/mangrove/mangrove/MemorySlidingWindowLog$KeyLog", "first", "I", (.int (0 : Int32)))]) :: F) 8 #[.val (.ref g), .val (.int n.toInt32)] [(.ref ea), (.ref g)]
  refine s_putf H d2_8 (mem (i := 15) rfl) (Or.inl (mem (i := 16) rfl)) (mem (i := 6) rfl) (ty := (.array .long)) (by decide) rfl rfl (i := 1) (j := 0) rfl rfl (pc' := 11) rfl ?_
  show Go Z k 1 3 ((ea, ArL Z (List.replicate n 0)) :: (g, Obj Z "com/example/mangrove/mangrove/MemorySlidingWindowLog$KeyLog" [("com/example/mangrove/mangrove/MemorySlidingWindowLog$KeyLog", "entries", "[J", (.ref ea)), ("com/example/mangrove/mangrove/MemorySlidingWindowLog$KeyLog", "size", "I", (.int (0 : Int32))), ("com/example/mangrove/mangrove/MemorySlidingWindowLog$KeyLog", "first", "I", (.int (0 : Int32)))]) :: F) 11 #[.val (.ref g), .val (.int n.toInt32)] []
  exact s_vret H d2_11 (by decide) (by decide) (⟨ea, rfl, rfl⟩)
set_option maxRecDepth 65536 in
set_option maxHeartbeats 40000000 in
theorem met_kr {Z : State} (HT : Tb Z) {F : Hp} (g ea : Addr) (es q : List Int64) (f s : Nat) (y : Int64) (K : KL es f s (y :: q)) : Met Z y_9 prog_23_method_6_code 1 none ({ frames := 0, cells := 0, slots := 0, locals := 0 } : Room) [(.ref g)] ((ea, ArL Z es) :: (g, Obj Z "com/example/mangrove/mangrove/MemorySlidingWindowLog$KeyLog" [("com/example/mangrove/mangrove/MemorySlidingWindowLog$KeyLog", "entries", "[J", (.ref ea)), ("com/example/mangrove/mangrove/MemorySlidingWindowLog$KeyLog", "size", "I", (.int s.toInt32)), ("com/example/mangrove/mangrove/MemorySlidingWindowLog$KeyLog", "first", "I", (.int f.toInt32))]) :: F) (fun v M' => ∃ f' : Nat, KL es f' (s - 1) q ∧ v = none ∧ M' = ((ea, ArL Z es) :: (g, Obj Z "com/example/mangrove/mangrove/MemorySlidingWindowLog$KeyLog" [("com/example/mangrove/mangrove/MemorySlidingWindowLog$KeyLog", "entries", "[J", (.ref ea)), ("com/example/mangrove/mangrove/MemorySlidingWindowLog$KeyLog", "size", "I", (.int (s - 1).toInt32)), ("com/example/mangrove/mangrove/MemorySlidingWindowLog$KeyLog", "first", "I", (.int f'.toInt32))]) :: F)) := by
  refine Met.of HT pl_9 (Ls := #[.val (.ref g)]) (fun m => by first | (simp [entryFrame, mkF, argsToLocals, Value.category]; done) | rfl) (fun k H => ?_)
  obtain ⟨b1, b2, b3, b4⟩ := K.bound
  have hs1 : 0 < s := by have := K.1; simp at this; omega
  refine s_aloadn H d9_0 rfl rfl (pc' := 1) rfl ?_
  refine s_aloadn H d9_1 rfl rfl (pc' := 2) rfl ?_
  refine s_getf H d9_2 (mem (i := 24) rfl) (i := 1) (j := 2) rfl rfl (pc' := 5) rfl ?_
  refine s_iconst H d9_5 (z := (1 : Int32)) (by decide) (pc' := 6) rfl ?_
  refine s_iadd H d9_6 (pc' := 7) rfl ?_
  refine s_aloadn H d9_7 rfl rfl (pc' := 8) rfl ?_
  refine s_getf H d9_8 (mem (i := 15) rfl) (i := 1) (j := 0) rfl rfl (pc' := 11) rfl ?_
  refine s_alenL H d9_11 (i := 0) rfl (z := es.length.toInt32) rfl (pc' := 12) rfl ?_
  refine s_irem H d9_12 (own_ne0 b2 (by omega)) (pc' := 13) rfl ?_
  rw [show f.toInt32 + 1 = (f + 1).toInt32 from own_addN f 1, own_modN (by omega) (by omega)]
  refine s_putf H d9_13 (mem (i := 24) rfl) (Or.inl (mem (i := 25) rfl)) (mem (i := 6) rfl) (ty := .int) (by decide) rfl rfl (i := 1) (j := 2) rfl rfl (pc' := 16) rfl ?_
  show Go Z k 0 0 ((ea, ArL Z es) :: (g, Obj Z "com/example/mangrove/mangrove/MemorySlidingWindowLog$KeyLog" [("com/example/mangrove/mangrove/MemorySlidingWindowLog$KeyLog", "entries", "[J", (.ref ea)), ("com/example/mangrove/mangrove/MemorySlidingWindowLog$KeyLog", "size", "I", (.int s.toInt32)), ("com/example/mangrove/mangrove/MemorySlidingWindowLog$KeyLog", "first", "I", (.int ((f + 1) % es.length).toInt32))]) :: F) 16 #[.val (.ref g)] []
  refine s_aloadn H d9_16 rfl rfl (pc' := 17) rfl ?_
  refine s_dup H d9_17 rfl (pc' := 18) rfl ?_
  refine s_getf H d9_18 (mem (i := 22) rfl) (i := 1) (j := 1) rfl rfl (pc' := 21) rfl ?_
  refine s_iconst H d9_21 (z := (1 : Int32)) (by decide) (pc' := 22) rfl ?_
  refine s_isub H d9_22 (pc' := 23) rfl ?_
  rw [show s.toInt32 - 1 = (s - 1).toInt32 from own_subN (n := 1) (by omega) (by omega)]
  refine s_putf H d9_23 (mem (i := 22) rfl) (Or.inl (mem (i := 23) rfl)) (mem (i := 6) rfl) (ty := .int) (by decide) rfl rfl (i := 1) (j := 1) rfl rfl (pc' := 26) rfl ?_
  show Go Z k 0 0 ((ea, ArL Z es) :: (g, Obj Z "com/example/mangrove/mangrove/MemorySlidingWindowLog$KeyLog" [("com/example/mangrove/mangrove/MemorySlidingWindowLog$KeyLog", "entries", "[J", (.ref ea)), ("com/example/mangrove/mangrove/MemorySlidingWindowLog$KeyLog", "size", "I", (.int (s - 1).toInt32)), ("com/example/mangrove/mangrove/MemorySlidingWindowLog$KeyLog", "first", "I", (.int ((f + 1) % es.length).toInt32))]) :: F) 26 #[.val (.ref g)] []
  exact s_vret H d9_26 (by decide) (by decide) (⟨_, K.rem, rfl, rfl⟩)
set_option maxRecDepth 65536 in
set_option maxHeartbeats 40000000 in
theorem met_kn {Z : State} (HT : Tb Z) {F : Hp} (g ea : Addr) (es q : List Int64) (f s : Nat) (x : Int64) (K : KL es f s (q ++ [x])) : Met Z y_5 prog_23_method_5_code 1 (some .long) ({ frames := 0, cells := 0, slots := 0, locals := 0 } : Room) [(.ref g)] ((ea, ArL Z es) :: (g, Obj Z "com/example/mangrove/mangrove/MemorySlidingWindowLog$KeyLog" [("com/example/mangrove/mangrove/MemorySlidingWindowLog$KeyLog", "entries", "[J", (.ref ea)), ("com/example/mangrove/mangrove/MemorySlidingWindowLog$KeyLog", "size", "I", (.int s.toInt32)), ("com/example/mangrove/mangrove/MemorySlidingWindowLog$KeyLog", "first", "I", (.int f.toInt32))]) :: F) (fun v M' => v = some (.long x) ∧ M' = ((ea, ArL Z es) :: (g, Obj Z "com/example/mangrove/mangrove/MemorySlidingWindowLog$KeyLog" [("com/example/mangrove/mangrove/MemorySlidingWindowLog$KeyLog", "entries", "[J", (.ref ea)), ("com/example/mangrove/mangrove/MemorySlidingWindowLog$KeyLog", "size", "I", (.int s.toInt32)), ("com/example/mangrove/mangrove/MemorySlidingWindowLog$KeyLog", "first", "I", (.int f.toInt32))]) :: F)) := by
  refine Met.of HT pl_5 (Ls := #[.val (.ref g)]) (fun m => by first | (simp [entryFrame, mkF, argsToLocals, Value.category]; done) | rfl) (fun k H => ?_)
  obtain ⟨b1, b2, b3, b4⟩ := K.bound
  have hs1 : 0 < s := by have := K.1; simp at this; omega
  refine s_aloadn H d5_0 rfl rfl (pc' := 1) rfl ?_
  refine s_getf H d5_1 (mem (i := 15) rfl) (i := 1) (j := 0) rfl rfl (pc' := 4) rfl ?_
  refine s_aloadn H d5_4 rfl rfl (pc' := 5) rfl ?_
  refine s_getf H d5_5 (mem (i := 24) rfl) (i := 1) (j := 2) rfl rfl (pc' := 8) rfl ?_
  refine s_aloadn H d5_8 rfl rfl (pc' := 9) rfl ?_
  refine s_getf H d5_9 (mem (i := 22) rfl) (i := 1) (j := 1) rfl rfl (pc' := 12) rfl ?_
  refine s_iadd H d5_12 (pc' := 13) rfl ?_
  rw [own_addN]
  refine s_iconst H d5_13 (z := (1 : Int32)) (by decide) (pc' := 14) rfl ?_
  refine s_isub H d5_14 (pc' := 15) rfl ?_
  rw [show (f + s).toInt32 - 1 = (f + s - 1).toInt32 from own_subN (n := 1) (by omega) (by omega)]
  refine s_aloadn H d5_15 rfl rfl (pc' := 16) rfl ?_
  refine s_getf H d5_16 (mem (i := 15) rfl) (i := 1) (j := 0) rfl rfl (pc' := 19) rfl ?_
  refine s_alenL H d5_19 (i := 0) rfl (z := es.length.toInt32) rfl (pc' := 20) rfl ?_
  refine s_irem H d5_20 (own_ne0 b2 (by omega)) (pc' := 21) rfl ?_
  rw [own_modN (by omega) (by omega)]
  have mlt := Nat.mod_lt (f + s - 1) b2
  refine s_laload H d5_21 (i := 0) rfl (x := x) (own_nat (by omega)).2.1 (jn := ((f + s - 1) % es.length)) (own_nat (by omega)).1 K.last (pc' := 22) rfl ?_
  exact s_lret H d5_22 (by decide) (by decide) (⟨rfl, rfl⟩)
theorem own_grow {es q : List Int64} {f s N : Nat} (K : KL es f s q) (hs : s = es.length) (hN : es.length < N) (hb : N < 100) (Z0 : List Int64) (hZ : Z0.length = N) :
    KL ((Z0.take 0 ++ (es.drop f).take (es.length - f) ++ Z0.drop (0 + (es.length - f))).take (es.length - f) ++ (es.drop 0).take f ++ (Z0.take 0 ++ (es.drop f).take (es.length - f) ++ Z0.drop (0 + (es.length - f))).drop (es.length - f + f)) 0 s q := by
  obtain ⟨k1, k2, k3, k4, k5⟩ := K
  have e1 : Z0.take 0 ++ (es.drop f).take (es.length - f) ++ Z0.drop (0 + (es.length - f)) = es.drop f ++ Z0.drop (es.length - f) := by
    rw [List.take_zero, List.nil_append, Nat.zero_add, List.take_of_length_le (by simp)]
  have ld : (es.drop f).length = es.length - f := List.length_drop
  have e2 : (es.drop f ++ Z0.drop (es.length - f)).take (es.length - f) = es.drop f := by rw [List.take_append_of_le_length (by omega), List.take_of_length_le (by omega)]
  have e3 : (es.drop f ++ Z0.drop (es.length - f)).drop (es.length - f + f) = Z0.drop es.length := by
    rw [List.drop_append, List.drop_of_length_le (by omega), List.nil_append, List.drop_drop]; congr 1; omega
  rw [e1, e2, e3, List.drop_zero]
  have len : (es.drop f ++ es.take f ++ Z0.drop es.length).length = N := by simp; omega
  refine ⟨k1, by omega, by omega, by omega, fun i hi => ?_⟩
  rw [Nat.zero_add, len, Nat.mod_eq_of_lt (by omega), ← k5 i hi, own_wrap k3 (by omega), List.getElem?_append_left (by simp; omega)]
  split
  · rw [List.getElem?_append_left (by omega), List.getElem?_drop]
  · rw [List.getElem?_append_right (by omega), List.getElem?_take, if_pos (by omega)]; congr 1; omega
set_option maxRecDepth 65536 in
set_option maxHeartbeats 40000000 in
theorem met_minL {Z : State} (HT : Tb Z) {F : Hp} (a b : Int64)  : Met Z y_7 jdk_29_method_70_code 4 (some .long) ({ frames := 0, cells := 0, slots := 0, locals := 0 } : Room) [(.long a), (.long b)] (F) (fun v M' => ∃ r : Int64, r.toInt = min a.toInt b.toInt ∧ v = some (.long r) ∧ M' = F) := by
  refine Met.of HT pl_7 (Ls := #[.val (.long a), .second, .val (.long b), .second]) (fun m => by first | (simp [entryFrame, mkF, argsToLocals, Value.category]; done) | rfl) (fun k H => ?_)
  refine s_lloadn H d7_0 rfl (pc' := 1) rfl ?_
  refine s_lloadn H d7_1 rfl (pc' := 2) rfl ?_
  refine s_lcmp H d7_2 (pc' := 3) rfl ?_
  refine s_if H d7_3 (py := 10) (pc' := 6) l_gt (by decide) rfl (fun c3 => ?_) (fun c3 => ?_)
  · refine s_lloadn H d7_10 rfl (pc' := 11) rfl ?_
    exact s_lret H d7_11 (by decide) (by decide) (⟨b, by rw [Int64.lt_iff_toInt_lt] at c3; omega, rfl, rfl⟩)
  · refine s_lloadn H d7_6 rfl (pc' := 7) rfl ?_
    refine s_goto H d7_7 (pc' := 11) (by decide) ?_
    exact s_lret H d7_11 (by decide) (by decide) (⟨a, by rw [Int64.lt_iff_toInt_lt] at c3; omega, rfl, rfl⟩)
set_option maxRecDepth 65536 in
set_option maxHeartbeats 40000000 in
theorem met_tie {Z : State} (HT : Tb Z) {F : Hp} (x : Int64) (N : Nat) (hx : x.toInt = N) (hN : N < 2147483648) : Met Z y_8 jdk_29_method_43_code 2 (some .int) ({ frames := 0, cells := 0, slots := 0, locals := 0 } : Room) [(.long x)] (F) (fun v M' => v = some (.int N.toInt32) ∧ M' = F) := by
  refine Met.of HT pl_8 (Ls := #[.val (.long x), .second]) (fun m => by first | (simp [entryFrame, mkF, argsToLocals, Value.category]; done) | rfl) (fun k H => ?_)
  have e1 : x.toInt32 = N.toInt32 := by
    apply Int32.toInt_inj.mp
    have := c_l2i x
    have := rng32 x.toInt32
    rw [(own_nat hN).2.2]; omega
  have e2 : x.toInt32.toInt64 = x := by
    apply Int64.toInt_inj.mp
    rw [c_i2l, e1, (own_nat hN).2.2, hx]
  refine s_lloadn H d8_0 rfl (pc' := 1) rfl ?_
  refine s_l2i H d8_1 (pc' := 2) rfl ?_
  refine s_i2l H d8_2 (pc' := 3) rfl ?_
  refine s_lloadn H d8_3 rfl (pc' := 4) rfl ?_
  refine s_lcmp H d8_4 (pc' := 5) rfl ?_
  refine s_if H d8_5 (py := 18) (pc' := 8) l_eq (by decide) rfl (fun c5 => ?_) (fun c5 => ?_)
  · refine s_lloadn H d8_18 rfl (pc' := 19) rfl ?_
    refine s_l2i H d8_19 (pc' := 20) rfl ?_
    rw [e1]
    exact s_iret H d8_20 rfl (Or.inl rfl) (by decide) (by decide) (⟨rfl, rfl⟩)
  · exact absurd e2 c5
set_option maxRecDepth 65536 in
set_option maxHeartbeats 40000000 in
theorem met_kg {Z : State} (HT : Tb Z) {F : Hp} (g ea : Addr) (es q : List Int64) (f s : Nat) (lim : Int64) (K : KL es f s q) (hs : s = es.length) (h5 : s ≤ 5) (hl : (s : Int) < lim.toInt) : Met Z y_6 prog_23_method_8_code 5 none ({ frames := 1, cells := 1, slots := 10, locals := 40 } : Room) [(.ref g), (.long lim)] ((ea, ArL Z es) :: (g, Obj Z "com/example/mangrove/mangrove/MemorySlidingWindowLog$KeyLog" [("com/example/mangrove/mangrove/MemorySlidingWindowLog$KeyLog", "entries", "[J", (.ref ea)), ("com/example/mangrove/mangrove/MemorySlidingWindowLog$KeyLog", "size", "I", (.int s.toInt32)), ("com/example/mangrove/mangrove/MemorySlidingWindowLog$KeyLog", "first", "I", (.int f.toInt32))]) :: F) (fun v M' => ∃ (ea' : Addr) (es' : List Int64) (F' : Hp), s < es'.length ∧ KL es' 0 s q ∧ v = none ∧ M' = ((ea', ArL Z es') :: (g, Obj Z "com/example/mangrove/mangrove/MemorySlidingWindowLog$KeyLog" [("com/example/mangrove/mangrove/MemorySlidingWindowLog$KeyLog", "entries", "[J", (.ref ea')), ("com/example/mangrove/mangrove/MemorySlidingWindowLog$KeyLog", "size", "I", (.int s.toInt32)), ("com/example/mangrove/mangrove/MemorySlidingWindowLog$KeyLog", "first", "I", (.int (0 : Nat).toInt32))]) :: F')) := by
  refine Met.of HT pl_6 (Ls := #[.val (.ref g), .val (.long lim), .second, .unset, .unset]) (fun m => by first | (simp [entryFrame, mkF, argsToLocals, Value.category]; done) | rfl) (fun k H => ?_)
  obtain ⟨b1, b2, b3, b4⟩ := K.bound
  refine s_lloadn H d6_0 rfl (pc' := 1) rfl ?_
  refine s_ldc2 H d6_1 (mem (i := 35) rfl) (pc' := 4) rfl ?_
  refine s_aloadn H d6_4 rfl rfl (pc' := 5) rfl ?_
  refine s_getf H d6_5 (mem (i := 15) rfl) (i := 1) (j := 0) rfl rfl (pc' := 8) rfl ?_
  refine s_alenL H d6_8 (i := 0) rfl (z := es.length.toInt32) rfl (pc' := 9) rfl ?_
  refine s_i2l H d6_9 (pc' := 10) rfl ?_
  refine s_lmul H d6_10 (pc' := 11) rfl ?_
  refine s_static H (met_minL H.tb lim ((2 : Int64) * (es.length.toInt32.toInt64))) d6_11 (mem (i := 36) rfl) (mem (i := 37) rfl) (mem (i := 2) rfl) (mem (i := 38) rfl) (by decide) pd_7 rfl (rest := []) rfl rfl (by decide) (Nat.le_of_ble_eq_true rfl) (cn' := 0) (sn' := 0) rfl rfl (by decide) (by decide) (pc' := 14) rfl (fun _ _ hq => ?_)
  obtain ⟨r, hr, rfl, rfl⟩ := hq
  show Go Z k 0 0 ((ea, ArL Z es) :: (g, Obj Z "com/example/mangrove/mangrove/MemorySlidingWindowLog$KeyLog" [("com/example/mangrove/mangrove/MemorySlidingWindowLog$KeyLog", "entries", "[J", (.ref ea)), ("com/example/mangrove/mangrove/MemorySlidingWindowLog$KeyLog", "size", "I", (.int s.toInt32)), ("com/example/mangrove/mangrove/MemorySlidingWindowLog$KeyLog", "first", "I", (.int f.toInt32))]) :: F) 14 #[.val (.ref g), .val (.long lim), .second, .unset, .unset] [(.long r)]
  have el : es.length.toInt32.toInt64.toInt = es.length := by rw [c_i2l, (own_nat (by omega)).2.2]
  have em := c_lmul 2 es.length.toInt32.toInt64
  have rm2 := rng64 (2 * es.length.toInt32.toInt64)
  rw [el, show (2 : Int64).toInt = 2 from by decide] at em
  have em2 : (2 * es.length.toInt32.toInt64).toInt = 2 * es.length := by omega
  rw [em2] at hr
  obtain ⟨N, hN⟩ : ∃ N : Nat, r.toInt = N := ⟨r.toInt.toNat, by omega⟩
  have hN1 : es.length < N ∧ N ≤ 10 := by omega
  refine s_static H (met_tie H.tb r N hN (by omega)) d6_14 (mem (i := 39) rfl) (mem (i := 40) rfl) (mem (i := 2) rfl) (mem (i := 41) rfl) (by decide) pd_8 rfl (rest := []) rfl rfl (by decide) (Nat.le_of_ble_eq_true rfl) (cn' := 0) (sn' := 0) rfl rfl (by decide) (by decide) (pc' := 17) rfl (fun _ _ hq => ?_)
  obtain ⟨rfl, rfl⟩ := hq
  show Go Z k 0 0 ((ea, ArL Z es) :: (g, Obj Z "com/example/mangrove/mangrove/MemorySlidingWindowLog$KeyLog" [("com/example/mangrove/mangrove/MemorySlidingWindowLog$KeyLog", "entries", "[J", (.ref ea)), ("com/example/mangrove/mangrove/MemorySlidingWindowLog$KeyLog", "size", "I", (.int s.toInt32)), ("com/example/mangrove/mangrove/MemorySlidingWindowLog$KeyLog", "first", "I", (.int f.toInt32))]) :: F) 17 #[.val (.ref g), .val (.long lim), .second, .unset, .unset] [(.int N.toInt32)]
  refine s_newarr_long H d6_17 (mem (i := 14) rfl) (own_nat (by omega)).2.1 (cap := 10) (by rw [(own_nat (by omega)).1]; omega) (by decide) (cn' := 1) (sn' := 10) rfl rfl (by decide) (by decide) (pc' := 19) rfl (fun ea2 => ?_)
  rw [(own_nat (by omega)).1]
  show Go Z k 1 10 ((ea2, ArL Z (List.replicate N 0)) :: (ea, ArL Z es) :: (g, Obj Z "com/example/mangrove/mangrove/MemorySlidingWindowLog$KeyLog" [("com/example/mangrove/mangrove/MemorySlidingWindowLog$KeyLog", "entries", "[J", (.ref ea)), ("com/example/mangrove/mangrove/MemorySlidingWindowLog$KeyLog", "size", "I", (.int s.toInt32)), ("com/example/mangrove/mangrove/MemorySlidingWindowLog$KeyLog", "first", "I", (.int f.toInt32))]) :: F) 19 #[.val (.ref g), .val (.long lim), .second, .unset, .unset] [(.ref ea2)]
  refine s_astoren H d6_19 (L' := #[.val (.ref g), .val (.long lim), .second, .val (.ref ea2), .unset]) rfl rfl (pc' := 20) rfl ?_
  refine s_aloadn H d6_20 rfl rfl (pc' := 21) rfl ?_
  refine s_getf H d6_21 (mem (i := 15) rfl) (i := 2) (j := 0) rfl rfl (pc' := 24) rfl ?_
  refine s_alenL H d6_24 (i := 1) rfl (z := es.length.toInt32) rfl (pc' := 25) rfl ?_
  refine s_aloadn H d6_25 rfl rfl (pc' := 26) rfl ?_
  refine s_getf H d6_26 (mem (i := 24) rfl) (i := 2) (j := 2) rfl rfl (pc' := 29) rfl ?_
  refine s_isub H d6_29 (pc' := 30) rfl ?_
  rw [own_subN (by omega) (by omega)]
  refine s_istore H d6_30 (L' := fun z => #[.val (.ref g), .val (.long lim), .second, .val (.ref ea2), .val (.int z)]) (fun _ => rfl) (pc' := 32) rfl (fun z0 hz => ?_)
  subst z0
  refine s_aloadn H d6_32 rfl rfl (pc' := 33) rfl ?_
  refine s_getf H d6_33 (mem (i := 15) rfl) (i := 2) (j := 0) rfl rfl (pc' := 36) rfl ?_
  refine s_aloadn H d6_36 rfl rfl (pc' := 37) rfl ?_
  refine s_getf H d6_37 (mem (i := 24) rfl) (i := 2) (j := 2) rfl rfl (pc' := 40) rfl ?_
  refine s_aloadn H d6_40 rfl rfl (pc' := 41) rfl ?_
  refine s_iconst H d6_41 (z := (0 : Int32)) (by decide) (pc' := 42) rfl ?_
  refine s_iload H d6_42 rfl (pc' := 44) rfl ?_
  refine s_acopy_L H (f) (0) (es.length - f) d6_44 (mem (i := 42) rfl) (mem (i := 45) rfl) (mem (i := 43) rfl) (mem (i := 44) rfl) (i := 1) (j := 0) rfl rfl rfl rfl rfl (by omega) (by simp; omega) rfl (by decide) (Nat.le_of_ble_eq_true rfl) (pc' := 47) rfl ?_
  show Go Z k 1 10 ((ea2, ArL Z ((List.replicate N 0).take 0 ++ (es.drop f).take (es.length - f) ++ (List.replicate N 0).drop (0 + (es.length - f)))) :: (ea, ArL Z es) :: (g, Obj Z "com/example/mangrove/mangrove/MemorySlidingWindowLog$KeyLog" [("com/example/mangrove/mangrove/MemorySlidingWindowLog$KeyLog", "entries", "[J", (.ref ea)), ("com/example/mangrove/mangrove/MemorySlidingWindowLog$KeyLog", "size", "I", (.int s.toInt32)), ("com/example/mangrove/mangrove/MemorySlidingWindowLog$KeyLog", "first", "I", (.int f.toInt32))]) :: F) 47 #[.val (.ref g), .val (.long lim), .second, .val (.ref ea2), .val (.int (es.length - f).toInt32)] []
  refine s_aloadn H d6_47 rfl rfl (pc' := 48) rfl ?_
  refine s_getf H d6_48 (mem (i := 15) rfl) (i := 2) (j := 0) rfl rfl (pc' := 51) rfl ?_
  refine s_iconst H d6_51 (z := (0 : Int32)) (by decide) (pc' := 52) rfl ?_
  refine s_aloadn H d6_52 rfl rfl (pc' := 53) rfl ?_
  refine s_iload H d6_53 rfl (pc' := 55) rfl ?_
  refine s_aloadn H d6_55 rfl rfl (pc' := 56) rfl ?_
  refine s_getf H d6_56 (mem (i := 24) rfl) (i := 2) (j := 2) rfl rfl (pc' := 59) rfl ?_
  refine s_acopy_L H (0) (es.length - f) (f) d6_59 (mem (i := 42) rfl) (mem (i := 45) rfl) (mem (i := 43) rfl) (mem (i := 44) rfl) (i := 1) (j := 0) rfl rfl rfl rfl rfl (by omega) (by simp; omega) rfl (by decide) (Nat.le_of_ble_eq_true rfl) (pc' := 62) rfl ?_
  show Go Z k 1 10 ((ea2, ArL Z (((List.replicate N 0).take 0 ++ (es.drop f).take (es.length - f) ++ (List.replicate N 0).drop (0 + (es.length - f))).take (es.length - f) ++ (es.drop 0).take f ++ ((List.replicate N 0).take 0 ++ (es.drop f).take (es.length - f) ++ (List.replicate N 0).drop (0 + (es.length - f))).drop ((es.length - f) + f))) :: (ea, ArL Z es) :: (g, Obj Z "com/example/mangrove/mangrove/MemorySlidingWindowLog$KeyLog" [("com/example/mangrove/mangrove/MemorySlidingWindowLog$KeyLog", "entries", "[J", (.ref ea)), ("com/example/mangrove/mangrove/MemorySlidingWindowLog$KeyLog", "size", "I", (.int s.toInt32)), ("com/example/mangrove/mangrove/MemorySlidingWindowLog$KeyLog", "first", "I", (.int f.toInt32))]) :: F) 62 #[.val (.ref g), .val (.long lim), .second, .val (.ref ea2), .val (.int (es.length - f).toInt32)] []
  refine s_aloadn H d6_62 rfl rfl (pc' := 63) rfl ?_
  refine s_aloadn H d6_63 rfl rfl (pc' := 64) rfl ?_
  refine s_putf H d6_64 (mem (i := 15) rfl) (Or.inl (mem (i := 16) rfl)) (mem (i := 6) rfl) (ty := (.array .long)) (by decide) rfl rfl (i := 2) (j := 0) rfl rfl (pc' := 67) rfl ?_
  show Go Z k 1 10 ((ea2, ArL Z (((List.replicate N 0).take 0 ++ (es.drop f).take (es.length - f) ++ (List.replicate N 0).drop (0 + (es.length - f))).take (es.length - f) ++ (es.drop 0).take f ++ ((List.replicate N 0).take 0 ++ (es.drop f).take (es.length - f) ++ (List.replicate N 0).drop (0 + (es.length - f))).drop ((es.length - f) + f))) :: (ea, ArL Z es) :: (g, Obj Z "com/example/mangrove/mangrove/MemorySlidingWindowLog$KeyLog" [("com/example/mangrove/mangrove/MemorySlidingWindowLog$KeyLog", "entries", "[J", (.ref ea2)), ("com/example/mangrove/mangrove/MemorySlidingWindowLog$KeyLog", "size", "I", (.int s.toInt32)), ("com/example/mangrove/mangrove/MemorySlidingWindowLog$KeyLog", "first", "I", (.int f.toInt32))]) :: F) 67 #[.val (.ref g), .val (.long lim), .second, .val (.ref ea2), .val (.int (es.length - f).toInt32)] []
  refine s_aloadn H d6_67 rfl rfl (pc' := 68) rfl ?_
  refine s_iconst H d6_68 (z := (0 : Int32)) (by decide) (pc' := 69) rfl ?_
  refine s_putf H d6_69 (mem (i := 24) rfl) (Or.inl (mem (i := 25) rfl)) (mem (i := 6) rfl) (ty := .int) (by decide) rfl rfl (i := 2) (j := 2) rfl rfl (pc' := 72) rfl ?_
  show Go Z k 1 10 ((ea2, ArL Z (((List.replicate N 0).take 0 ++ (es.drop f).take (es.length - f) ++ (List.replicate N 0).drop (0 + (es.length - f))).take (es.length - f) ++ (es.drop 0).take f ++ ((List.replicate N 0).take 0 ++ (es.drop f).take (es.length - f) ++ (List.replicate N 0).drop (0 + (es.length - f))).drop ((es.length - f) + f))) :: (ea, ArL Z es) :: (g, Obj Z "com/example/mangrove/mangrove/MemorySlidingWindowLog$KeyLog" [("com/example/mangrove/mangrove/MemorySlidingWindowLog$KeyLog", "entries", "[J", (.ref ea2)), ("com/example/mangrove/mangrove/MemorySlidingWindowLog$KeyLog", "size", "I", (.int s.toInt32)), ("com/example/mangrove/mangrove/MemorySlidingWindowLog$KeyLog", "first", "I", (.int (0 : Int32)))]) :: F) 72 #[.val (.ref g), .val (.long lim), .second, .val (.ref ea2), .val (.int (es.length - f).toInt32)] []
  refine Go.perm (List.Perm.cons _ (List.Perm.swap _ _ _)) ?_
  exact s_vret H d6_72 (by decide) (by decide) (⟨ea2, _, _, by simp; omega, own_grow K hs hN1.1 (by omega) (List.replicate N 0) (by simp), rfl, rfl⟩)
set_option maxRecDepth 65536 in
set_option maxHeartbeats 40000000 in
theorem a17 {Z : State} {k : Cx} {F : Hp} {g ea : Addr} {es q : List Int64} {f s : Nat} {x lim : Int64} (H : Ok Z k ({ frames := 2, cells := 1, slots := 10, locals := 56 } : Room) (fun v M' => ∃ (ea' : Addr) (es' : List Int64) (f' : Nat) (F' : Hp), KL es' f' (s + 1) (q ++ [x]) ∧ v = none ∧ M' = ((ea', ArL Z es') :: (g, Obj Z "com/example/mangrove/mangrove/MemorySlidingWindowLog$KeyLog" [("com/example/mangrove/mangrove/MemorySlidingWindowLog$KeyLog", "entries", "[J", (.ref ea')), ("com/example/mangrove/mangrove/MemorySlidingWindowLog$KeyLog", "size", "I", (.int (s + 1).toInt32)), ("com/example/mangrove/mangrove/MemorySlidingWindowLog$KeyLog", "first", "I", (.int f'.toInt32))]) :: F')) y_4 prog_23_method_7_code 5 none) (K : KL es f s q) (hs : s < es.length) : Go Z k 1 10 ((ea, ArL Z es) :: (g, Obj Z "com/example/mangrove/mangrove/MemorySlidingWindowLog$KeyLog" [("com/example/mangrove/mangrove/MemorySlidingWindowLog$KeyLog", "entries", "[J", (.ref ea)), ("com/example/mangrove/mangrove/MemorySlidingWindowLog$KeyLog", "size", "I", (.int s.toInt32)), ("com/example/mangrove/mangrove/MemorySlidingWindowLog$KeyLog", "first", "I", (.int f.toInt32))]) :: F) 17 #[.val (.ref g), .val (.long x), .second, .val (.long lim), .second] [] := by
  obtain ⟨b1, b2, b3, b4⟩ := K.bound
  refine s_aloadn H d4_17 rfl rfl (pc' := 18) rfl ?_
  refine s_getf H d4_18 (mem (i := 15) rfl) (i := 1) (j := 0) rfl rfl (pc' := 21) rfl ?_
  refine s_aloadn H d4_21 rfl rfl (pc' := 22) rfl ?_
  refine s_getf H d4_22 (mem (i := 24) rfl) (i := 1) (j := 2) rfl rfl (pc' := 25) rfl ?_
  refine s_aloadn H d4_25 rfl rfl (pc' := 26) rfl ?_
  refine s_getf H d4_26 (mem (i := 22) rfl) (i := 1) (j := 1) rfl rfl (pc' := 29) rfl ?_
  refine s_iadd H d4_29 (pc' := 30) rfl ?_
  rw [own_addN]
  refine s_aloadn H d4_30 rfl rfl (pc' := 31) rfl ?_
  refine s_getf H d4_31 (mem (i := 15) rfl) (i := 1) (j := 0) rfl rfl (pc' := 34) rfl ?_
  refine s_alenL H d4_34 (i := 0) rfl (z := es.length.toInt32) rfl (pc' := 35) rfl ?_
  refine s_irem H d4_35 (own_ne0 b2 (by omega)) (pc' := 36) rfl ?_
  rw [own_modN (by omega) (by omega)]
  have mlt := Nat.mod_lt (f + s) b2
  refine s_lloadn H d4_36 rfl (pc' := 37) rfl ?_
  refine s_lastore H d4_37 (i := 0) rfl (own_nat (by omega)).2.1 (jn := ((f + s) % es.length)) (own_nat (by omega)).1 mlt (pc' := 38) rfl ?_
  show Go Z k 1 10 ((ea, ArL Z (es.set ((f + s) % es.length) x)) :: (g, Obj Z "com/example/mangrove/mangrove/MemorySlidingWindowLog$KeyLog" [("com/example/mangrove/mangrove/MemorySlidingWindowLog$KeyLog", "entries", "[J", (.ref ea)), ("com/example/mangrove/mangrove/MemorySlidingWindowLog$KeyLog", "size", "I", (.int s.toInt32)), ("com/example/mangrove/mangrove/MemorySlidingWindowLog$KeyLog", "first", "I", (.int f.toInt32))]) :: F) 38 #[.val (.ref g), .val (.long x), .second, .val (.long lim), .second] []
  refine s_aloadn H d4_38 rfl rfl (pc' := 39) rfl ?_
  refine s_dup H d4_39 rfl (pc' := 40) rfl ?_
  refine s_getf H d4_40 (mem (i := 22) rfl) (i := 1) (j := 1) rfl rfl (pc' := 43) rfl ?_
  refine s_iconst H d4_43 (z := (1 : Int32)) (by decide) (pc' := 44) rfl ?_
  refine s_iadd H d4_44 (pc' := 45) rfl ?_
  rw [show s.toInt32 + 1 = (s + 1).toInt32 from own_addN s 1]
  refine s_putf H d4_45 (mem (i := 22) rfl) (Or.inl (mem (i := 23) rfl)) (mem (i := 6) rfl) (ty := .int) (by decide) rfl rfl (i := 1) (j := 1) rfl rfl (pc' := 48) rfl ?_
  show Go Z k 1 10 ((ea, ArL Z (es.set ((f + s) % es.length) x)) :: (g, Obj Z "com/example/mangrove/mangrove/MemorySlidingWindowLog$KeyLog" [("com/example/mangrove/mangrove/MemorySlidingWindowLog$KeyLog", "entries", "[J", (.ref ea)), ("com/example/mangrove/mangrove/MemorySlidingWindowLog$KeyLog", "size", "I", (.int (s + 1).toInt32)), ("com/example/mangrove/mangrove/MemorySlidingWindowLog$KeyLog", "first", "I", (.int f.toInt32))]) :: F) 48 #[.val (.ref g), .val (.long x), .second, .val (.long lim), .second] []
  exact s_vret H d4_48 (by decide) (by decide) (⟨_, _, _, _, K.add hs, rfl, rfl⟩)
set_option maxRecDepth 65536 in
set_option maxHeartbeats 40000000 in
theorem met_ka {Z : State} (HT : Tb Z) {F : Hp} (g ea : Addr) (es q : List Int64) (f s : Nat) (x lim : Int64) (K : KL es f s q) (h5 : s ≤ 5) (hl : (s : Int) < lim.toInt) : Met Z y_4 prog_23_method_7_code 5 none ({ frames := 2, cells := 1, slots := 10, locals := 56 } : Room) [(.ref g), (.long x), (.long lim)] ((ea, ArL Z es) :: (g, Obj Z "com/example/mangrove/mangrove/MemorySlidingWindowLog$KeyLog" [("com/example/mangrove/mangrove/MemorySlidingWindowLog$KeyLog", "entries", "[J", (.ref ea)), ("com/example/mangrove/mangrove/MemorySlidingWindowLog$KeyLog", "size", "I", (.int s.toInt32)), ("com/example/mangrove/mangrove/MemorySlidingWindowLog$KeyLog", "first", "I", (.int f.toInt32))]) :: F) (fun v M' => ∃ (ea' : Addr) (es' : List Int64) (f' : Nat) (F' : Hp), KL es' f' (s + 1) (q ++ [x]) ∧ v = none ∧ M' = ((ea', ArL Z es') :: (g, Obj Z "com/example/mangrove/mangrove/MemorySlidingWindowLog$KeyLog" [("com/example/mangrove/mangrove/MemorySlidingWindowLog$KeyLog", "entries", "[J", (.ref ea')), ("com/example/mangrove/mangrove/MemorySlidingWindowLog$KeyLog", "size", "I", (.int (s + 1).toInt32)), ("com/example/mangrove/mangrove/MemorySlidingWindowLog$KeyLog", "first", "I", (.int f'.toInt32))]) :: F')) := by
  refine Met.of HT pl_4 (Ls := #[.val (.ref g), .val (.long x), .second, .val (.long lim), .second]) (fun m => by first | (simp [entryFrame, mkF, argsToLocals, Value.category]; done) | rfl) (fun k H => ?_)
  obtain ⟨b1, b2, b3, b4⟩ := K.bound
  refine s_aloadn H d4_0 rfl rfl (pc' := 1) rfl ?_
  refine s_getf H d4_1 (mem (i := 22) rfl) (i := 1) (j := 1) rfl rfl (pc' := 4) rfl ?_
  refine s_aloadn H d4_4 rfl rfl (pc' := 5) rfl ?_
  refine s_getf H d4_5 (mem (i := 15) rfl) (i := 1) (j := 0) rfl rfl (pc' := 8) rfl ?_
  refine s_alenL H d4_8 (i := 0) rfl (z := es.length.toInt32) rfl (pc' := 9) rfl ?_
  refine s_icmp H d4_9 (py := 17) (pc' := 12) q_ne (by decide) rfl (fun c9 => ?_) (fun c9 => ?_)
  · exact Go.more (by decide) (by decide) (a17 H K (Nat.lt_of_le_of_ne b4 fun e => c9 (by rw [e])))
  · refine s_aloadn H d4_12 rfl rfl (pc' := 13) rfl ?_
    refine s_lloadn H d4_13 rfl (pc' := 14) rfl ?_
    refine s_priv H (met_kg H.tb g ea es q f s lim K (Classical.byContradiction fun e => c9 (fun e2 => e ((own_inj (by omega) (by omega)).mp e2))) h5 hl) d4_14 (i := 1) rfl (mem (i := 31) rfl) (mem (i := 33) rfl) (mem (i := 20) rfl) rfl (mem (i := 32) rfl) (mem (i := 7) rfl) (mem (i := 34) rfl) (by decide) pd_6 rfl (rest := []) rfl rfl (by decide) (Nat.le_of_ble_eq_true rfl) (cn' := 1) (sn' := 10) rfl rfl (by decide) (by decide) (pc' := 17) rfl (fun _ _ hq => ?_)
    obtain ⟨ea', es', F', hs', K', rfl, rfl⟩ := hq
    show Go Z k 1 10 ((ea', ArL Z es') :: (g, Obj Z "com/example/mangrove/mangrove/MemorySlidingWindowLog$KeyLog" [("com/example/mangrove/mangrove/MemorySlidingWindowLog$KeyLog", "entries", "[J", (.ref ea')), ("com/example/mangrove/mangrove/MemorySlidingWindowLog$KeyLog", "size", "I", (.int s.toInt32)), ("com/example/mangrove/mangrove/MemorySlidingWindowLog$KeyLog", "first", "I", (.int (0 : Nat).toInt32))]) :: F') 17 #[.val (.ref g), .val (.long x), .second, .val (.long lim), .second] []
    exact a17 H K' hs'
set_option maxRecDepth 65536 in
set_option maxHeartbeats 40000000 in
theorem met_minI {Z : State} (HT : Tb Z) {F : Hp} (a b : Int32)  : Met Z y_1 jdk_29_method_69_code 2 (some .int) ({ frames := 0, cells := 0, slots := 0, locals := 0 } : Room) [(.int a), (.int b)] (F) (fun v M' => ∃ r : Int32, r.toInt = min a.toInt b.toInt ∧ v = some (.int r) ∧ M' = F) := by
  refine Met.of HT pl_1 (Ls := #[.val (.int a), .val (.int b)]) (fun m => by first | (simp [entryFrame, mkF, argsToLocals, Value.category]; done) | rfl) (fun k H => ?_)
  refine s_iloadn H d1_0 rfl (pc' := 1) rfl ?_
  refine s_iloadn H d1_1 rfl (pc' := 2) rfl ?_
  refine s_icmp H d1_2 (py := 9) (pc' := 5) q_gt (by decide) rfl (fun c2 => ?_) (fun c2 => ?_)
  · refine s_iloadn H d1_9 rfl (pc' := 10) rfl ?_
    exact s_iret H d1_10 rfl (Or.inl rfl) (by decide) (by decide) (⟨b, by rw [Int32.lt_iff_toInt_lt] at c2; omega, rfl, rfl⟩)
  · refine s_iloadn H d1_5 rfl (pc' := 6) rfl ?_
    refine s_goto H d1_6 (pc' := 10) (by decide) ?_
    exact s_iret H d1_10 rfl (Or.inl rfl) (by decide) (by decide) (⟨a, by rw [Int32.lt_iff_toInt_lt] at c2; omega, rfl, rfl⟩)
set_option maxRecDepth 65536 in
set_option maxHeartbeats 40000000 in
theorem s42_1_0_0 {Z : State} {k : Cx} {i0 : Int32} {i1 i2 : Int64} (cN : Nat) (H : Ok Z k room_1 (LQ) x code maxLocals ret) (h0 : 0 < cN) (hc : cN ≤ 3) : Go Z k 0 0 ([] : Hp) 42 #[.val (.int i0), .val (.long i1), .second, .val (.long i2), .second, .val (.int cN.toInt32), .val (.int (1 : Int32)), .val (.int (0 : Int32)), .val (.int (0 : Int32)), .unset, .unset, .unset, .unset, .unset, .unset, .unset, .unset] [] := by
  refine s_iload H at_42 rfl (pc' := 44) rfl ?_
  refine s_iload H at_44 rfl (pc' := 46) rfl ?_
  refine s_iadd H at_46 (pc' := 47) rfl ?_
  refine s_i2l H at_47 (pc' := 48) rfl ?_
  refine s_lloadn H at_48 rfl (pc' := 49) rfl ?_
  refine s_ldc2 H at_49 (mem (i := 4) rfl) (pc' := 52) rfl ?_
  refine s_land H at_52 (pc' := 53) rfl ?_
  refine s_ladd H at_53 (pc' := 54) rfl ?_
  refine s_lstore H at_54 (L' := fun z => #[.val (.int i0), .val (.long i1), .second, .val (.long i2), .second, .val (.int cN.toInt32), .val (.int (1 : Int32)), .val (.int (0 : Int32)), .val (.int (0 : Int32)), .val (.long z), .second, .unset, .unset, .unset, .unset, .unset, .unset]) (fun _ => rfl) (pc' := 56) rfl (fun lim h_lim => ?_)
  have hl : 1 ≤ lim.toInt := by
    have m := c_maskL i2 4611686018427387903 62 (by decide) (by decide)
    have s := c_ladd ((((1 : Int32) + (0 : Int32)).toInt64)) (i2 &&& 4611686018427387903)
    rw [← h_lim, show ((((1 : Int32) + (0 : Int32)).toInt64)).toInt = 1 from by decide] at s
    have rl := rng64 lim
    omega
  refine s_new H (C := "com/example/mangrove/mangrove/MemorySlidingWindowLog$KeyLog") [("com/example/mangrove/mangrove/MemorySlidingWindowLog$KeyLog", "entries", "[J", .null), ("com/example/mangrove/mangrove/MemorySlidingWindowLog$KeyLog", "size", "I", (.int (0 : Int32))), ("com/example/mangrove/mangrove/MemorySlidingWindowLog$KeyLog", "first", "I", (.int (0 : Int32)))] at_56 (mem (i := 5) rfl) (mem (i := 6) rfl) (mem (i := 7) rfl) (allC ⟨Or.inl (mem (i := 16) rfl), (.array .long), by decide, rfl⟩ (allC ⟨Or.inl (mem (i := 23) rfl), .int, by decide, rfl⟩ (allC ⟨Or.inl (mem (i := 25) rfl), .int, by decide, rfl⟩ allN))) (by decide) (cn' := 1) (sn' := 3) rfl rfl (by decide) (by decide) (pc' := 59) rfl (fun a1 => ?_)
  refine s_dup H at_59 rfl (pc' := 60) rfl ?_
  refine s_iload H at_60 rfl (pc' := 62) rfl ?_
  refine s_init H (met_ki H.tb a1 cN hc) at_62 rfl (mem (i := 8) rfl) (mem (i := 9) rfl) (mem (i := 7) rfl) (mem (i := 10) rfl) (by decide) pd_2 rfl (rest := [(.ref a1)]) rfl rfl (by decide) (Nat.le_of_ble_eq_true rfl) (cn' := 2) (sn' := 6) rfl rfl (by decide) (by decide) (pc' := 65) rfl (fun _ _ hq => ?_)
  obtain ⟨ea, rfl, rfl⟩ := hq
  show Go Z k 2 6 ((ea, ArL Z (List.replicate cN 0)) :: (a1, Obj Z "com/example/mangrove/mangrove/MemorySlidingWindowLog$KeyLog" [("com/example/mangrove/mangrove/MemorySlidingWindowLog$KeyLog", "entries", "[J", (.ref ea)), ("com/example/mangrove/mangrove/MemorySlidingWindowLog$KeyLog", "size", "I", (.int (0 : Nat).toInt32)), ("com/example/mangrove/mangrove/MemorySlidingWindowLog$KeyLog", "first", "I", (.int (0 : Nat).toInt32))]) :: []) 65 #[.val (.int i0), .val (.long i1), .second, .val (.long i2), .second, .val (.int cN.toInt32), .val (.int (1 : Int32)), .val (.int (0 : Int32)), .val (.int (0 : Int32)), .val (.long lim), .second, .unset, .unset, .unset, .unset, .unset, .unset] [(.ref a1)]
  obtain ⟨es2, he, les2, Kes2⟩ : ∃ es : List Int64, es = List.replicate cN 0 ∧ es.length = cN ∧ KL es 0 0 [] := ⟨_, rfl, by simp, KL.new (by omega) (by omega)⟩
  rw [← he]
  clear he
  show Go Z k 2 6 ((ea, ArL Z es2) :: (a1, Obj Z "com/example/mangrove/mangrove/MemorySlidingWindowLog$KeyLog" [("com/example/mangrove/mangrove/MemorySlidingWindowLog$KeyLog", "entries", "[J", (.ref ea)), ("com/example/mangrove/mangrove/MemorySlidingWindowLog$KeyLog", "size", "I", (.int (0 : Nat).toInt32)), ("com/example/mangrove/mangrove/MemorySlidingWindowLog$KeyLog", "first", "I", (.int (0 : Nat).toInt32))]) :: []) 65 #[.val (.int i0), .val (.long i1), .second, .val (.long i2), .second, .val (.int cN.toInt32), .val (.int (1 : Int32)), .val (.int (0 : Int32)), .val (.int (0 : Int32)), .val (.long lim), .second, .unset, .unset, .unset, .unset, .unset, .unset] [(.ref a1)]
  refine s_astore H at_65 (L' := #[.val (.int i0), .val (.long i1), .second, .val (.long i2), .second, .val (.int cN.toInt32), .val (.int (1 : Int32)), .val (.int (0 : Int32)), .val (.int (0 : Int32)), .val (.long lim), .second, .val (.ref a1), .unset, .unset, .unset, .unset, .unset]) rfl rfl (pc' := 67) rfl ?_
  refine s_aload H at_67 rfl rfl (pc' := 69) rfl ?_
  refine s_lloadn H at_69 rfl (pc' := 70) rfl ?_
  refine s_lload H at_70 rfl (pc' := 72) rfl ?_
  refine s_virtual H (met_ka H.tb a1 ea es2 ([] : List Int64) (0 : Nat) 0 i1 lim Kes2 (by decide) (by omega)) at_72 (i := 1) rfl (mem (i := 17) rfl) (mem (i := 18) rfl) (mem (i := 20) rfl) (mem (i := 19) rfl) (mem (i := 7) rfl) (mem (i := 21) rfl) (by decide) pd_4 rfl (rest := []) rfl rfl (by decide) (Nat.le_of_ble_eq_true rfl) (cn' := 3) (sn' := 16) rfl rfl (by decide) (by decide) (pc' := 75) rfl (fun _ _ hq => ?_)
  obtain ⟨ea3, es3, f3, F3, Kes3', rfl, rfl⟩ := hq
  show Go Z k 3 16 ((ea3, ArL Z es3) :: (a1, Obj Z "com/example/mangrove/mangrove/MemorySlidingWindowLog$KeyLog" [("com/example/mangrove/mangrove/MemorySlidingWindowLog$KeyLog", "entries", "[J", (.ref ea3)), ("com/example/mangrove/mangrove/MemorySlidingWindowLog$KeyLog", "size", "I", (.int (1 : Nat).toInt32)), ("com/example/mangrove/mangrove/MemorySlidingWindowLog$KeyLog", "first", "I", (.int f3.toInt32))]) :: F3) 75 #[.val (.int i0), .val (.long i1), .second, .val (.long i2), .second, .val (.int cN.toInt32), .val (.int (1 : Int32)), .val (.int (0 : Int32)), .val (.int (0 : Int32)), .val (.long lim), .second, .val (.ref a1), .unset, .unset, .unset, .unset, .unset] []
  have Kes3 : KL es3 f3 1 ([i1] : List Int64) := Kes3'
  refine s_iload H at_75 rfl (pc' := 77) rfl ?_
  refine s_iconst H at_77 (z := (1 : Int32)) (by decide) (pc' := 78) rfl ?_
  refine s_icmp H at_78 (py := 91) (pc' := 81) q_le (by decide) rfl (fun c78 => ?_) (fun c78 => ?_)
  · refine s_iload H at_91 rfl (pc' := 93) rfl ?_
    refine s_iconst H at_93 (z := (2 : Int32)) (by decide) (pc' := 94) rfl ?_
    refine s_icmp H at_94 (py := 109) (pc' := 97) q_le (by decide) rfl (fun c94 => ?_) (fun c94 => ?_)
    · refine s_lloadn H at_109 rfl (pc' := 110) rfl ?_
      refine s_iload H at_110 rfl (pc' := 112) rfl ?_
      refine s_iconst H at_112 (z := (1 : Int32)) (by decide) (pc' := 113) rfl ?_
      refine s_isub H at_113 (pc' := 114) rfl ?_
      refine s_i2l H at_114 (pc' := 115) rfl ?_
      refine s_ladd H at_115 (pc' := 116) rfl ?_
      refine s_lstore H at_116 (L' := fun z => #[.val (.int i0), .val (.long i1), .second, .val (.long i2), .second, .val (.int cN.toInt32), .val (.int (1 : Int32)), .val (.int (0 : Int32)), .val (.int (0 : Int32)), .val (.long lim), .second, .val (.ref a1), .val (.long z), .second, .unset, .unset, .unset]) (fun _ => rfl) (pc' := 118) rfl (fun af h_af => ?_)
      refine s_aload H at_118 rfl rfl (pc' := 120) rfl ?_
      refine s_virtual H (met_kn H.tb a1 ea3 es3 ([] : List Int64) f3 1 i1 Kes3) at_120 (i := 1) rfl (mem (i := 26) rfl) (mem (i := 27) rfl) (mem (i := 29) rfl) (mem (i := 28) rfl) (mem (i := 7) rfl) (mem (i := 30) rfl) (by decide) pd_5 rfl (rest := []) rfl rfl (by decide) (Nat.le_of_ble_eq_true rfl) (cn' := 3) (sn' := 16) rfl rfl (by decide) (by decide) (pc' := 123) rfl (fun _ _ hq => ?_)
      obtain ⟨rfl, rfl⟩ := hq
      show Go Z k 3 16 ((ea3, ArL Z es3) :: (a1, Obj Z "com/example/mangrove/mangrove/MemorySlidingWindowLog$KeyLog" [("com/example/mangrove/mangrove/MemorySlidingWindowLog$KeyLog", "entries", "[J", (.ref ea3)), ("com/example/mangrove/mangrove/MemorySlidingWindowLog$KeyLog", "size", "I", (.int (1 : Nat).toInt32)), ("com/example/mangrove/mangrove/MemorySlidingWindowLog$KeyLog", "first", "I", (.int f3.toInt32))]) :: F3) 123 #[.val (.int i0), .val (.long i1), .second, .val (.long i2), .second, .val (.int cN.toInt32), .val (.int (1 : Int32)), .val (.int (0 : Int32)), .val (.int (0 : Int32)), .val (.long lim), .second, .val (.ref a1), .val (.long af), .second, .unset, .unset, .unset] [(.long i1)]
      refine s_lload H at_123 rfl (pc' := 125) rfl ?_
      refine s_lcmp H at_125 (pc' := 126) rfl ?_
      refine s_if H at_126 (py := 133) (pc' := 129) l_ne (by decide) rfl (fun c126 => ?_) (fun c126 => ?_)
      · exact absurd (by rw [h_af, show (((1 : Int32) - (1 : Int32)).toInt64) = 0 from by decide, Int64.add_zero]) c126
      · refine s_iconst H at_129 (z := (1 : Int32)) (by decide) (pc' := 130) rfl ?_
        refine s_goto H at_130 (pc' := 134) (by decide) ?_
        refine s_istore H at_134 (L' := fun z => #[.val (.int i0), .val (.long i1), .second, .val (.long i2), .second, .val (.int cN.toInt32), .val (.int (1 : Int32)), .val (.int (0 : Int32)), .val (.int (0 : Int32)), .val (.long lim), .second, .val (.ref a1), .val (.long af), .second, .val (.int z), .unset, .unset]) (fun _ => rfl) (pc' := 136) rfl (fun z0 hz => ?_)
        subst z0
        refine s_iload H at_136 rfl (pc' := 138) rfl ?_
        refine s_if H at_138 (py := 146) (pc' := 141) z_le (by decide) rfl (fun c138 => ?_) (fun c138 => ?_)
        · refine s_iload H at_146 rfl (pc' := 148) rfl ?_
          refine s_iconst H at_148 (z := (1 : Int32)) (by decide) (pc' := 149) rfl ?_
          refine s_icmp H at_149 (py := 157) (pc' := 152) q_le (by decide) rfl (fun c149 => ?_) (fun c149 => ?_)
          · refine s_iload H at_157 rfl (pc' := 159) rfl ?_
            refine s_if H at_159 (py := 177) (pc' := 162) z_eq (by decide) rfl (fun c159 => ?_) (fun c159 => ?_)
            · exact absurd c159 (by decide)
            · refine s_aload H at_162 rfl rfl (pc' := 164) rfl ?_
              refine s_virtual H (met_kn H.tb a1 ea3 es3 ([] : List Int64) f3 1 i1 Kes3) at_164 (i := 1) rfl (mem (i := 26) rfl) (mem (i := 27) rfl) (mem (i := 29) rfl) (mem (i := 28) rfl) (mem (i := 7) rfl) (mem (i := 30) rfl) (by decide) pd_5 rfl (rest := []) rfl rfl (by decide) (Nat.le_of_ble_eq_true rfl) (cn' := 3) (sn' := 16) rfl rfl (by decide) (by decide) (pc' := 167) rfl (fun _ _ hq => ?_)
              obtain ⟨rfl, rfl⟩ := hq
              show Go Z k 3 16 ((ea3, ArL Z es3) :: (a1, Obj Z "com/example/mangrove/mangrove/MemorySlidingWindowLog$KeyLog" [("com/example/mangrove/mangrove/MemorySlidingWindowLog$KeyLog", "entries", "[J", (.ref ea3)), ("com/example/mangrove/mangrove/MemorySlidingWindowLog$KeyLog", "size", "I", (.int (1 : Nat).toInt32)), ("com/example/mangrove/mangrove/MemorySlidingWindowLog$KeyLog", "first", "I", (.int f3.toInt32))]) :: F3) 167 #[.val (.int i0), .val (.long i1), .second, .val (.long i2), .second, .val (.int cN.toInt32), .val (.int (1 : Int32)), .val (.int (0 : Int32)), .val (.int (0 : Int32)), .val (.long lim), .second, .val (.ref a1), .val (.long af), .second, .val (.int (1 : Int32)), .unset, .unset] [(.long i1)]
              refine s_lload H at_167 rfl (pc' := 169) rfl ?_
              refine s_lcmp H at_169 (pc' := 170) rfl ?_
              refine s_if H at_170 (py := 177) (pc' := 173) l_ne (by decide) rfl (fun c170 => ?_) (fun c170 => ?_)
              · exact absurd (by rw [h_af, show (((1 : Int32) - (1 : Int32)).toInt64) = 0 from by decide, Int64.add_zero]) c170
              · refine s_iconst H at_173 (z := (1 : Int32)) (by decide) (pc' := 174) rfl ?_
                refine s_goto H at_174 (pc' := 178) (by decide) ?_
                refine s_istore H at_178 (L' := fun z => #[.val (.int i0), .val (.long i1), .second, .val (.long i2), .second, .val (.int cN.toInt32), .val (.int (1 : Int32)), .val (.int (0 : Int32)), .val (.int (0 : Int32)), .val (.long lim), .second, .val (.ref a1), .val (.long af), .second, .val (.int z), .unset, .unset]) (fun _ => rfl) (pc' := 180) rfl (fun z0 hz => ?_)
                subst z0
                refine s_iload H at_180 rfl (pc' := 182) rfl ?_
                refine s_if H at_182 (py := 197) (pc' := 185) z_le (by decide) rfl (fun c182 => ?_) (fun c182 => ?_)
                · refine s_iload H at_197 rfl (pc' := 199) rfl ?_
                  refine s_iconst H at_199 (z := (1 : Int32)) (by decide) (pc' := 200) rfl ?_
                  refine s_icmp H at_200 (py := 215) (pc' := 203) q_le (by decide) rfl (fun c200 => ?_) (fun c200 => ?_)
                  · refine s_iload H at_215 rfl (pc' := 217) rfl ?_
                    refine s_iconst H at_217 (z := (2 : Int32)) (by decide) (pc' := 218) rfl ?_
                    refine s_icmp H at_218 (py := 233) (pc' := 221) q_le (by decide) rfl (fun c218 => ?_) (fun c218 => ?_)
                    · refine s_iload H at_233 rfl (pc' := 235) rfl ?_
                      refine s_if H at_235 (py := 243) (pc' := 238) z_ne (by decide) rfl (fun c235 => ?_) (fun c235 => ?_)
                      · exact absurd c235 (by decide)
                      · refine s_lload H at_238 rfl (pc' := 240) rfl ?_
                        refine s_goto H at_240 (pc' := 250) (by decide) ?_
                        refine s_lstore H at_250 (L' := fun z => #[.val (.int i0), .val (.long i1), .second, .val (.long i2), .second, .val (.int cN.toInt32), .val (.int (1 : Int32)), .val (.int (0 : Int32)), .val (.int (0 : Int32)), .val (.long lim), .second, .val (.ref a1), .val (.long af), .second, .val (.int (1 : Int32)), .val (.long z), .second]) (fun _ => rfl) (pc' := 252) rfl (fun z0 hz => ?_)
                        subst z0
                        refine s_iload H at_252 rfl (pc' := 254) rfl ?_
                        refine s_if H at_254 (py := 272) (pc' := 257) z_eq (by decide) rfl (fun c254 => ?_) (fun c254 => ?_)
                        · exact absurd c254 (by decide)
                        · refine s_aload H at_257 rfl rfl (pc' := 259) rfl ?_
                          refine s_virtual H (met_kn H.tb a1 ea3 es3 ([] : List Int64) f3 1 i1 Kes3) at_259 (i := 1) rfl (mem (i := 26) rfl) (mem (i := 27) rfl) (mem (i := 29) rfl) (mem (i := 28) rfl) (mem (i := 7) rfl) (mem (i := 30) rfl) (by decide) pd_5 rfl (rest := []) rfl rfl (by decide) (Nat.le_of_ble_eq_true rfl) (cn' := 3) (sn' := 16) rfl rfl (by decide) (by decide) (pc' := 262) rfl (fun _ _ hq => ?_)
                          obtain ⟨rfl, rfl⟩ := hq
                          show Go Z k 3 16 ((ea3, ArL Z es3) :: (a1, Obj Z "com/example/mangrove/mangrove/MemorySlidingWindowLog$KeyLog" [("com/example/mangrove/mangrove/MemorySlidingWindowLog$KeyLog", "entries", "[J", (.ref ea3)), ("com/example/mangrove/mangrove/MemorySlidingWindowLog$KeyLog", "size", "I", (.int (1 : Nat).toInt32)), ("com/example/mangrove/mangrove/MemorySlidingWindowLog$KeyLog", "first", "I", (.int f3.toInt32))]) :: F3) 262 #[.val (.int i0), .val (.long i1), .second, .val (.long i2), .second, .val (.int cN.toInt32), .val (.int (1 : Int32)), .val (.int (0 : Int32)), .val (.int (0 : Int32)), .val (.long lim), .second, .val (.ref a1), .val (.long af), .second, .val (.int (1 : Int32)), .val (.long af), .second] [(.long i1)]
                          refine s_lload H at_262 rfl (pc' := 264) rfl ?_
                          refine s_lcmp H at_264 (pc' := 265) rfl ?_
                          refine s_if H at_265 (py := 272) (pc' := 268) l_ne (by decide) rfl (fun c265 => ?_) (fun c265 => ?_)
                          · exact absurd (by rw [h_af, show (((1 : Int32) - (1 : Int32)).toInt64) = 0 from by decide, Int64.add_zero]) c265
                          · refine s_iconst H at_268 (z := (1 : Int32)) (by decide) (pc' := 269) rfl ?_
                            refine s_goto H at_269 (pc' := 273) (by decide) ?_
                            exact s_iret H at_273 rfl (by simp) (by decide) (by decide) (rfl)
                    · exact absurd c218 (by decide)
                  · exact absurd c200 (by decide)
                · exact absurd c182 (by decide)
          · exact absurd c149 (by decide)
        · exact absurd c138 (by decide)
    · exact absurd c94 (by decide)
  · exact absurd c78 (by decide)
set_option maxRecDepth 65536 in
set_option maxHeartbeats 40000000 in
theorem s42_1_0_1 {Z : State} {k : Cx} {i0 : Int32} {i1 i2 : Int64} (cN : Nat) (H : Ok Z k room_1 (LQ) x code maxLocals ret) (h0 : 0 < cN) (hc : cN ≤ 3) : Go Z k 0 0 ([] : Hp) 42 #[.val (.int i0), .val (.long i1), .second, .val (.long i2), .second, .val (.int cN.toInt32), .val (.int (1 : Int32)), .val (.int (0 : Int32)), .val (.int (1 : Int32)), .unset, .unset, .unset, .unset, .unset, .unset, .unset, .unset] [] := by
  refine s_iload H at_42 rfl (pc' := 44) rfl ?_
  refine s_iload H at_44 rfl (pc' := 46) rfl ?_
  refine s_iadd H at_46 (pc' := 47) rfl ?_
  refine s_i2l H at_47 (pc' := 48) rfl ?_
  refine s_lloadn H at_48 rfl (pc' := 49) rfl ?_
  refine s_ldc2 H at_49 (mem (i := 4) rfl) (pc' := 52) rfl ?_
  refine s_land H at_52 (pc' := 53) rfl ?_
  refine s_ladd H at_53 (pc' := 54) rfl ?_
  refine s_lstore H at_54 (L' := fun z => #[.val (.int i0), .val (.long i1), .second, .val (.long i2), .second, .val (.int cN.toInt32), .val (.int (1 : Int32)), .val (.int (0 : Int32)), .val (.int (1 : Int32)), .val (.long z), .second, .unset, .unset, .unset, .unset, .unset, .unset]) (fun _ => rfl) (pc' := 56) rfl (fun lim h_lim => ?_)
  have hl : 2 ≤ lim.toInt := by
    have m := c_maskL i2 4611686018427387903 62 (by decide) (by decide)
    have s := c_ladd ((((1 : Int32) + (1 : Int32)).toInt64)) (i2 &&& 4611686018427387903)
    rw [← h_lim, show ((((1 : Int32) + (1 : Int32)).toInt64)).toInt = 2 from by decide] at s
    have rl := rng64 lim
    omega
  refine s_new H (C := "com/example/mangrove/mangrove/MemorySlidingWindowLog$KeyLog") [("com/example/mangrove/mangrove/MemorySlidingWindowLog$KeyLog", "entries", "[J", .null), ("com/example/mangrove/mangrove/MemorySlidingWindowLog$KeyLog", "size", "I", (.int (0 : Int32))), ("com/example/mangrove/mangrove/MemorySlidingWindowLog$KeyLog", "first", "I", (.int (0 : Int32)))] at_56 (mem (i := 5) rfl) (mem (i := 6) rfl) (mem (i := 7) rfl) (allC ⟨Or.inl (mem (i := 16) rfl), (.array .long), by decide, rfl⟩ (allC ⟨Or.inl (mem (i := 23) rfl), .int, by decide, rfl⟩ (allC ⟨Or.inl (mem (i := 25) rfl), .int, by decide, rfl⟩ allN))) (by decide) (cn' := 1) (sn' := 3) rfl rfl (by decide) (by decide) (pc' := 59) rfl (fun a1 => ?_)
  refine s_dup H at_59 rfl (pc' := 60) rfl ?_
  refine s_iload H at_60 rfl (pc' := 62) rfl ?_
  refine s_init H (met_ki H.tb a1 cN hc) at_62 rfl (mem (i := 8) rfl) (mem (i := 9) rfl) (mem (i := 7) rfl) (mem (i := 10) rfl) (by decide) pd_2 rfl (rest := [(.ref a1)]) rfl rfl (by decide) (Nat.le_of_ble_eq_true rfl) (cn' := 2) (sn' := 6) rfl rfl (by decide) (by decide) (pc' := 65) rfl (fun _ _ hq => ?_)
  obtain ⟨ea, rfl, rfl⟩ := hq
  show Go Z k 2 6 ((ea, ArL Z (List.replicate cN 0)) :: (a1, Obj Z "com/example/mangrove/mangrove/MemorySlidingWindowLog$KeyLog" [("com/example/mangrove/mangrove/MemorySlidingWindowLog$KeyLog", "entries", "[J", (.ref ea)), ("com/example/mangrove/mangrove/MemorySlidingWindowLog$KeyLog", "size", "I", (.int (0 : Nat).toInt32)), ("com/example/mangrove/mangrove/MemorySlidingWindowLog$KeyLog", "first", "I", (.int (0 : Nat).toInt32))]) :: []) 65 #[.val (.int i0), .val (.long i1), .second, .val (.long i2), .second, .val (.int cN.toInt32), .val (.int (1 : Int32)), .val (.int (0 : Int32)), .val (.int (1 : Int32)), .val (.long lim), .second, .unset, .unset, .unset, .unset, .unset, .unset] [(.ref a1)]
  obtain ⟨es2, he, les2, Kes2⟩ : ∃ es : List Int64, es = List.replicate cN 0 ∧ es.length = cN ∧ KL es 0 0 [] := ⟨_, rfl, by simp, KL.new (by omega) (by omega)⟩
  rw [← he]
  clear he
  show Go Z k 2 6 ((ea, ArL Z es2) :: (a1, Obj Z "com/example/mangrove/mangrove/MemorySlidingWindowLog$KeyLog" [("com/example/mangrove/mangrove/MemorySlidingWindowLog$KeyLog", "entries", "[J", (.ref ea)), ("com/example/mangrove/mangrove/MemorySlidingWindowLog$KeyLog", "size", "I", (.int (0 : Nat).toInt32)), ("com/example/mangrove/mangrove/MemorySlidingWindowLog$KeyLog", "first", "I", (.int (0 : Nat).toInt32))]) :: []) 65 #[.val (.int i0), .val (.long i1), .second, .val (.long i2), .second, .val (.int cN.toInt32), .val (.int (1 : Int32)), .val (.int (0 : Int32)), .val (.int (1 : Int32)), .val (.long lim), .second, .unset, .unset, .unset, .unset, .unset, .unset] [(.ref a1)]
  refine s_astore H at_65 (L' := #[.val (.int i0), .val (.long i1), .second, .val (.long i2), .second, .val (.int cN.toInt32), .val (.int (1 : Int32)), .val (.int (0 : Int32)), .val (.int (1 : Int32)), .val (.long lim), .second, .val (.ref a1), .unset, .unset, .unset, .unset, .unset]) rfl rfl (pc' := 67) rfl ?_
  refine s_aload H at_67 rfl rfl (pc' := 69) rfl ?_
  refine s_lloadn H at_69 rfl (pc' := 70) rfl ?_
  refine s_lload H at_70 rfl (pc' := 72) rfl ?_
  refine s_virtual H (met_ka H.tb a1 ea es2 ([] : List Int64) (0 : Nat) 0 i1 lim Kes2 (by decide) (by omega)) at_72 (i := 1) rfl (mem (i := 17) rfl) (mem (i := 18) rfl) (mem (i := 20) rfl) (mem (i := 19) rfl) (mem (i := 7) rfl) (mem (i := 21) rfl) (by decide) pd_4 rfl (rest := []) rfl rfl (by decide) (Nat.le_of_ble_eq_true rfl) (cn' := 3) (sn' := 16) rfl rfl (by decide) (by decide) (pc' := 75) rfl (fun _ _ hq => ?_)
  obtain ⟨ea3, es3, f3, F3, Kes3', rfl, rfl⟩ := hq
  show Go Z k 3 16 ((ea3, ArL Z es3) :: (a1, Obj Z "com/example/mangrove/mangrove/MemorySlidingWindowLog$KeyLog" [("com/example/mangrove/mangrove/MemorySlidingWindowLog$KeyLog", "entries", "[J", (.ref ea3)), ("com/example/mangrove/mangrove/MemorySlidingWindowLog$KeyLog", "size", "I", (.int (1 : Nat).toInt32)), ("com/example/mangrove/mangrove/MemorySlidingWindowLog$KeyLog", "first", "I", (.int f3.toInt32))]) :: F3) 75 #[.val (.int i0), .val (.long i1), .second, .val (.long i2), .second, .val (.int cN.toInt32), .val (.int (1 : Int32)), .val (.int (0 : Int32)), .val (.int (1 : Int32)), .val (.long lim), .second, .val (.ref a1), .unset, .unset, .unset, .unset, .unset] []
  have Kes3 : KL es3 f3 1 ([i1] : List Int64) := Kes3'
  refine s_iload H at_75 rfl (pc' := 77) rfl ?_
  refine s_iconst H at_77 (z := (1 : Int32)) (by decide) (pc' := 78) rfl ?_
  refine s_icmp H at_78 (py := 91) (pc' := 81) q_le (by decide) rfl (fun c78 => ?_) (fun c78 => ?_)
  · refine s_iload H at_91 rfl (pc' := 93) rfl ?_
    refine s_iconst H at_93 (z := (2 : Int32)) (by decide) (pc' := 94) rfl ?_
    refine s_icmp H at_94 (py := 109) (pc' := 97) q_le (by decide) rfl (fun c94 => ?_) (fun c94 => ?_)
    · refine s_lloadn H at_109 rfl (pc' := 110) rfl ?_
      refine s_iload H at_110 rfl (pc' := 112) rfl ?_
      refine s_iconst H at_112 (z := (1 : Int32)) (by decide) (pc' := 113) rfl ?_
      refine s_isub H at_113 (pc' := 114) rfl ?_
      refine s_i2l H at_114 (pc' := 115) rfl ?_
      refine s_ladd H at_115 (pc' := 116) rfl ?_
      refine s_lstore H at_116 (L' := fun z => #[.val (.int i0), .val (.long i1), .second, .val (.long i2), .second, .val (.int cN.toInt32), .val (.int (1 : Int32)), .val (.int (0 : Int32)), .val (.int (1 : Int32)), .val (.long lim), .second, .val (.ref a1), .val (.long z), .second, .unset, .unset, .unset]) (fun _ => rfl) (pc' := 118) rfl (fun af h_af => ?_)
      refine s_aload H at_118 rfl rfl (pc' := 120) rfl ?_
      refine s_virtual H (met_kn H.tb a1 ea3 es3 ([] : List Int64) f3 1 i1 Kes3) at_120 (i := 1) rfl (mem (i := 26) rfl) (mem (i := 27) rfl) (mem (i := 29) rfl) (mem (i := 28) rfl) (mem (i := 7) rfl) (mem (i := 30) rfl) (by decide) pd_5 rfl (rest := []) rfl rfl (by decide) (Nat.le_of_ble_eq_true rfl) (cn' := 3) (sn' := 16) rfl rfl (by decide) (by decide) (pc' := 123) rfl (fun _ _ hq => ?_)
      obtain ⟨rfl, rfl⟩ := hq
      show Go Z k 3 16 ((ea3, ArL Z es3) :: (a1, Obj Z "com/example/mangrove/mangrove/MemorySlidingWindowLog$KeyLog" [("com/example/mangrove/mangrove/MemorySlidingWindowLog$KeyLog", "entries", "[J", (.ref ea3)), ("com/example/mangrove/mangrove/MemorySlidingWindowLog$KeyLog", "size", "I", (.int (1 : Nat).toInt32)), ("com/example/mangrove/mangrove/MemorySlidingWindowLog$KeyLog", "first", "I", (.int f3.toInt32))]) :: F3) 123 #[.val (.int i0), .val (.long i1), .second, .val (.long i2), .second, .val (.int cN.toInt32), .val (.int (1 : Int32)), .val (.int (0 : Int32)), .val (.int (1 : Int32)), .val (.long lim), .second, .val (.ref a1), .val (.long af), .second, .unset, .unset, .unset] [(.long i1)]
      refine s_lload H at_123 rfl (pc' := 125) rfl ?_
      refine s_lcmp H at_125 (pc' := 126) rfl ?_
      refine s_if H at_126 (py := 133) (pc' := 129) l_ne (by decide) rfl (fun c126 => ?_) (fun c126 => ?_)
      · exact absurd (by rw [h_af, show (((1 : Int32) - (1 : Int32)).toInt64) = 0 from by decide, Int64.add_zero]) c126
      · refine s_iconst H at_129 (z := (1 : Int32)) (by decide) (pc' := 130) rfl ?_
        refine s_goto H at_130 (pc' := 134) (by decide) ?_
        refine s_istore H at_134 (L' := fun z => #[.val (.int i0), .val (.long i1), .second, .val (.long i2), .second, .val (.int cN.toInt32), .val (.int (1 : Int32)), .val (.int (0 : Int32)), .val (.int (1 : Int32)), .val (.long lim), .second, .val (.ref a1), .val (.long af), .second, .val (.int z), .unset, .unset]) (fun _ => rfl) (pc' := 136) rfl (fun z0 hz => ?_)
        subst z0
        refine s_iload H at_136 rfl (pc' := 138) rfl ?_
        refine s_if H at_138 (py := 146) (pc' := 141) z_le (by decide) rfl (fun c138 => ?_) (fun c138 => ?_)
        · refine s_iload H at_146 rfl (pc' := 148) rfl ?_
          refine s_iconst H at_148 (z := (1 : Int32)) (by decide) (pc' := 149) rfl ?_
          refine s_icmp H at_149 (py := 157) (pc' := 152) q_le (by decide) rfl (fun c149 => ?_) (fun c149 => ?_)
          · refine s_iload H at_157 rfl (pc' := 159) rfl ?_
            refine s_if H at_159 (py := 177) (pc' := 162) z_eq (by decide) rfl (fun c159 => ?_) (fun c159 => ?_)
            · exact absurd c159 (by decide)
            · refine s_aload H at_162 rfl rfl (pc' := 164) rfl ?_
              refine s_virtual H (met_kn H.tb a1 ea3 es3 ([] : List Int64) f3 1 i1 Kes3) at_164 (i := 1) rfl (mem (i := 26) rfl) (mem (i := 27) rfl) (mem (i := 29) rfl) (mem (i := 28) rfl) (mem (i := 7) rfl) (mem (i := 30) rfl) (by decide) pd_5 rfl (rest := []) rfl rfl (by decide) (Nat.le_of_ble_eq_true rfl) (cn' := 3) (sn' := 16) rfl rfl (by decide) (by decide) (pc' := 167) rfl (fun _ _ hq => ?_)
              obtain ⟨rfl, rfl⟩ := hq
              show Go Z k 3 16 ((ea3, ArL Z es3) :: (a1, Obj Z "com/example/mangrove/mangrove/MemorySlidingWindowLog$KeyLog" [("com/example/mangrove/mangrove/MemorySlidingWindowLog$KeyLog", "entries", "[J", (.ref ea3)), ("com/example/mangrove/mangrove/MemorySlidingWindowLog$KeyLog", "size", "I", (.int (1 : Nat).toInt32)), ("com/example/mangrove/mangrove/MemorySlidingWindowLog$KeyLog", "first", "I", (.int f3.toInt32))]) :: F3) 167 #[.val (.int i0), .val (.long i1), .second, .val (.long i2), .second, .val (.int cN.toInt32), .val (.int (1 : Int32)), .val (.int (0 : Int32)), .val (.int (1 : Int32)), .val (.long lim), .second, .val (.ref a1), .val (.long af), .second, .val (.int (1 : Int32)), .unset, .unset] [(.long i1)]
              refine s_lload H at_167 rfl (pc' := 169) rfl ?_
              refine s_lcmp H at_169 (pc' := 170) rfl ?_
              refine s_if H at_170 (py := 177) (pc' := 173) l_ne (by decide) rfl (fun c170 => ?_) (fun c170 => ?_)
              · exact absurd (by rw [h_af, show (((1 : Int32) - (1 : Int32)).toInt64) = 0 from by decide, Int64.add_zero]) c170
              · refine s_iconst H at_173 (z := (1 : Int32)) (by decide) (pc' := 174) rfl ?_
                refine s_goto H at_174 (pc' := 178) (by decide) ?_
                refine s_istore H at_178 (L' := fun z => #[.val (.int i0), .val (.long i1), .second, .val (.long i2), .second, .val (.int cN.toInt32), .val (.int (1 : Int32)), .val (.int (0 : Int32)), .val (.int (1 : Int32)), .val (.long lim), .second, .val (.ref a1), .val (.long af), .second, .val (.int z), .unset, .unset]) (fun _ => rfl) (pc' := 180) rfl (fun z0 hz => ?_)
                subst z0
                refine s_iload H at_180 rfl (pc' := 182) rfl ?_
                refine s_if H at_182 (py := 197) (pc' := 185) z_le (by decide) rfl (fun c182 => ?_) (fun c182 => ?_)
                · exact absurd c182 (by decide)
                · refine s_aload H at_185 rfl rfl (pc' := 187) rfl ?_
                  refine s_lloadn H at_187 rfl (pc' := 188) rfl ?_
                  refine s_ldc2 H at_188 (mem (i := 46) rfl) (pc' := 191) rfl ?_
                  refine s_ladd H at_191 (pc' := 192) rfl ?_
                  refine s_lload H at_192 rfl (pc' := 194) rfl ?_
                  refine s_virtual H (met_ka H.tb a1 ea3 es3 ([i1] : List Int64) f3 1 (i1 + (3 : Int64)) lim Kes3 (by decide) (by omega)) at_194 (i := 1) rfl (mem (i := 17) rfl) (mem (i := 18) rfl) (mem (i := 20) rfl) (mem (i := 19) rfl) (mem (i := 7) rfl) (mem (i := 21) rfl) (by decide) pd_4 rfl (rest := []) rfl rfl (by decide) (Nat.le_of_ble_eq_true rfl) (cn' := 4) (sn' := 26) rfl rfl (by decide) (by decide) (pc' := 197) rfl (fun _ _ hq => ?_)
                  obtain ⟨ea4, es4, f4, F4, Kes4', rfl, rfl⟩ := hq
                  show Go Z k 4 26 ((ea4, ArL Z es4) :: (a1, Obj Z "com/example/mangrove/mangrove/MemorySlidingWindowLog$KeyLog" [("com/example/mangrove/mangrove/MemorySlidingWindowLog$KeyLog", "entries", "[J", (.ref ea4)), ("com/example/mangrove/mangrove/MemorySlidingWindowLog$KeyLog", "size", "I", (.int (2 : Nat).toInt32)), ("com/example/mangrove/mangrove/MemorySlidingWindowLog$KeyLog", "first", "I", (.int f4.toInt32))]) :: F4) 197 #[.val (.int i0), .val (.long i1), .second, .val (.long i2), .second, .val (.int cN.toInt32), .val (.int (1 : Int32)), .val (.int (0 : Int32)), .val (.int (1 : Int32)), .val (.long lim), .second, .val (.ref a1), .val (.long af), .second, .val (.int (1 : Int32)), .unset, .unset] []
                  have Kes4 : KL es4 f4 2 ([i1, (i1 + (3 : Int64))] : List Int64) := Kes4'
                  refine s_iload H at_197 rfl (pc' := 199) rfl ?_
                  refine s_iconst H at_199 (z := (1 : Int32)) (by decide) (pc' := 200) rfl ?_
                  refine s_icmp H at_200 (py := 215) (pc' := 203) q_le (by decide) rfl (fun c200 => ?_) (fun c200 => ?_)
                  · refine s_iload H at_215 rfl (pc' := 217) rfl ?_
                    refine s_iconst H at_217 (z := (2 : Int32)) (by decide) (pc' := 218) rfl ?_
                    refine s_icmp H at_218 (py := 233) (pc' := 221) q_le (by decide) rfl (fun c218 => ?_) (fun c218 => ?_)
                    · refine s_iload H at_233 rfl (pc' := 235) rfl ?_
                      refine s_if H at_235 (py := 243) (pc' := 238) z_ne (by decide) rfl (fun c235 => ?_) (fun c235 => ?_)
                      · refine s_lloadn H at_243 rfl (pc' := 244) rfl ?_
                        refine s_iconst H at_244 (z := (2 : Int32)) (by decide) (pc' := 245) rfl ?_
                        refine s_iload H at_245 rfl (pc' := 247) rfl ?_
                        refine s_iadd H at_247 (pc' := 248) rfl ?_
                        refine s_i2l H at_248 (pc' := 249) rfl ?_
                        refine s_ladd H at_249 (pc' := 250) rfl ?_
                        refine s_lstore H at_250 (L' := fun z => #[.val (.int i0), .val (.long i1), .second, .val (.long i2), .second, .val (.int cN.toInt32), .val (.int (1 : Int32)), .val (.int (0 : Int32)), .val (.int (1 : Int32)), .val (.long lim), .second, .val (.ref a1), .val (.long af), .second, .val (.int (1 : Int32)), .val (.long z), .second]) (fun _ => rfl) (pc' := 252) rfl (fun la h_la => ?_)
                        refine s_iload H at_252 rfl (pc' := 254) rfl ?_
                        refine s_if H at_254 (py := 272) (pc' := 257) z_eq (by decide) rfl (fun c254 => ?_) (fun c254 => ?_)
                        · exact absurd c254 (by decide)
                        · refine s_aload H at_257 rfl rfl (pc' := 259) rfl ?_
                          refine s_virtual H (met_kn H.tb a1 ea4 es4 ([i1] : List Int64) f4 2 (i1 + (3 : Int64)) Kes4) at_259 (i := 1) rfl (mem (i := 26) rfl) (mem (i := 27) rfl) (mem (i := 29) rfl) (mem (i := 28) rfl) (mem (i := 7) rfl) (mem (i := 30) rfl) (by decide) pd_5 rfl (rest := []) rfl rfl (by decide) (Nat.le_of_ble_eq_true rfl) (cn' := 4) (sn' := 26) rfl rfl (by decide) (by decide) (pc' := 262) rfl (fun _ _ hq => ?_)
                          obtain ⟨rfl, rfl⟩ := hq
                          show Go Z k 4 26 ((ea4, ArL Z es4) :: (a1, Obj Z "com/example/mangrove/mangrove/MemorySlidingWindowLog$KeyLog" [("com/example/mangrove/mangrove/MemorySlidingWindowLog$KeyLog", "entries", "[J", (.ref ea4)), ("com/example/mangrove/mangrove/MemorySlidingWindowLog$KeyLog", "size", "I", (.int (2 : Nat).toInt32)), ("com/example/mangrove/mangrove/MemorySlidingWindowLog$KeyLog", "first", "I", (.int f4.toInt32))]) :: F4) 262 #[.val (.int i0), .val (.long i1), .second, .val (.long i2), .second, .val (.int cN.toInt32), .val (.int (1 : Int32)), .val (.int (0 : Int32)), .val (.int (1 : Int32)), .val (.long lim), .second, .val (.ref a1), .val (.long af), .second, .val (.int (1 : Int32)), .val (.long la), .second] [(.long (i1 + (3 : Int64)))]
                          refine s_lload H at_262 rfl (pc' := 264) rfl ?_
                          refine s_lcmp H at_264 (pc' := 265) rfl ?_
                          refine s_if H at_265 (py := 272) (pc' := 268) l_ne (by decide) rfl (fun c265 => ?_) (fun c265 => ?_)
                          · exact absurd (by rw [h_la, show (((2 : Int32) + (1 : Int32)).toInt64) = 3 from by decide]) c265
                          · refine s_iconst H at_268 (z := (1 : Int32)) (by decide) (pc' := 269) rfl ?_
                            refine s_goto H at_269 (pc' := 273) (by decide) ?_
                            exact s_iret H at_273 rfl (by simp) (by decide) (by decide) (rfl)
                      · exact absurd c235 (by decide)
                    · exact absurd c218 (by decide)
                  · exact absurd c200 (by decide)
          · exact absurd c149 (by decide)
        · exact absurd c138 (by decide)
    · exact absurd c94 (by decide)
  · exact absurd c78 (by decide)
set_option maxRecDepth 65536 in
set_option maxHeartbeats 40000000 in
theorem s42_1_0_2 {Z : State} {k : Cx} {i0 : Int32} {i1 i2 : Int64} (cN : Nat) (H : Ok Z k room_1 (LQ) x code maxLocals ret) (h0 : 0 < cN) (hc : cN ≤ 3) : Go Z k 0 0 ([] : Hp) 42 #[.val (.int i0), .val (.long i1), .second, .val (.long i2), .second, .val (.int cN.toInt32), .val (.int (1 : Int32)), .val (.int (0 : Int32)), .val (.int (2 : Int32)), .unset, .unset, .unset, .unset, .unset, .unset, .unset, .unset] [] := by
  refine s_iload H at_42 rfl (pc' := 44) rfl ?_
  refine s_iload H at_44 rfl (pc' := 46) rfl ?_
  refine s_iadd H at_46 (pc' := 47) rfl ?_
  refine s_i2l H at_47 (pc' := 48) rfl ?_
  refine s_lloadn H at_48 rfl (pc' := 49) rfl ?_
  refine s_ldc2 H at_49 (mem (i := 4) rfl) (pc' := 52) rfl ?_
  refine s_land H at_52 (pc' := 53) rfl ?_
  refine s_ladd H at_53 (pc' := 54) rfl ?_
  refine s_lstore H at_54 (L' := fun z => #[.val (.int i0), .val (.long i1), .second, .val (.long i2), .second, .val (.int cN.toInt32), .val (.int (1 : Int32)), .val (.int (0 : Int32)), .val (.int (2 : Int32)), .val (.long z), .second, .unset, .unset, .unset, .unset, .unset, .unset]) (fun _ => rfl) (pc' := 56) rfl (fun lim h_lim => ?_)
  have hl : 3 ≤ lim.toInt := by
    have m := c_maskL i2 4611686018427387903 62 (by decide) (by decide)
    have s := c_ladd ((((1 : Int32) + (2 : Int32)).toInt64)) (i2 &&& 4611686018427387903)
    rw [← h_lim, show ((((1 : Int32) + (2 : Int32)).toInt64)).toInt = 3 from by decide] at s
    have rl := rng64 lim
    omega
  refine s_new H (C := "com/example/mangrove/mangrove/MemorySlidingWindowLog$KeyLog") [("com/example/mangrove/mangrove/MemorySlidingWindowLog$KeyLog", "entries", "[J", .null), ("com/example/mangrove/mangrove/MemorySlidingWindowLog$KeyLog", "size", "I", (.int (0 : Int32))), ("com/example/mangrove/mangrove/MemorySlidingWindowLog$KeyLog", "first", "I", (.int (0 : Int32)))] at_56 (mem (i := 5) rfl) (mem (i := 6) rfl) (mem (i := 7) rfl) (allC ⟨Or.inl (mem (i := 16) rfl), (.array .long), by decide, rfl⟩ (allC ⟨Or.inl (mem (i := 23) rfl), .int, by decide, rfl⟩ (allC ⟨Or.inl (mem (i := 25) rfl), .int, by decide, rfl⟩ allN))) (by decide) (cn' := 1) (sn' := 3) rfl rfl (by decide) (by decide) (pc' := 59) rfl (fun a1 => ?_)
  refine s_dup H at_59 rfl (pc' := 60) rfl ?_
  refine s_iload H at_60 rfl (pc' := 62) rfl ?_
  refine s_init H (met_ki H.tb a1 cN hc) at_62 rfl (mem (i := 8) rfl) (mem (i := 9) rfl) (mem (i := 7) rfl) (mem (i := 10) rfl) (by decide) pd_2 rfl (rest := [(.ref a1)]) rfl rfl (by decide) (Nat.le_of_ble_eq_true rfl) (cn' := 2) (sn' := 6) rfl rfl (by decide) (by decide) (pc' := 65) rfl (fun _ _ hq => ?_)
  obtain ⟨ea, rfl, rfl⟩ := hq
  show Go Z k 2 6 ((ea, ArL Z (List.replicate cN 0)) :: (a1, Obj Z "com/example/mangrove/mangrove/MemorySlidingWindowLog$KeyLog" [("com/example/mangrove/mangrove/MemorySlidingWindowLog$KeyLog", "entries", "[J", (.ref ea)), ("com/example/mangrove/mangrove/MemorySlidingWindowLog$KeyLog", "size", "I", (.int (0 : Nat).toInt32)), ("com/example/mangrove/mangrove/MemorySlidingWindowLog$KeyLog", "first", "I", (.int (0 : Nat).toInt32))]) :: []) 65 #[.val (.int i0), .val (.long i1), .second, .val (.long i2), .second, .val (.int cN.toInt32), .val (.int (1 : Int32)), .val (.int (0 : Int32)), .val (.int (2 : Int32)), .val (.long lim), .second, .unset, .unset, .unset, .unset, .unset, .unset] [(.ref a1)]
  obtain ⟨es2, he, les2, Kes2⟩ : ∃ es : List Int64, es = List.replicate cN 0 ∧ es.length = cN ∧ KL es 0 0 [] := ⟨_, rfl, by simp, KL.new (by omega) (by omega)⟩
  rw [← he]
  clear he
  show Go Z k 2 6 ((ea, ArL Z es2) :: (a1, Obj Z "com/example/mangrove/mangrove/MemorySlidingWindowLog$KeyLog" [("com/example/mangrove/mangrove/MemorySlidingWindowLog$KeyLog", "entries", "[J", (.ref ea)), ("com/example/mangrove/mangrove/MemorySlidingWindowLog$KeyLog", "size", "I", (.int (0 : Nat).toInt32)), ("com/example/mangrove/mangrove/MemorySlidingWindowLog$KeyLog", "first", "I", (.int (0 : Nat).toInt32))]) :: []) 65 #[.val (.int i0), .val (.long i1), .second, .val (.long i2), .second, .val (.int cN.toInt32), .val (.int (1 : Int32)), .val (.int (0 : Int32)), .val (.int (2 : Int32)), .val (.long lim), .second, .unset, .unset, .unset, .unset, .unset, .unset] [(.ref a1)]
  refine s_astore H at_65 (L' := #[.val (.int i0), .val (.long i1), .second, .val (.long i2), .second, .val (.int cN.toInt32), .val (.int (1 : Int32)), .val (.int (0 : Int32)), .val (.int (2 : Int32)), .val (.long lim), .second, .val (.ref a1), .unset, .unset, .unset, .unset, .unset]) rfl rfl (pc' := 67) rfl ?_
  refine s_aload H at_67 rfl rfl (pc' := 69) rfl ?_
  refine s_lloadn H at_69 rfl (pc' := 70) rfl ?_
  refine s_lload H at_70 rfl (pc' := 72) rfl ?_
  refine s_virtual H (met_ka H.tb a1 ea es2 ([] : List Int64) (0 : Nat) 0 i1 lim Kes2 (by decide) (by omega)) at_72 (i := 1) rfl (mem (i := 17) rfl) (mem (i := 18) rfl) (mem (i := 20) rfl) (mem (i := 19) rfl) (mem (i := 7) rfl) (mem (i := 21) rfl) (by decide) pd_4 rfl (rest := []) rfl rfl (by decide) (Nat.le_of_ble_eq_true rfl) (cn' := 3) (sn' := 16) rfl rfl (by decide) (by decide) (pc' := 75) rfl (fun _ _ hq => ?_)
  obtain ⟨ea3, es3, f3, F3, Kes3', rfl, rfl⟩ := hq
  show Go Z k 3 16 ((ea3, ArL Z es3) :: (a1, Obj Z "com/example/mangrove/mangrove/MemorySlidingWindowLog$KeyLog" [("com/example/mangrove/mangrove/MemorySlidingWindowLog$KeyLog", "entries", "[J", (.ref ea3)), ("com/example/mangrove/mangrove/MemorySlidingWindowLog$KeyLog", "size", "I", (.int (1 : Nat).toInt32)), ("com/example/mangrove/mangrove/MemorySlidingWindowLog$KeyLog", "first", "I", (.int f3.toInt32))]) :: F3) 75 #[.val (.int i0), .val (.long i1), .second, .val (.long i2), .second, .val (.int cN.toInt32), .val (.int (1 : Int32)), .val (.int (0 : Int32)), .val (.int (2 : Int32)), .val (.long lim), .second, .val (.ref a1), .unset, .unset, .unset, .unset, .unset] []
  have Kes3 : KL es3 f3 1 ([i1] : List Int64) := Kes3'
  refine s_iload H at_75 rfl (pc' := 77) rfl ?_
  refine s_iconst H at_77 (z := (1 : Int32)) (by decide) (pc' := 78) rfl ?_
  refine s_icmp H at_78 (py := 91) (pc' := 81) q_le (by decide) rfl (fun c78 => ?_) (fun c78 => ?_)
  · refine s_iload H at_91 rfl (pc' := 93) rfl ?_
    refine s_iconst H at_93 (z := (2 : Int32)) (by decide) (pc' := 94) rfl ?_
    refine s_icmp H at_94 (py := 109) (pc' := 97) q_le (by decide) rfl (fun c94 => ?_) (fun c94 => ?_)
    · refine s_lloadn H at_109 rfl (pc' := 110) rfl ?_
      refine s_iload H at_110 rfl (pc' := 112) rfl ?_
      refine s_iconst H at_112 (z := (1 : Int32)) (by decide) (pc' := 113) rfl ?_
      refine s_isub H at_113 (pc' := 114) rfl ?_
      refine s_i2l H at_114 (pc' := 115) rfl ?_
      refine s_ladd H at_115 (pc' := 116) rfl ?_
      refine s_lstore H at_116 (L' := fun z => #[.val (.int i0), .val (.long i1), .second, .val (.long i2), .second, .val (.int cN.toInt32), .val (.int (1 : Int32)), .val (.int (0 : Int32)), .val (.int (2 : Int32)), .val (.long lim), .second, .val (.ref a1), .val (.long z), .second, .unset, .unset, .unset]) (fun _ => rfl) (pc' := 118) rfl (fun af h_af => ?_)
      refine s_aload H at_118 rfl rfl (pc' := 120) rfl ?_
      refine s_virtual H (met_kn H.tb a1 ea3 es3 ([] : List Int64) f3 1 i1 Kes3) at_120 (i := 1) rfl (mem (i := 26) rfl) (mem (i := 27) rfl) (mem (i := 29) rfl) (mem (i := 28) rfl) (mem (i := 7) rfl) (mem (i := 30) rfl) (by decide) pd_5 rfl (rest := []) rfl rfl (by decide) (Nat.le_of_ble_eq_true rfl) (cn' := 3) (sn' := 16) rfl rfl (by decide) (by decide) (pc' := 123) rfl (fun _ _ hq => ?_)
      obtain ⟨rfl, rfl⟩ := hq
      show Go Z k 3 16 ((ea3, ArL Z es3) :: (a1, Obj Z "com/example/mangrove/mangrove/MemorySlidingWindowLog$KeyLog" [("com/example/mangrove/mangrove/MemorySlidingWindowLog$KeyLog", "entries", "[J", (.ref ea3)), ("com/example/mangrove/mangrove/MemorySlidingWindowLog$KeyLog", "size", "I", (.int (1 : Nat).toInt32)), ("com/example/mangrove/mangrove/MemorySlidingWindowLog$KeyLog", "first", "I", (.int f3.toInt32))]) :: F3) 123 #[.val (.int i0), .val (.long i1), .second, .val (.long i2), .second, .val (.int cN.toInt32), .val (.int (1 : Int32)), .val (.int (0 : Int32)), .val (.int (2 : Int32)), .val (.long lim), .second, .val (.ref a1), .val (.long af), .second, .unset, .unset, .unset] [(.long i1)]
      refine s_lload H at_123 rfl (pc' := 125) rfl ?_
      refine s_lcmp H at_125 (pc' := 126) rfl ?_
      refine s_if H at_126 (py := 133) (pc' := 129) l_ne (by decide) rfl (fun c126 => ?_) (fun c126 => ?_)
      · exact absurd (by rw [h_af, show (((1 : Int32) - (1 : Int32)).toInt64) = 0 from by decide, Int64.add_zero]) c126
      · refine s_iconst H at_129 (z := (1 : Int32)) (by decide) (pc' := 130) rfl ?_
        refine s_goto H at_130 (pc' := 134) (by decide) ?_
        refine s_istore H at_134 (L' := fun z => #[.val (.int i0), .val (.long i1), .second, .val (.long i2), .second, .val (.int cN.toInt32), .val (.int (1 : Int32)), .val (.int (0 : Int32)), .val (.int (2 : Int32)), .val (.long lim), .second, .val (.ref a1), .val (.long af), .second, .val (.int z), .unset, .unset]) (fun _ => rfl) (pc' := 136) rfl (fun z0 hz => ?_)
        subst z0
        refine s_iload H at_136 rfl (pc' := 138) rfl ?_
        refine s_if H at_138 (py := 146) (pc' := 141) z_le (by decide) rfl (fun c138 => ?_) (fun c138 => ?_)
        · refine s_iload H at_146 rfl (pc' := 148) rfl ?_
          refine s_iconst H at_148 (z := (1 : Int32)) (by decide) (pc' := 149) rfl ?_
          refine s_icmp H at_149 (py := 157) (pc' := 152) q_le (by decide) rfl (fun c149 => ?_) (fun c149 => ?_)
          · refine s_iload H at_157 rfl (pc' := 159) rfl ?_
            refine s_if H at_159 (py := 177) (pc' := 162) z_eq (by decide) rfl (fun c159 => ?_) (fun c159 => ?_)
            · exact absurd c159 (by decide)
            · refine s_aload H at_162 rfl rfl (pc' := 164) rfl ?_
              refine s_virtual H (met_kn H.tb a1 ea3 es3 ([] : List Int64) f3 1 i1 Kes3) at_164 (i := 1) rfl (mem (i := 26) rfl) (mem (i := 27) rfl) (mem (i := 29) rfl) (mem (i := 28) rfl) (mem (i := 7) rfl) (mem (i := 30) rfl) (by decide) pd_5 rfl (rest := []) rfl rfl (by decide) (Nat.le_of_ble_eq_true rfl) (cn' := 3) (sn' := 16) rfl rfl (by decide) (by decide) (pc' := 167) rfl (fun _ _ hq => ?_)
              obtain ⟨rfl, rfl⟩ := hq
              show Go Z k 3 16 ((ea3, ArL Z es3) :: (a1, Obj Z "com/example/mangrove/mangrove/MemorySlidingWindowLog$KeyLog" [("com/example/mangrove/mangrove/MemorySlidingWindowLog$KeyLog", "entries", "[J", (.ref ea3)), ("com/example/mangrove/mangrove/MemorySlidingWindowLog$KeyLog", "size", "I", (.int (1 : Nat).toInt32)), ("com/example/mangrove/mangrove/MemorySlidingWindowLog$KeyLog", "first", "I", (.int f3.toInt32))]) :: F3) 167 #[.val (.int i0), .val (.long i1), .second, .val (.long i2), .second, .val (.int cN.toInt32), .val (.int (1 : Int32)), .val (.int (0 : Int32)), .val (.int (2 : Int32)), .val (.long lim), .second, .val (.ref a1), .val (.long af), .second, .val (.int (1 : Int32)), .unset, .unset] [(.long i1)]
              refine s_lload H at_167 rfl (pc' := 169) rfl ?_
              refine s_lcmp H at_169 (pc' := 170) rfl ?_
              refine s_if H at_170 (py := 177) (pc' := 173) l_ne (by decide) rfl (fun c170 => ?_) (fun c170 => ?_)
              · exact absurd (by rw [h_af, show (((1 : Int32) - (1 : Int32)).toInt64) = 0 from by decide, Int64.add_zero]) c170
              · refine s_iconst H at_173 (z := (1 : Int32)) (by decide) (pc' := 174) rfl ?_
                refine s_goto H at_174 (pc' := 178) (by decide) ?_
                refine s_istore H at_178 (L' := fun z => #[.val (.int i0), .val (.long i1), .second, .val (.long i2), .second, .val (.int cN.toInt32), .val (.int (1 : Int32)), .val (.int (0 : Int32)), .val (.int (2 : Int32)), .val (.long lim), .second, .val (.ref a1), .val (.long af), .second, .val (.int z), .unset, .unset]) (fun _ => rfl) (pc' := 180) rfl (fun z0 hz => ?_)
                subst z0
                refine s_iload H at_180 rfl (pc' := 182) rfl ?_
                refine s_if H at_182 (py := 197) (pc' := 185) z_le (by decide) rfl (fun c182 => ?_) (fun c182 => ?_)
                · exact absurd c182 (by decide)
                · refine s_aload H at_185 rfl rfl (pc' := 187) rfl ?_
                  refine s_lloadn H at_187 rfl (pc' := 188) rfl ?_
                  refine s_ldc2 H at_188 (mem (i := 46) rfl) (pc' := 191) rfl ?_
                  refine s_ladd H at_191 (pc' := 192) rfl ?_
                  refine s_lload H at_192 rfl (pc' := 194) rfl ?_
                  refine s_virtual H (met_ka H.tb a1 ea3 es3 ([i1] : List Int64) f3 1 (i1 + (3 : Int64)) lim Kes3 (by decide) (by omega)) at_194 (i := 1) rfl (mem (i := 17) rfl) (mem (i := 18) rfl) (mem (i := 20) rfl) (mem (i := 19) rfl) (mem (i := 7) rfl) (mem (i := 21) rfl) (by decide) pd_4 rfl (rest := []) rfl rfl (by decide) (Nat.le_of_ble_eq_true rfl) (cn' := 4) (sn' := 26) rfl rfl (by decide) (by decide) (pc' := 197) rfl (fun _ _ hq => ?_)
                  obtain ⟨ea4, es4, f4, F4, Kes4', rfl, rfl⟩ := hq
                  show Go Z k 4 26 ((ea4, ArL Z es4) :: (a1, Obj Z "com/example/mangrove/mangrove/MemorySlidingWindowLog$KeyLog" [("com/example/mangrove/mangrove/MemorySlidingWindowLog$KeyLog", "entries", "[J", (.ref ea4)), ("com/example/mangrove/mangrove/MemorySlidingWindowLog$KeyLog", "size", "I", (.int (2 : Nat).toInt32)), ("com/example/mangrove/mangrove/MemorySlidingWindowLog$KeyLog", "first", "I", (.int f4.toInt32))]) :: F4) 197 #[.val (.int i0), .val (.long i1), .second, .val (.long i2), .second, .val (.int cN.toInt32), .val (.int (1 : Int32)), .val (.int (0 : Int32)), .val (.int (2 : Int32)), .val (.long lim), .second, .val (.ref a1), .val (.long af), .second, .val (.int (1 : Int32)), .unset, .unset] []
                  have Kes4 : KL es4 f4 2 ([i1, (i1 + (3 : Int64))] : List Int64) := Kes4'
                  refine s_iload H at_197 rfl (pc' := 199) rfl ?_
                  refine s_iconst H at_199 (z := (1 : Int32)) (by decide) (pc' := 200) rfl ?_
                  refine s_icmp H at_200 (py := 215) (pc' := 203) q_le (by decide) rfl (fun c200 => ?_) (fun c200 => ?_)
                  · exact absurd c200 (by decide)
                  · refine s_aload H at_203 rfl rfl (pc' := 205) rfl ?_
                    refine s_lloadn H at_205 rfl (pc' := 206) rfl ?_
                    refine s_ldc2 H at_206 (mem (i := 47) rfl) (pc' := 209) rfl ?_
                    refine s_ladd H at_209 (pc' := 210) rfl ?_
                    refine s_lload H at_210 rfl (pc' := 212) rfl ?_
                    refine s_virtual H (met_ka H.tb a1 ea4 es4 ([i1, (i1 + (3 : Int64))] : List Int64) f4 2 (i1 + (4 : Int64)) lim Kes4 (by decide) (by omega)) at_212 (i := 1) rfl (mem (i := 17) rfl) (mem (i := 18) rfl) (mem (i := 20) rfl) (mem (i := 19) rfl) (mem (i := 7) rfl) (mem (i := 21) rfl) (by decide) pd_4 rfl (rest := []) rfl rfl (by decide) (Nat.le_of_ble_eq_true rfl) (cn' := 5) (sn' := 36) rfl rfl (by decide) (by decide) (pc' := 215) rfl (fun _ _ hq => ?_)
                    obtain ⟨ea5, es5, f5, F5, Kes5', rfl, rfl⟩ := hq
                    show Go Z k 5 36 ((ea5, ArL Z es5) :: (a1, Obj Z "com/example/mangrove/mangrove/MemorySlidingWindowLog$KeyLog" [("com/example/mangrove/mangrove/MemorySlidingWindowLog$KeyLog", "entries", "[J", (.ref ea5)), ("com/example/mangrove/mangrove/MemorySlidingWindowLog$KeyLog", "size", "I", (.int (3 : Nat).toInt32)), ("com/example/mangrove/mangrove/MemorySlidingWindowLog$KeyLog", "first", "I", (.int f5.toInt32))]) :: F5) 215 #[.val (.int i0), .val (.long i1), .second, .val (.long i2), .second, .val (.int cN.toInt32), .val (.int (1 : Int32)), .val (.int (0 : Int32)), .val (.int (2 : Int32)), .val (.long lim), .second, .val (.ref a1), .val (.long af), .second, .val (.int (1 : Int32)), .unset, .unset] []
                    have Kes5 : KL es5 f5 3 ([i1, (i1 + (3 : Int64)), (i1 + (4 : Int64))] : List Int64) := Kes5'
                    refine s_iload H at_215 rfl (pc' := 217) rfl ?_
                    refine s_iconst H at_217 (z := (2 : Int32)) (by decide) (pc' := 218) rfl ?_
                    refine s_icmp H at_218 (py := 233) (pc' := 221) q_le (by decide) rfl (fun c218 => ?_) (fun c218 => ?_)
                    · refine s_iload H at_233 rfl (pc' := 235) rfl ?_
                      refine s_if H at_235 (py := 243) (pc' := 238) z_ne (by decide) rfl (fun c235 => ?_) (fun c235 => ?_)
                      · refine s_lloadn H at_243 rfl (pc' := 244) rfl ?_
                        refine s_iconst H at_244 (z := (2 : Int32)) (by decide) (pc' := 245) rfl ?_
                        refine s_iload H at_245 rfl (pc' := 247) rfl ?_
                        refine s_iadd H at_247 (pc' := 248) rfl ?_
                        refine s_i2l H at_248 (pc' := 249) rfl ?_
                        refine s_ladd H at_249 (pc' := 250) rfl ?_
                        refine s_lstore H at_250 (L' := fun z => #[.val (.int i0), .val (.long i1), .second, .val (.long i2), .second, .val (.int cN.toInt32), .val (.int (1 : Int32)), .val (.int (0 : Int32)), .val (.int (2 : Int32)), .val (.long lim), .second, .val (.ref a1), .val (.long af), .second, .val (.int (1 : Int32)), .val (.long z), .second]) (fun _ => rfl) (pc' := 252) rfl (fun la h_la => ?_)
                        refine s_iload H at_252 rfl (pc' := 254) rfl ?_
                        refine s_if H at_254 (py := 272) (pc' := 257) z_eq (by decide) rfl (fun c254 => ?_) (fun c254 => ?_)
                        · exact absurd c254 (by decide)
                        · refine s_aload H at_257 rfl rfl (pc' := 259) rfl ?_
                          refine s_virtual H (met_kn H.tb a1 ea5 es5 ([i1, (i1 + (3 : Int64))] : List Int64) f5 3 (i1 + (4 : Int64)) Kes5) at_259 (i := 1) rfl (mem (i := 26) rfl) (mem (i := 27) rfl) (mem (i := 29) rfl) (mem (i := 28) rfl) (mem (i := 7) rfl) (mem (i := 30) rfl) (by decide) pd_5 rfl (rest := []) rfl rfl (by decide) (Nat.le_of_ble_eq_true rfl) (cn' := 5) (sn' := 36) rfl rfl (by decide) (by decide) (pc' := 262) rfl (fun _ _ hq => ?_)
                          obtain ⟨rfl, rfl⟩ := hq
                          show Go Z k 5 36 ((ea5, ArL Z es5) :: (a1, Obj Z "com/example/mangrove/mangrove/MemorySlidingWindowLog$KeyLog" [("com/example/mangrove/mangrove/MemorySlidingWindowLog$KeyLog", "entries", "[J", (.ref ea5)), ("com/example/mangrove/mangrove/MemorySlidingWindowLog$KeyLog", "size", "I", (.int (3 : Nat).toInt32)), ("com/example/mangrove/mangrove/MemorySlidingWindowLog$KeyLog", "first", "I", (.int f5.toInt32))]) :: F5) 262 #[.val (.int i0), .val (.long i1), .second, .val (.long i2), .second, .val (.int cN.toInt32), .val (.int (1 : Int32)), .val (.int (0 : Int32)), .val (.int (2 : Int32)), .val (.long lim), .second, .val (.ref a1), .val (.long af), .second, .val (.int (1 : Int32)), .val (.long la), .second] [(.long (i1 + (4 : Int64)))]
                          refine s_lload H at_262 rfl (pc' := 264) rfl ?_
                          refine s_lcmp H at_264 (pc' := 265) rfl ?_
                          refine s_if H at_265 (py := 272) (pc' := 268) l_ne (by decide) rfl (fun c265 => ?_) (fun c265 => ?_)
                          · exact absurd (by rw [h_la, show (((2 : Int32) + (2 : Int32)).toInt64) = 4 from by decide]) c265
                          · refine s_iconst H at_268 (z := (1 : Int32)) (by decide) (pc' := 269) rfl ?_
                            refine s_goto H at_269 (pc' := 273) (by decide) ?_
                            exact s_iret H at_273 rfl (by simp) (by decide) (by decide) (rfl)
                      · exact absurd c235 (by decide)
                    · exact absurd c218 (by decide)
          · exact absurd c149 (by decide)
        · exact absurd c138 (by decide)
    · exact absurd c94 (by decide)
  · exact absurd c78 (by decide)
set_option maxRecDepth 65536 in
set_option maxHeartbeats 40000000 in
theorem s42_1_0_3 {Z : State} {k : Cx} {i0 : Int32} {i1 i2 : Int64} (cN : Nat) (H : Ok Z k room_1 (LQ) x code maxLocals ret) (h0 : 0 < cN) (hc : cN ≤ 3) : Go Z k 0 0 ([] : Hp) 42 #[.val (.int i0), .val (.long i1), .second, .val (.long i2), .second, .val (.int cN.toInt32), .val (.int (1 : Int32)), .val (.int (0 : Int32)), .val (.int (3 : Int32)), .unset, .unset, .unset, .unset, .unset, .unset, .unset, .unset] [] := by
  refine s_iload H at_42 rfl (pc' := 44) rfl ?_
  refine s_iload H at_44 rfl (pc' := 46) rfl ?_
  refine s_iadd H at_46 (pc' := 47) rfl ?_
  refine s_i2l H at_47 (pc' := 48) rfl ?_
  refine s_lloadn H at_48 rfl (pc' := 49) rfl ?_
  refine s_ldc2 H at_49 (mem (i := 4) rfl) (pc' := 52) rfl ?_
  refine s_land H at_52 (pc' := 53) rfl ?_
  refine s_ladd H at_53 (pc' := 54) rfl ?_
  refine s_lstore H at_54 (L' := fun z => #[.val (.int i0), .val (.long i1), .second, .val (.long i2), .second, .val (.int cN.toInt32), .val (.int (1 : Int32)), .val (.int (0 : Int32)), .val (.int (3 : Int32)), .val (.long z), .second, .unset, .unset, .unset, .unset, .unset, .unset]) (fun _ => rfl) (pc' := 56) rfl (fun lim h_lim => ?_)
  have hl : 4 ≤ lim.toInt := by
    have m := c_maskL i2 4611686018427387903 62 (by decide) (by decide)
    have s := c_ladd ((((1 : Int32) + (3 : Int32)).toInt64)) (i2 &&& 4611686018427387903)
    rw [← h_lim, show ((((1 : Int32) + (3 : Int32)).toInt64)).toInt = 4 from by decide] at s
    have rl := rng64 lim
    omega
  refine s_new H (C := "com/example/mangrove/mangrove/MemorySlidingWindowLog$KeyLog") [("com/example/mangrove/mangrove/MemorySlidingWindowLog$KeyLog", "entries", "[J", .null), ("com/example/mangrove/mangrove/MemorySlidingWindowLog$KeyLog", "size", "I", (.int (0 : Int32))), ("com/example/mangrove/mangrove/MemorySlidingWindowLog$KeyLog", "first", "I", (.int (0 : Int32)))] at_56 (mem (i := 5) rfl) (mem (i := 6) rfl) (mem (i := 7) rfl) (allC ⟨Or.inl (mem (i := 16) rfl), (.array .long), by decide, rfl⟩ (allC ⟨Or.inl (mem (i := 23) rfl), .int, by decide, rfl⟩ (allC ⟨Or.inl (mem (i := 25) rfl), .int, by decide, rfl⟩ allN))) (by decide) (cn' := 1) (sn' := 3) rfl rfl (by decide) (by decide) (pc' := 59) rfl (fun a1 => ?_)
  refine s_dup H at_59 rfl (pc' := 60) rfl ?_
  refine s_iload H at_60 rfl (pc' := 62) rfl ?_
  refine s_init H (met_ki H.tb a1 cN hc) at_62 rfl (mem (i := 8) rfl) (mem (i := 9) rfl) (mem (i := 7) rfl) (mem (i := 10) rfl) (by decide) pd_2 rfl (rest := [(.ref a1)]) rfl rfl (by decide) (Nat.le_of_ble_eq_true rfl) (cn' := 2) (sn' := 6) rfl rfl (by decide) (by decide) (pc' := 65) rfl (fun _ _ hq => ?_)
  obtain ⟨ea, rfl, rfl⟩ := hq
  show Go Z k 2 6 ((ea, ArL Z (List.replicate cN 0)) :: (a1, Obj Z "com/example/mangrove/mangrove/MemorySlidingWindowLog$KeyLog" [("com/example/mangrove/mangrove/MemorySlidingWindowLog$KeyLog", "entries", "[J", (.ref ea)), ("com/example/mangrove/mangrove/MemorySlidingWindowLog$KeyLog", "size", "I", (.int (0 : Nat).toInt32)), ("com/example/mangrove/mangrove/MemorySlidingWindowLog$KeyLog", "first", "I", (.int (0 : Nat).toInt32))]) :: []) 65 #[.val (.int i0), .val (.long i1), .second, .val (.long i2), .second, .val (.int cN.toInt32), .val (.int (1 : Int32)), .val (.int (0 : Int32)), .val (.int (3 : Int32)), .val (.long lim), .second, .unset, .unset, .unset, .unset, .unset, .unset] [(.ref a1)]
  obtain ⟨es2, he, les2, Kes2⟩ : ∃ es : List Int64, es = List.replicate cN 0 ∧ es.length = cN ∧ KL es 0 0 [] := ⟨_, rfl, by simp, KL.new (by omega) (by omega)⟩
  rw [← he]
  clear he
  show Go Z k 2 6 ((ea, ArL Z es2) :: (a1, Obj Z "com/example/mangrove/mangrove/MemorySlidingWindowLog$KeyLog" [("com/example/mangrove/mangrove/MemorySlidingWindowLog$KeyLog", "entries", "[J", (.ref ea)), ("com/example/mangrove/mangrove/MemorySlidingWindowLog$KeyLog", "size", "I", (.int (0 : Nat).toInt32)), ("com/example/mangrove/mangrove/MemorySlidingWindowLog$KeyLog", "first", "I", (.int (0 : Nat).toInt32))]) :: []) 65 #[.val (.int i0), .val (.long i1), .second, .val (.long i2), .second, .val (.int cN.toInt32), .val (.int (1 : Int32)), .val (.int (0 : Int32)), .val (.int (3 : Int32)), .val (.long lim), .second, .unset, .unset, .unset, .unset, .unset, .unset] [(.ref a1)]
  refine s_astore H at_65 (L' := #[.val (.int i0), .val (.long i1), .second, .val (.long i2), .second, .val (.int cN.toInt32), .val (.int (1 : Int32)), .val (.int (0 : Int32)), .val (.int (3 : Int32)), .val (.long lim), .second, .val (.ref a1), .unset, .unset, .unset, .unset, .unset]) rfl rfl (pc' := 67) rfl ?_
  refine s_aload H at_67 rfl rfl (pc' := 69) rfl ?_
  refine s_lloadn H at_69 rfl (pc' := 70) rfl ?_
  refine s_lload H at_70 rfl (pc' := 72) rfl ?_
  refine s_virtual H (met_ka H.tb a1 ea es2 ([] : List Int64) (0 : Nat) 0 i1 lim Kes2 (by decide) (by omega)) at_72 (i := 1) rfl (mem (i := 17) rfl) (mem (i := 18) rfl) (mem (i := 20) rfl) (mem (i := 19) rfl) (mem (i := 7) rfl) (mem (i := 21) rfl) (by decide) pd_4 rfl (rest := []) rfl rfl (by decide) (Nat.le_of_ble_eq_true rfl) (cn' := 3) (sn' := 16) rfl rfl (by decide) (by decide) (pc' := 75) rfl (fun _ _ hq => ?_)
  obtain ⟨ea3, es3, f3, F3, Kes3', rfl, rfl⟩ := hq
  show Go Z k 3 16 ((ea3, ArL Z es3) :: (a1, Obj Z "com/example/mangrove/mangrove/MemorySlidingWindowLog$KeyLog" [("com/example/mangrove/mangrove/MemorySlidingWindowLog$KeyLog", "entries", "[J", (.ref ea3)), ("com/example/mangrove/mangrove/MemorySlidingWindowLog$KeyLog", "size", "I", (.int (1 : Nat).toInt32)), ("com/example/mangrove/mangrove/MemorySlidingWindowLog$KeyLog", "first", "I", (.int f3.toInt32))]) :: F3) 75 #[.val (.int i0), .val (.long i1), .second, .val (.long i2), .second, .val (.int cN.toInt32), .val (.int (1 : Int32)), .val (.int (0 : Int32)), .val (.int (3 : Int32)), .val (.long lim), .second, .val (.ref a1), .unset, .unset, .unset, .unset, .unset] []
  have Kes3 : KL es3 f3 1 ([i1] : List Int64) := Kes3'
  refine s_iload H at_75 rfl (pc' := 77) rfl ?_
  refine s_iconst H at_77 (z := (1 : Int32)) (by decide) (pc' := 78) rfl ?_
  refine s_icmp H at_78 (py := 91) (pc' := 81) q_le (by decide) rfl (fun c78 => ?_) (fun c78 => ?_)
  · refine s_iload H at_91 rfl (pc' := 93) rfl ?_
    refine s_iconst H at_93 (z := (2 : Int32)) (by decide) (pc' := 94) rfl ?_
    refine s_icmp H at_94 (py := 109) (pc' := 97) q_le (by decide) rfl (fun c94 => ?_) (fun c94 => ?_)
    · refine s_lloadn H at_109 rfl (pc' := 110) rfl ?_
      refine s_iload H at_110 rfl (pc' := 112) rfl ?_
      refine s_iconst H at_112 (z := (1 : Int32)) (by decide) (pc' := 113) rfl ?_
      refine s_isub H at_113 (pc' := 114) rfl ?_
      refine s_i2l H at_114 (pc' := 115) rfl ?_
      refine s_ladd H at_115 (pc' := 116) rfl ?_
      refine s_lstore H at_116 (L' := fun z => #[.val (.int i0), .val (.long i1), .second, .val (.long i2), .second, .val (.int cN.toInt32), .val (.int (1 : Int32)), .val (.int (0 : Int32)), .val (.int (3 : Int32)), .val (.long lim), .second, .val (.ref a1), .val (.long z), .second, .unset, .unset, .unset]) (fun _ => rfl) (pc' := 118) rfl (fun af h_af => ?_)
      refine s_aload H at_118 rfl rfl (pc' := 120) rfl ?_
      refine s_virtual H (met_kn H.tb a1 ea3 es3 ([] : List Int64) f3 1 i1 Kes3) at_120 (i := 1) rfl (mem (i := 26) rfl) (mem (i := 27) rfl) (mem (i := 29) rfl) (mem (i := 28) rfl) (mem (i := 7) rfl) (mem (i := 30) rfl) (by decide) pd_5 rfl (rest := []) rfl rfl (by decide) (Nat.le_of_ble_eq_true rfl) (cn' := 3) (sn' := 16) rfl rfl (by decide) (by decide) (pc' := 123) rfl (fun _ _ hq => ?_)
      obtain ⟨rfl, rfl⟩ := hq
      show Go Z k 3 16 ((ea3, ArL Z es3) :: (a1, Obj Z "com/example/mangrove/mangrove/MemorySlidingWindowLog$KeyLog" [("com/example/mangrove/mangrove/MemorySlidingWindowLog$KeyLog", "entries", "[J", (.ref ea3)), ("com/example/mangrove/mangrove/MemorySlidingWindowLog$KeyLog", "size", "I", (.int (1 : Nat).toInt32)), ("com/example/mangrove/mangrove/MemorySlidingWindowLog$KeyLog", "first", "I", (.int f3.toInt32))]) :: F3) 123 #[.val (.int i0), .val (.long i1), .second, .val (.long i2), .second, .val (.int cN.toInt32), .val (.int (1 : Int32)), .val (.int (0 : Int32)), .val (.int (3 : Int32)), .val (.long lim), .second, .val (.ref a1), .val (.long af), .second, .unset, .unset, .unset] [(.long i1)]
      refine s_lload H at_123 rfl (pc' := 125) rfl ?_
      refine s_lcmp H at_125 (pc' := 126) rfl ?_
      refine s_if H at_126 (py := 133) (pc' := 129) l_ne (by decide) rfl (fun c126 => ?_) (fun c126 => ?_)
      · exact absurd (by rw [h_af, show (((1 : Int32) - (1 : Int32)).toInt64) = 0 from by decide, Int64.add_zero]) c126
      · refine s_iconst H at_129 (z := (1 : Int32)) (by decide) (pc' := 130) rfl ?_
        refine s_goto H at_130 (pc' := 134) (by decide) ?_
        refine s_istore H at_134 (L' := fun z => #[.val (.int i0), .val (.long i1), .second, .val (.long i2), .second, .val (.int cN.toInt32), .val (.int (1 : Int32)), .val (.int (0 : Int32)), .val (.int (3 : Int32)), .val (.long lim), .second, .val (.ref a1), .val (.long af), .second, .val (.int z), .unset, .unset]) (fun _ => rfl) (pc' := 136) rfl (fun z0 hz => ?_)
        subst z0
        refine s_iload H at_136 rfl (pc' := 138) rfl ?_
        refine s_if H at_138 (py := 146) (pc' := 141) z_le (by decide) rfl (fun c138 => ?_) (fun c138 => ?_)
        · refine s_iload H at_146 rfl (pc' := 148) rfl ?_
          refine s_iconst H at_148 (z := (1 : Int32)) (by decide) (pc' := 149) rfl ?_
          refine s_icmp H at_149 (py := 157) (pc' := 152) q_le (by decide) rfl (fun c149 => ?_) (fun c149 => ?_)
          · refine s_iload H at_157 rfl (pc' := 159) rfl ?_
            refine s_if H at_159 (py := 177) (pc' := 162) z_eq (by decide) rfl (fun c159 => ?_) (fun c159 => ?_)
            · exact absurd c159 (by decide)
            · refine s_aload H at_162 rfl rfl (pc' := 164) rfl ?_
              refine s_virtual H (met_kn H.tb a1 ea3 es3 ([] : List Int64) f3 1 i1 Kes3) at_164 (i := 1) rfl (mem (i := 26) rfl) (mem (i := 27) rfl) (mem (i := 29) rfl) (mem (i := 28) rfl) (mem (i := 7) rfl) (mem (i := 30) rfl) (by decide) pd_5 rfl (rest := []) rfl rfl (by decide) (Nat.le_of_ble_eq_true rfl) (cn' := 3) (sn' := 16) rfl rfl (by decide) (by decide) (pc' := 167) rfl (fun _ _ hq => ?_)
              obtain ⟨rfl, rfl⟩ := hq
              show Go Z k 3 16 ((ea3, ArL Z es3) :: (a1, Obj Z "com/example/mangrove/mangrove/MemorySlidingWindowLog$KeyLog" [("com/example/mangrove/mangrove/MemorySlidingWindowLog$KeyLog", "entries", "[J", (.ref ea3)), ("com/example/mangrove/mangrove/MemorySlidingWindowLog$KeyLog", "size", "I", (.int (1 : Nat).toInt32)), ("com/example/mangrove/mangrove/MemorySlidingWindowLog$KeyLog", "first", "I", (.int f3.toInt32))]) :: F3) 167 #[.val (.int i0), .val (.long i1), .second, .val (.long i2), .second, .val (.int cN.toInt32), .val (.int (1 : Int32)), .val (.int (0 : Int32)), .val (.int (3 : Int32)), .val (.long lim), .second, .val (.ref a1), .val (.long af), .second, .val (.int (1 : Int32)), .unset, .unset] [(.long i1)]
              refine s_lload H at_167 rfl (pc' := 169) rfl ?_
              refine s_lcmp H at_169 (pc' := 170) rfl ?_
              refine s_if H at_170 (py := 177) (pc' := 173) l_ne (by decide) rfl (fun c170 => ?_) (fun c170 => ?_)
              · exact absurd (by rw [h_af, show (((1 : Int32) - (1 : Int32)).toInt64) = 0 from by decide, Int64.add_zero]) c170
              · refine s_iconst H at_173 (z := (1 : Int32)) (by decide) (pc' := 174) rfl ?_
                refine s_goto H at_174 (pc' := 178) (by decide) ?_
                refine s_istore H at_178 (L' := fun z => #[.val (.int i0), .val (.long i1), .second, .val (.long i2), .second, .val (.int cN.toInt32), .val (.int (1 : Int32)), .val (.int (0 : Int32)), .val (.int (3 : Int32)), .val (.long lim), .second, .val (.ref a1), .val (.long af), .second, .val (.int z), .unset, .unset]) (fun _ => rfl) (pc' := 180) rfl (fun z0 hz => ?_)
                subst z0
                refine s_iload H at_180 rfl (pc' := 182) rfl ?_
                refine s_if H at_182 (py := 197) (pc' := 185) z_le (by decide) rfl (fun c182 => ?_) (fun c182 => ?_)
                · exact absurd c182 (by decide)
                · refine s_aload H at_185 rfl rfl (pc' := 187) rfl ?_
                  refine s_lloadn H at_187 rfl (pc' := 188) rfl ?_
                  refine s_ldc2 H at_188 (mem (i := 46) rfl) (pc' := 191) rfl ?_
                  refine s_ladd H at_191 (pc' := 192) rfl ?_
                  refine s_lload H at_192 rfl (pc' := 194) rfl ?_
                  refine s_virtual H (met_ka H.tb a1 ea3 es3 ([i1] : List Int64) f3 1 (i1 + (3 : Int64)) lim Kes3 (by decide) (by omega)) at_194 (i := 1) rfl (mem (i := 17) rfl) (mem (i := 18) rfl) (mem (i := 20) rfl) (mem (i := 19) rfl) (mem (i := 7) rfl) (mem (i := 21) rfl) (by decide) pd_4 rfl (rest := []) rfl rfl (by decide) (Nat.le_of_ble_eq_true rfl) (cn' := 4) (sn' := 26) rfl rfl (by decide) (by decide) (pc' := 197) rfl (fun _ _ hq => ?_)
                  obtain ⟨ea4, es4, f4, F4, Kes4', rfl, rfl⟩ := hq
                  show Go Z k 4 26 ((ea4, ArL Z es4) :: (a1, Obj Z "com/example/mangrove/mangrove/MemorySlidingWindowLog$KeyLog" [("com/example/mangrove/mangrove/MemorySlidingWindowLog$KeyLog", "entries", "[J", (.ref ea4)), ("com/example/mangrove/mangrove/MemorySlidingWindowLog$KeyLog", "size", "I", (.int (2 : Nat).toInt32)), ("com/example/mangrove/mangrove/MemorySlidingWindowLog$KeyLog", "first", "I", (.int f4.toInt32))]) :: F4) 197 #[.val (.int i0), .val (.long i1), .second, .val (.long i2), .second, .val (.int cN.toInt32), .val (.int (1 : Int32)), .val (.int (0 : Int32)), .val (.int (3 : Int32)), .val (.long lim), .second, .val (.ref a1), .val (.long af), .second, .val (.int (1 : Int32)), .unset, .unset] []
                  have Kes4 : KL es4 f4 2 ([i1, (i1 + (3 : Int64))] : List Int64) := Kes4'
                  refine s_iload H at_197 rfl (pc' := 199) rfl ?_
                  refine s_iconst H at_199 (z := (1 : Int32)) (by decide) (pc' := 200) rfl ?_
                  refine s_icmp H at_200 (py := 215) (pc' := 203) q_le (by decide) rfl (fun c200 => ?_) (fun c200 => ?_)
                  · exact absurd c200 (by decide)
                  · refine s_aload H at_203 rfl rfl (pc' := 205) rfl ?_
                    refine s_lloadn H at_205 rfl (pc' := 206) rfl ?_
                    refine s_ldc2 H at_206 (mem (i := 47) rfl) (pc' := 209) rfl ?_
                    refine s_ladd H at_209 (pc' := 210) rfl ?_
                    refine s_lload H at_210 rfl (pc' := 212) rfl ?_
                    refine s_virtual H (met_ka H.tb a1 ea4 es4 ([i1, (i1 + (3 : Int64))] : List Int64) f4 2 (i1 + (4 : Int64)) lim Kes4 (by decide) (by omega)) at_212 (i := 1) rfl (mem (i := 17) rfl) (mem (i := 18) rfl) (mem (i := 20) rfl) (mem (i := 19) rfl) (mem (i := 7) rfl) (mem (i := 21) rfl) (by decide) pd_4 rfl (rest := []) rfl rfl (by decide) (Nat.le_of_ble_eq_true rfl) (cn' := 5) (sn' := 36) rfl rfl (by decide) (by decide) (pc' := 215) rfl (fun _ _ hq => ?_)
                    obtain ⟨ea5, es5, f5, F5, Kes5', rfl, rfl⟩ := hq
                    show Go Z k 5 36 ((ea5, ArL Z es5) :: (a1, Obj Z "com/example/mangrove/mangrove/MemorySlidingWindowLog$KeyLog" [("com/example/mangrove/mangrove/MemorySlidingWindowLog$KeyLog", "entries", "[J", (.ref ea5)), ("com/example/mangrove/mangrove/MemorySlidingWindowLog$KeyLog", "size", "I", (.int (3 : Nat).toInt32)), ("com/example/mangrove/mangrove/MemorySlidingWindowLog$KeyLog", "first", "I", (.int f5.toInt32))]) :: F5) 215 #[.val (.int i0), .val (.long i1), .second, .val (.long i2), .second, .val (.int cN.toInt32), .val (.int (1 : Int32)), .val (.int (0 : Int32)), .val (.int (3 : Int32)), .val (.long lim), .second, .val (.ref a1), .val (.long af), .second, .val (.int (1 : Int32)), .unset, .unset] []
                    have Kes5 : KL es5 f5 3 ([i1, (i1 + (3 : Int64)), (i1 + (4 : Int64))] : List Int64) := Kes5'
                    refine s_iload H at_215 rfl (pc' := 217) rfl ?_
                    refine s_iconst H at_217 (z := (2 : Int32)) (by decide) (pc' := 218) rfl ?_
                    refine s_icmp H at_218 (py := 233) (pc' := 221) q_le (by decide) rfl (fun c218 => ?_) (fun c218 => ?_)
                    · exact absurd c218 (by decide)
                    · refine s_aload H at_221 rfl rfl (pc' := 223) rfl ?_
                      refine s_lloadn H at_223 rfl (pc' := 224) rfl ?_
                      refine s_ldc2 H at_224 (mem (i := 48) rfl) (pc' := 227) rfl ?_
                      refine s_ladd H at_227 (pc' := 228) rfl ?_
                      refine s_lload H at_228 rfl (pc' := 230) rfl ?_
                      refine s_virtual H (met_ka H.tb a1 ea5 es5 ([i1, (i1 + (3 : Int64)), (i1 + (4 : Int64))] : List Int64) f5 3 (i1 + (5 : Int64)) lim Kes5 (by decide) (by omega)) at_230 (i := 1) rfl (mem (i := 17) rfl) (mem (i := 18) rfl) (mem (i := 20) rfl) (mem (i := 19) rfl) (mem (i := 7) rfl) (mem (i := 21) rfl) (by decide) pd_4 rfl (rest := []) rfl rfl (by decide) (Nat.le_of_ble_eq_true rfl) (cn' := 6) (sn' := 46) rfl rfl (by decide) (by decide) (pc' := 233) rfl (fun _ _ hq => ?_)
                      obtain ⟨ea6, es6, f6, F6, Kes6', rfl, rfl⟩ := hq
                      show Go Z k 6 46 ((ea6, ArL Z es6) :: (a1, Obj Z "com/example/mangrove/mangrove/MemorySlidingWindowLog$KeyLog" [("com/example/mangrove/mangrove/MemorySlidingWindowLog$KeyLog", "entries", "[J", (.ref ea6)), ("com/example/mangrove/mangrove/MemorySlidingWindowLog$KeyLog", "size", "I", (.int (4 : Nat).toInt32)), ("com/example/mangrove/mangrove/MemorySlidingWindowLog$KeyLog", "first", "I", (.int f6.toInt32))]) :: F6) 233 #[.val (.int i0), .val (.long i1), .second, .val (.long i2), .second, .val (.int cN.toInt32), .val (.int (1 : Int32)), .val (.int (0 : Int32)), .val (.int (3 : Int32)), .val (.long lim), .second, .val (.ref a1), .val (.long af), .second, .val (.int (1 : Int32)), .unset, .unset] []
                      have Kes6 : KL es6 f6 4 ([i1, (i1 + (3 : Int64)), (i1 + (4 : Int64)), (i1 + (5 : Int64))] : List Int64) := Kes6'
                      refine s_iload H at_233 rfl (pc' := 235) rfl ?_
                      refine s_if H at_235 (py := 243) (pc' := 238) z_ne (by decide) rfl (fun c235 => ?_) (fun c235 => ?_)
                      · refine s_lloadn H at_243 rfl (pc' := 244) rfl ?_
                        refine s_iconst H at_244 (z := (2 : Int32)) (by decide) (pc' := 245) rfl ?_
                        refine s_iload H at_245 rfl (pc' := 247) rfl ?_
                        refine s_iadd H at_247 (pc' := 248) rfl ?_
                        refine s_i2l H at_248 (pc' := 249) rfl ?_
                        refine s_ladd H at_249 (pc' := 250) rfl ?_
                        refine s_lstore H at_250 (L' := fun z => #[.val (.int i0), .val (.long i1), .second, .val (.long i2), .second, .val (.int cN.toInt32), .val (.int (1 : Int32)), .val (.int (0 : Int32)), .val (.int (3 : Int32)), .val (.long lim), .second, .val (.ref a1), .val (.long af), .second, .val (.int (1 : Int32)), .val (.long z), .second]) (fun _ => rfl) (pc' := 252) rfl (fun la h_la => ?_)
                        refine s_iload H at_252 rfl (pc' := 254) rfl ?_
                        refine s_if H at_254 (py := 272) (pc' := 257) z_eq (by decide) rfl (fun c254 => ?_) (fun c254 => ?_)
                        · exact absurd c254 (by decide)
                        · refine s_aload H at_257 rfl rfl (pc' := 259) rfl ?_
                          refine s_virtual H (met_kn H.tb a1 ea6 es6 ([i1, (i1 + (3 : Int64)), (i1 + (4 : Int64))] : List Int64) f6 4 (i1 + (5 : Int64)) Kes6) at_259 (i := 1) rfl (mem (i := 26) rfl) (mem (i := 27) rfl) (mem (i := 29) rfl) (mem (i := 28) rfl) (mem (i := 7) rfl) (mem (i := 30) rfl) (by decide) pd_5 rfl (rest := []) rfl rfl (by decide) (Nat.le_of_ble_eq_true rfl) (cn' := 6) (sn' := 46) rfl rfl (by decide) (by decide) (pc' := 262) rfl (fun _ _ hq => ?_)
                          obtain ⟨rfl, rfl⟩ := hq
                          show Go Z k 6 46 ((ea6, ArL Z es6) :: (a1, Obj Z "com/example/mangrove/mangrove/MemorySlidingWindowLog$KeyLog" [("com/example/mangrove/mangrove/MemorySlidingWindowLog$KeyLog", "entries", "[J", (.ref ea6)), ("com/example/mangrove/mangrove/MemorySlidingWindowLog$KeyLog", "size", "I", (.int (4 : Nat).toInt32)), ("com/example/mangrove/mangrove/MemorySlidingWindowLog$KeyLog", "first", "I", (.int f6.toInt32))]) :: F6) 262 #[.val (.int i0), .val (.long i1), .second, .val (.long i2), .second, .val (.int cN.toInt32), .val (.int (1 : Int32)), .val (.int (0 : Int32)), .val (.int (3 : Int32)), .val (.long lim), .second, .val (.ref a1), .val (.long af), .second, .val (.int (1 : Int32)), .val (.long la), .second] [(.long (i1 + (5 : Int64)))]
                          refine s_lload H at_262 rfl (pc' := 264) rfl ?_
                          refine s_lcmp H at_264 (pc' := 265) rfl ?_
                          refine s_if H at_265 (py := 272) (pc' := 268) l_ne (by decide) rfl (fun c265 => ?_) (fun c265 => ?_)
                          · exact absurd (by rw [h_la, show (((2 : Int32) + (3 : Int32)).toInt64) = 5 from by decide]) c265
                          · refine s_iconst H at_268 (z := (1 : Int32)) (by decide) (pc' := 269) rfl ?_
                            refine s_goto H at_269 (pc' := 273) (by decide) ?_
                            exact s_iret H at_273 rfl (by simp) (by decide) (by decide) (rfl)
                      · exact absurd c235 (by decide)
          · exact absurd c149 (by decide)
        · exact absurd c138 (by decide)
    · exact absurd c94 (by decide)
  · exact absurd c78 (by decide)
set_option maxRecDepth 65536 in
set_option maxHeartbeats 40000000 in
theorem s42_2_0_0 {Z : State} {k : Cx} {i0 : Int32} {i1 i2 : Int64} (cN : Nat) (H : Ok Z k room_1 (LQ) x code maxLocals ret) (h0 : 0 < cN) (hc : cN ≤ 3) : Go Z k 0 0 ([] : Hp) 42 #[.val (.int i0), .val (.long i1), .second, .val (.long i2), .second, .val (.int cN.toInt32), .val (.int (2 : Int32)), .val (.int (0 : Int32)), .val (.int (0 : Int32)), .unset, .unset, .unset, .unset, .unset, .unset, .unset, .unset] [] := by
  refine s_iload H at_42 rfl (pc' := 44) rfl ?_
  refine s_iload H at_44 rfl (pc' := 46) rfl ?_
  refine s_iadd H at_46 (pc' := 47) rfl ?_
  refine s_i2l H at_47 (pc' := 48) rfl ?_
  refine s_lloadn H at_48 rfl (pc' := 49) rfl ?_
  refine s_ldc2 H at_49 (mem (i := 4) rfl) (pc' := 52) rfl ?_
  refine s_land H at_52 (pc' := 53) rfl ?_
  refine s_ladd H at_53 (pc' := 54) rfl ?_
  refine s_lstore H at_54 (L' := fun z => #[.val (.int i0), .val (.long i1), .second, .val (.long i2), .second, .val (.int cN.toInt32), .val (.int (2 : Int32)), .val (.int (0 : Int32)), .val (.int (0 : Int32)), .val (.long z), .second, .unset, .unset, .unset, .unset, .unset, .unset]) (fun _ => rfl) (pc' := 56) rfl (fun lim h_lim => ?_)
  have hl : 2 ≤ lim.toInt := by
    have m := c_maskL i2 4611686018427387903 62 (by decide) (by decide)
    have s := c_ladd ((((2 : Int32) + (0 : Int32)).toInt64)) (i2 &&& 4611686018427387903)
    rw [← h_lim, show ((((2 : Int32) + (0 : Int32)).toInt64)).toInt = 2 from by decide] at s
    have rl := rng64 lim
    omega
  refine s_new H (C := "com/example/mangrove/mangrove/MemorySlidingWindowLog$KeyLog") [("com/example/mangrove/mangrove/MemorySlidingWindowLog$KeyLog", "entries", "[J", .null), ("com/example/mangrove/mangrove/MemorySlidingWindowLog$KeyLog", "size", "I", (.int (0 : Int32))), ("com/example/mangrove/mangrove/MemorySlidingWindowLog$KeyLog", "first", "I", (.int (0 : Int32)))] at_56 (mem (i := 5) rfl) (mem (i := 6) rfl) (mem (i := 7) rfl) (allC ⟨Or.inl (mem (i := 16) rfl), (.array .long), by decide, rfl⟩ (allC ⟨Or.inl (mem (i := 23) rfl), .int, by decide, rfl⟩ (allC ⟨Or.inl (mem (i := 25) rfl), .int, by decide, rfl⟩ allN))) (by decide) (cn' := 1) (sn' := 3) rfl rfl (by decide) (by decide) (pc' := 59) rfl (fun a1 => ?_)
  refine s_dup H at_59 rfl (pc' := 60) rfl ?_
  refine s_iload H at_60 rfl (pc' := 62) rfl ?_
  refine s_init H (met_ki H.tb a1 cN hc) at_62 rfl (mem (i := 8) rfl) (mem (i := 9) rfl) (mem (i := 7) rfl) (mem (i := 10) rfl) (by decide) pd_2 rfl (rest := [(.ref a1)]) rfl rfl (by decide) (Nat.le_of_ble_eq_true rfl) (cn' := 2) (sn' := 6) rfl rfl (by decide) (by decide) (pc' := 65) rfl (fun _ _ hq => ?_)
  obtain ⟨ea, rfl, rfl⟩ := hq
  show Go Z k 2 6 ((ea, ArL Z (List.replicate cN 0)) :: (a1, Obj Z "com/example/mangrove/mangrove/MemorySlidingWindowLog$KeyLog" [("com/example/mangrove/mangrove/MemorySlidingWindowLog$KeyLog", "entries", "[J", (.ref ea)), ("com/example/mangrove/mangrove/MemorySlidingWindowLog$KeyLog", "size", "I", (.int (0 : Nat).toInt32)), ("com/example/mangrove/mangrove/MemorySlidingWindowLog$KeyLog", "first", "I", (.int (0 : Nat).toInt32))]) :: []) 65 #[.val (.int i0), .val (.long i1), .second, .val (.long i2), .second, .val (.int cN.toInt32), .val (.int (2 : Int32)), .val (.int (0 : Int32)), .val (.int (0 : Int32)), .val (.long lim), .second, .unset, .unset, .unset, .unset, .unset, .unset] [(.ref a1)]
  obtain ⟨es2, he, les2, Kes2⟩ : ∃ es : List Int64, es = List.replicate cN 0 ∧ es.length = cN ∧ KL es 0 0 [] := ⟨_, rfl, by simp, KL.new (by omega) (by omega)⟩
  rw [← he]
  clear he
  show Go Z k 2 6 ((ea, ArL Z es2) :: (a1, Obj Z "com/example/mangrove/mangrove/MemorySlidingWindowLog$KeyLog" [("com/example/mangrove/mangrove/MemorySlidingWindowLog$KeyLog", "entries", "[J", (.ref ea)), ("com/example/mangrove/mangrove/MemorySlidingWindowLog$KeyLog", "size", "I", (.int (0 : Nat).toInt32)), ("com/example/mangrove/mangrove/MemorySlidingWindowLog$KeyLog", "first", "I", (.int (0 : Nat).toInt32))]) :: []) 65 #[.val (.int i0), .val (.long i1), .second, .val (.long i2), .second, .val (.int cN.toInt32), .val (.int (2 : Int32)), .val (.int (0 : Int32)), .val (.int (0 : Int32)), .val (.long lim), .second, .unset, .unset, .unset, .unset, .unset, .unset] [(.ref a1)]
  refine s_astore H at_65 (L' := #[.val (.int i0), .val (.long i1), .second, .val (.long i2), .second, .val (.int cN.toInt32), .val (.int (2 : Int32)), .val (.int (0 : Int32)), .val (.int (0 : Int32)), .val (.long lim), .second, .val (.ref a1), .unset, .unset, .unset, .unset, .unset]) rfl rfl (pc' := 67) rfl ?_
  refine s_aload H at_67 rfl rfl (pc' := 69) rfl ?_
  refine s_lloadn H at_69 rfl (pc' := 70) rfl ?_
  refine s_lload H at_70 rfl (pc' := 72) rfl ?_
  refine s_virtual H (met_ka H.tb a1 ea es2 ([] : List Int64) (0 : Nat) 0 i1 lim Kes2 (by decide) (by omega)) at_72 (i := 1) rfl (mem (i := 17) rfl) (mem (i := 18) rfl) (mem (i := 20) rfl) (mem (i := 19) rfl) (mem (i := 7) rfl) (mem (i := 21) rfl) (by decide) pd_4 rfl (rest := []) rfl rfl (by decide) (Nat.le_of_ble_eq_true rfl) (cn' := 3) (sn' := 16) rfl rfl (by decide) (by decide) (pc' := 75) rfl (fun _ _ hq => ?_)
  obtain ⟨ea3, es3, f3, F3, Kes3', rfl, rfl⟩ := hq
  show Go Z k 3 16 ((ea3, ArL Z es3) :: (a1, Obj Z "com/example/mangrove/mangrove/MemorySlidingWindowLog$KeyLog" [("com/example/mangrove/mangrove/MemorySlidingWindowLog$KeyLog", "entries", "[J", (.ref ea3)), ("com/example/mangrove/mangrove/MemorySlidingWindowLog$KeyLog", "size", "I", (.int (1 : Nat).toInt32)), ("com/example/mangrove/mangrove/MemorySlidingWindowLog$KeyLog", "first", "I", (.int f3.toInt32))]) :: F3) 75 #[.val (.int i0), .val (.long i1), .second, .val (.long i2), .second, .val (.int cN.toInt32), .val (.int (2 : Int32)), .val (.int (0 : Int32)), .val (.int (0 : Int32)), .val (.long lim), .second, .val (.ref a1), .unset, .unset, .unset, .unset, .unset] []
  have Kes3 : KL es3 f3 1 ([i1] : List Int64) := Kes3'
  refine s_iload H at_75 rfl (pc' := 77) rfl ?_
  refine s_iconst H at_77 (z := (1 : Int32)) (by decide) (pc' := 78) rfl ?_
  refine s_icmp H at_78 (py := 91) (pc' := 81) q_le (by decide) rfl (fun c78 => ?_) (fun c78 => ?_)
  · exact absurd c78 (by decide)
  · refine s_aload H at_81 rfl rfl (pc' := 83) rfl ?_
    refine s_lloadn H at_83 rfl (pc' := 84) rfl ?_
    refine s_lconst H at_84 (z := (1 : Int64)) (by decide) (pc' := 85) rfl ?_
    refine s_ladd H at_85 (pc' := 86) rfl ?_
    refine s_lload H at_86 rfl (pc' := 88) rfl ?_
    refine s_virtual H (met_ka H.tb a1 ea3 es3 ([i1] : List Int64) f3 1 (i1 + (1 : Int64)) lim Kes3 (by decide) (by omega)) at_88 (i := 1) rfl (mem (i := 17) rfl) (mem (i := 18) rfl) (mem (i := 20) rfl) (mem (i := 19) rfl) (mem (i := 7) rfl) (mem (i := 21) rfl) (by decide) pd_4 rfl (rest := []) rfl rfl (by decide) (Nat.le_of_ble_eq_true rfl) (cn' := 4) (sn' := 26) rfl rfl (by decide) (by decide) (pc' := 91) rfl (fun _ _ hq => ?_)
    obtain ⟨ea4, es4, f4, F4, Kes4', rfl, rfl⟩ := hq
    show Go Z k 4 26 ((ea4, ArL Z es4) :: (a1, Obj Z "com/example/mangrove/mangrove/MemorySlidingWindowLog$KeyLog" [("com/example/mangrove/mangrove/MemorySlidingWindowLog$KeyLog", "entries", "[J", (.ref ea4)), ("com/example/mangrove/mangrove/MemorySlidingWindowLog$KeyLog", "size", "I", (.int (2 : Nat).toInt32)), ("com/example/mangrove/mangrove/MemorySlidingWindowLog$KeyLog", "first", "I", (.int f4.toInt32))]) :: F4) 91 #[.val (.int i0), .val (.long i1), .second, .val (.long i2), .second, .val (.int cN.toInt32), .val (.int (2 : Int32)), .val (.int (0 : Int32)), .val (.int (0 : Int32)), .val (.long lim), .second, .val (.ref a1), .unset, .unset, .unset, .unset, .unset] []
    have Kes4 : KL es4 f4 2 ([i1, (i1 + (1 : Int64))] : List Int64) := Kes4'
    refine s_iload H at_91 rfl (pc' := 93) rfl ?_
    refine s_iconst H at_93 (z := (2 : Int32)) (by decide) (pc' := 94) rfl ?_
    refine s_icmp H at_94 (py := 109) (pc' := 97) q_le (by decide) rfl (fun c94 => ?_) (fun c94 => ?_)
    · refine s_lloadn H at_109 rfl (pc' := 110) rfl ?_
      refine s_iload H at_110 rfl (pc' := 112) rfl ?_
      refine s_iconst H at_112 (z := (1 : Int32)) (by decide) (pc' := 113) rfl ?_
      refine s_isub H at_113 (pc' := 114) rfl ?_
      refine s_i2l H at_114 (pc' := 115) rfl ?_
      refine s_ladd H at_115 (pc' := 116) rfl ?_
      refine s_lstore H at_116 (L' := fun z => #[.val (.int i0), .val (.long i1), .second, .val (.long i2), .second, .val (.int cN.toInt32), .val (.int (2 : Int32)), .val (.int (0 : Int32)), .val (.int (0 : Int32)), .val (.long lim), .second, .val (.ref a1), .val (.long z), .second, .unset, .unset, .unset]) (fun _ => rfl) (pc' := 118) rfl (fun af h_af => ?_)
      refine s_aload H at_118 rfl rfl (pc' := 120) rfl ?_
      refine s_virtual H (met_kn H.tb a1 ea4 es4 ([i1] : List Int64) f4 2 (i1 + (1 : Int64)) Kes4) at_120 (i := 1) rfl (mem (i := 26) rfl) (mem (i := 27) rfl) (mem (i := 29) rfl) (mem (i := 28) rfl) (mem (i := 7) rfl) (mem (i := 30) rfl) (by decide) pd_5 rfl (rest := []) rfl rfl (by decide) (Nat.le_of_ble_eq_true rfl) (cn' := 4) (sn' := 26) rfl rfl (by decide) (by decide) (pc' := 123) rfl (fun _ _ hq => ?_)
      obtain ⟨rfl, rfl⟩ := hq
      show Go Z k 4 26 ((ea4, ArL Z es4) :: (a1, Obj Z "com/example/mangrove/mangrove/MemorySlidingWindowLog$KeyLog" [("com/example/mangrove/mangrove/MemorySlidingWindowLog$KeyLog", "entries", "[J", (.ref ea4)), ("com/example/mangrove/mangrove/MemorySlidingWindowLog$KeyLog", "size", "I", (.int (2 : Nat).toInt32)), ("com/example/mangrove/mangrove/MemorySlidingWindowLog$KeyLog", "first", "I", (.int f4.toInt32))]) :: F4) 123 #[.val (.int i0), .val (.long i1), .second, .val (.long i2), .second, .val (.int cN.toInt32), .val (.int (2 : Int32)), .val (.int (0 : Int32)), .val (.int (0 : Int32)), .val (.long lim), .second, .val (.ref a1), .val (.long af), .second, .unset, .unset, .unset] [(.long (i1 + (1 : Int64)))]
      refine s_lload H at_123 rfl (pc' := 125) rfl ?_
      refine s_lcmp H at_125 (pc' := 126) rfl ?_
      refine s_if H at_126 (py := 133) (pc' := 129) l_ne (by decide) rfl (fun c126 => ?_) (fun c126 => ?_)
      · exact absurd (by rw [h_af, show (((2 : Int32) - (1 : Int32)).toInt64) = 1 from by decide]) c126
      · refine s_iconst H at_129 (z := (1 : Int32)) (by decide) (pc' := 130) rfl ?_
        refine s_goto H at_130 (pc' := 134) (by decide) ?_
        refine s_istore H at_134 (L' := fun z => #[.val (.int i0), .val (.long i1), .second, .val (.long i2), .second, .val (.int cN.toInt32), .val (.int (2 : Int32)), .val (.int (0 : Int32)), .val (.int (0 : Int32)), .val (.long lim), .second, .val (.ref a1), .val (.long af), .second, .val (.int z), .unset, .unset]) (fun _ => rfl) (pc' := 136) rfl (fun z0 hz => ?_)
        subst z0
        refine s_iload H at_136 rfl (pc' := 138) rfl ?_
        refine s_if H at_138 (py := 146) (pc' := 141) z_le (by decide) rfl (fun c138 => ?_) (fun c138 => ?_)
        · refine s_iload H at_146 rfl (pc' := 148) rfl ?_
          refine s_iconst H at_148 (z := (1 : Int32)) (by decide) (pc' := 149) rfl ?_
          refine s_icmp H at_149 (py := 157) (pc' := 152) q_le (by decide) rfl (fun c149 => ?_) (fun c149 => ?_)
          · refine s_iload H at_157 rfl (pc' := 159) rfl ?_
            refine s_if H at_159 (py := 177) (pc' := 162) z_eq (by decide) rfl (fun c159 => ?_) (fun c159 => ?_)
            · exact absurd c159 (by decide)
            · refine s_aload H at_162 rfl rfl (pc' := 164) rfl ?_
              refine s_virtual H (met_kn H.tb a1 ea4 es4 ([i1] : List Int64) f4 2 (i1 + (1 : Int64)) Kes4) at_164 (i := 1) rfl (mem (i := 26) rfl) (mem (i := 27) rfl) (mem (i := 29) rfl) (mem (i := 28) rfl) (mem (i := 7) rfl) (mem (i := 30) rfl) (by decide) pd_5 rfl (rest := []) rfl rfl (by decide) (Nat.le_of_ble_eq_true rfl) (cn' := 4) (sn' := 26) rfl rfl (by decide) (by decide) (pc' := 167) rfl (fun _ _ hq => ?_)
              obtain ⟨rfl, rfl⟩ := hq
              show Go Z k 4 26 ((ea4, ArL Z es4) :: (a1, Obj Z "com/example/mangrove/mangrove/MemorySlidingWindowLog$KeyLog" [("com/example/mangrove/mangrove/MemorySlidingWindowLog$KeyLog", "entries", "[J", (.ref ea4)), ("com/example/mangrove/mangrove/MemorySlidingWindowLog$KeyLog", "size", "I", (.int (2 : Nat).toInt32)), ("com/example/mangrove/mangrove/MemorySlidingWindowLog$KeyLog", "first", "I", (.int f4.toInt32))]) :: F4) 167 #[.val (.int i0), .val (.long i1), .second, .val (.long i2), .second, .val (.int cN.toInt32), .val (.int (2 : Int32)), .val (.int (0 : Int32)), .val (.int (0 : Int32)), .val (.long lim), .second, .val (.ref a1), .val (.long af), .second, .val (.int (1 : Int32)), .unset, .unset] [(.long (i1 + (1 : Int64)))]
              refine s_lload H at_167 rfl (pc' := 169) rfl ?_
              refine s_lcmp H at_169 (pc' := 170) rfl ?_
              refine s_if H at_170 (py := 177) (pc' := 173) l_ne (by decide) rfl (fun c170 => ?_) (fun c170 => ?_)
              · exact absurd (by rw [h_af, show (((2 : Int32) - (1 : Int32)).toInt64) = 1 from by decide]) c170
              · refine s_iconst H at_173 (z := (1 : Int32)) (by decide) (pc' := 174) rfl ?_
                refine s_goto H at_174 (pc' := 178) (by decide) ?_
                refine s_istore H at_178 (L' := fun z => #[.val (.int i0), .val (.long i1), .second, .val (.long i2), .second, .val (.int cN.toInt32), .val (.int (2 : Int32)), .val (.int (0 : Int32)), .val (.int (0 : Int32)), .val (.long lim), .second, .val (.ref a1), .val (.long af), .second, .val (.int z), .unset, .unset]) (fun _ => rfl) (pc' := 180) rfl (fun z0 hz => ?_)
                subst z0
                refine s_iload H at_180 rfl (pc' := 182) rfl ?_
                refine s_if H at_182 (py := 197) (pc' := 185) z_le (by decide) rfl (fun c182 => ?_) (fun c182 => ?_)
                · refine s_iload H at_197 rfl (pc' := 199) rfl ?_
                  refine s_iconst H at_199 (z := (1 : Int32)) (by decide) (pc' := 200) rfl ?_
                  refine s_icmp H at_200 (py := 215) (pc' := 203) q_le (by decide) rfl (fun c200 => ?_) (fun c200 => ?_)
                  · refine s_iload H at_215 rfl (pc' := 217) rfl ?_
                    refine s_iconst H at_217 (z := (2 : Int32)) (by decide) (pc' := 218) rfl ?_
                    refine s_icmp H at_218 (py := 233) (pc' := 221) q_le (by decide) rfl (fun c218 => ?_) (fun c218 => ?_)
                    · refine s_iload H at_233 rfl (pc' := 235) rfl ?_
                      refine s_if H at_235 (py := 243) (pc' := 238) z_ne (by decide) rfl (fun c235 => ?_) (fun c235 => ?_)
                      · exact absurd c235 (by decide)
                      · refine s_lload H at_238 rfl (pc' := 240) rfl ?_
                        refine s_goto H at_240 (pc' := 250) (by decide) ?_
                        refine s_lstore H at_250 (L' := fun z => #[.val (.int i0), .val (.long i1), .second, .val (.long i2), .second, .val (.int cN.toInt32), .val (.int (2 : Int32)), .val (.int (0 : Int32)), .val (.int (0 : Int32)), .val (.long lim), .second, .val (.ref a1), .val (.long af), .second, .val (.int (1 : Int32)), .val (.long z), .second]) (fun _ => rfl) (pc' := 252) rfl (fun z0 hz => ?_)
                        subst z0
                        refine s_iload H at_252 rfl (pc' := 254) rfl ?_
                        refine s_if H at_254 (py := 272) (pc' := 257) z_eq (by decide) rfl (fun c254 => ?_) (fun c254 => ?_)
                        · exact absurd c254 (by decide)
                        · refine s_aload H at_257 rfl rfl (pc' := 259) rfl ?_
                          refine s_virtual H (met_kn H.tb a1 ea4 es4 ([i1] : List Int64) f4 2 (i1 + (1 : Int64)) Kes4) at_259 (i := 1) rfl (mem (i := 26) rfl) (mem (i := 27) rfl) (mem (i := 29) rfl) (mem (i := 28) rfl) (mem (i := 7) rfl) (mem (i := 30) rfl) (by decide) pd_5 rfl (rest := []) rfl rfl (by decide) (Nat.le_of_ble_eq_true rfl) (cn' := 4) (sn' := 26) rfl rfl (by decide) (by decide) (pc' := 262) rfl (fun _ _ hq => ?_)
                          obtain ⟨rfl, rfl⟩ := hq
                          show Go Z k 4 26 ((ea4, ArL Z es4) :: (a1, Obj Z "com/example/mangrove/mangrove/MemorySlidingWindowLog$KeyLog" [("com/example/mangrove/mangrove/MemorySlidingWindowLog$KeyLog", "entries", "[J", (.ref ea4)), ("com/example/mangrove/mangrove/MemorySlidingWindowLog$KeyLog", "size", "I", (.int (2 : Nat).toInt32)), ("com/example/mangrove/mangrove/MemorySlidingWindowLog$KeyLog", "first", "I", (.int f4.toInt32))]) :: F4) 262 #[.val (.int i0), .val (.long i1), .second, .val (.long i2), .second, .val (.int cN.toInt32), .val (.int (2 : Int32)), .val (.int (0 : Int32)), .val (.int (0 : Int32)), .val (.long lim), .second, .val (.ref a1), .val (.long af), .second, .val (.int (1 : Int32)), .val (.long af), .second] [(.long (i1 + (1 : Int64)))]
                          refine s_lload H at_262 rfl (pc' := 264) rfl ?_
                          refine s_lcmp H at_264 (pc' := 265) rfl ?_
                          refine s_if H at_265 (py := 272) (pc' := 268) l_ne (by decide) rfl (fun c265 => ?_) (fun c265 => ?_)
                          · exact absurd (by rw [h_af, show (((2 : Int32) - (1 : Int32)).toInt64) = 1 from by decide]) c265
                          · refine s_iconst H at_268 (z := (1 : Int32)) (by decide) (pc' := 269) rfl ?_
                            refine s_goto H at_269 (pc' := 273) (by decide) ?_
                            exact s_iret H at_273 rfl (by simp) (by decide) (by decide) (rfl)
                    · exact absurd c218 (by decide)
                  · exact absurd c200 (by decide)
                · exact absurd c182 (by decide)
          · exact absurd c149 (by decide)
        · exact absurd c138 (by decide)
    · exact absurd c94 (by decide)
set_option maxRecDepth 65536 in
set_option maxHeartbeats 40000000 in
theorem s42_2_0_1 {Z : State} {k : Cx} {i0 : Int32} {i1 i2 : Int64} (cN : Nat) (H : Ok Z k room_1 (LQ) x code maxLocals ret) (h0 : 0 < cN) (hc : cN ≤ 3) : Go Z k 0 0 ([] : Hp) 42 #[.val (.int i0), .val (.long i1), .second, .val (.long i2), .second, .val (.int cN.toInt32), .val (.int (2 : Int32)), .val (.int (0 : Int32)), .val (.int (1 : Int32)), .unset, .unset, .unset, .unset, .unset, .unset, .unset, .unset] [] := by
  refine s_iload H at_42 rfl (pc' := 44) rfl ?_
  refine s_iload H at_44 rfl (pc' := 46) rfl ?_
  refine s_iadd H at_46 (pc' := 47) rfl ?_
  refine s_i2l H at_47 (pc' := 48) rfl ?_
  refine s_lloadn H at_48 rfl (pc' := 49) rfl ?_
  refine s_ldc2 H at_49 (mem (i := 4) rfl) (pc' := 52) rfl ?_
  refine s_land H at_52 (pc' := 53) rfl ?_
  refine s_ladd H at_53 (pc' := 54) rfl ?_
  refine s_lstore H at_54 (L' := fun z => #[.val (.int i0), .val (.long i1), .second, .val (.long i2), .second, .val (.int cN.toInt32), .val (.int (2 : Int32)), .val (.int (0 : Int32)), .val (.int (1 : Int32)), .val (.long z), .second, .unset, .unset, .unset, .unset, .unset, .unset]) (fun _ => rfl) (pc' := 56) rfl (fun lim h_lim => ?_)
  have hl : 3 ≤ lim.toInt := by
    have m := c_maskL i2 4611686018427387903 62 (by decide) (by decide)
    have s := c_ladd ((((2 : Int32) + (1 : Int32)).toInt64)) (i2 &&& 4611686018427387903)
    rw [← h_lim, show ((((2 : Int32) + (1 : Int32)).toInt64)).toInt = 3 from by decide] at s
    have rl := rng64 lim
    omega
  refine s_new H (C := "com/example/mangrove/mangrove/MemorySlidingWindowLog$KeyLog") [("com/example/mangrove/mangrove/MemorySlidingWindowLog$KeyLog", "entries", "[J", .null), ("com/example/mangrove/mangrove/MemorySlidingWindowLog$KeyLog", "size", "I", (.int (0 : Int32))), ("com/example/mangrove/mangrove/MemorySlidingWindowLog$KeyLog", "first", "I", (.int (0 : Int32)))] at_56 (mem (i := 5) rfl) (mem (i := 6) rfl) (mem (i := 7) rfl) (allC ⟨Or.inl (mem (i := 16) rfl), (.array .long), by decide, rfl⟩ (allC ⟨Or.inl (mem (i := 23) rfl), .int, by decide, rfl⟩ (allC ⟨Or.inl (mem (i := 25) rfl), .int, by decide, rfl⟩ allN))) (by decide) (cn' := 1) (sn' := 3) rfl rfl (by decide) (by decide) (pc' := 59) rfl (fun a1 => ?_)
  refine s_dup H at_59 rfl (pc' := 60) rfl ?_
  refine s_iload H at_60 rfl (pc' := 62) rfl ?_
  refine s_init H (met_ki H.tb a1 cN hc) at_62 rfl (mem (i := 8) rfl) (mem (i := 9) rfl) (mem (i := 7) rfl) (mem (i := 10) rfl) (by decide) pd_2 rfl (rest := [(.ref a1)]) rfl rfl (by decide) (Nat.le_of_ble_eq_true rfl) (cn' := 2) (sn' := 6) rfl rfl (by decide) (by decide) (pc' := 65) rfl (fun _ _ hq => ?_)
  obtain ⟨ea, rfl, rfl⟩ := hq
  show Go Z k 2 6 ((ea, ArL Z (List.replicate cN 0)) :: (a1, Obj Z "com/example/mangrove/mangrove/MemorySlidingWindowLog$KeyLog" [("com/example/mangrove/mangrove/MemorySlidingWindowLog$KeyLog", "entries", "[J", (.ref ea)), ("com/example/mangrove/mangrove/MemorySlidingWindowLog$KeyLog", "size", "I", (.int (0 : Nat).toInt32)), ("com/example/mangrove/mangrove/MemorySlidingWindowLog$KeyLog", "first", "I", (.int (0 : Nat).toInt32))]) :: []) 65 #[.val (.int i0), .val (.long i1), .second, .val (.long i2), .second, .val (.int cN.toInt32), .val (.int (2 : Int32)), .val (.int (0 : Int32)), .val (.int (1 : Int32)), .val (.long lim), .second, .unset, .unset, .unset, .unset, .unset, .unset] [(.ref a1)]
  obtain ⟨es2, he, les2, Kes2⟩ : ∃ es : List Int64, es = List.replicate cN 0 ∧ es.length = cN ∧ KL es 0 0 [] := ⟨_, rfl, by simp, KL.new (by omega) (by omega)⟩
  rw [← he]
  clear he
  show Go Z k 2 6 ((ea, ArL Z es2) :: (a1, Obj Z "com/example/mangrove/mangrove/MemorySlidingWindowLog$KeyLog" [("com/example/mangrove/mangrove/MemorySlidingWindowLog$KeyLog", "entries", "[J", (.ref ea)), ("com/example/mangrove/mangrove/MemorySlidingWindowLog$KeyLog", "size", "I", (.int (0 : Nat).toInt32)), ("com/example/mangrove/mangrove/MemorySlidingWindowLog$KeyLog", "first", "I", (.int (0 : Nat).toInt32))]) :: []) 65 #[.val (.int i0), .val (.long i1), .second, .val (.long i2), .second, .val (.int cN.toInt32), .val (.int (2 : Int32)), .val (.int (0 : Int32)), .val (.int (1 : Int32)), .val (.long lim), .second, .unset, .unset, .unset, .unset, .unset, .unset] [(.ref a1)]
  refine s_astore H at_65 (L' := #[.val (.int i0), .val (.long i1), .second, .val (.long i2), .second, .val (.int cN.toInt32), .val (.int (2 : Int32)), .val (.int (0 : Int32)), .val (.int (1 : Int32)), .val (.long lim), .second, .val (.ref a1), .unset, .unset, .unset, .unset, .unset]) rfl rfl (pc' := 67) rfl ?_
  refine s_aload H at_67 rfl rfl (pc' := 69) rfl ?_
  refine s_lloadn H at_69 rfl (pc' := 70) rfl ?_
  refine s_lload H at_70 rfl (pc' := 72) rfl ?_
  refine s_virtual H (met_ka H.tb a1 ea es2 ([] : List Int64) (0 : Nat) 0 i1 lim Kes2 (by decide) (by omega)) at_72 (i := 1) rfl (mem (i := 17) rfl) (mem (i := 18) rfl) (mem (i := 20) rfl) (mem (i := 19) rfl) (mem (i := 7) rfl) (mem (i := 21) rfl) (by decide) pd_4 rfl (rest := []) rfl rfl (by decide) (Nat.le_of_ble_eq_true rfl) (cn' := 3) (sn' := 16) rfl rfl (by decide) (by decide) (pc' := 75) rfl (fun _ _ hq => ?_)
  obtain ⟨ea3, es3, f3, F3, Kes3', rfl, rfl⟩ := hq
  show Go Z k 3 16 ((ea3, ArL Z es3) :: (a1, Obj Z "com/example/mangrove/mangrove/MemorySlidingWindowLog$KeyLog" [("com/example/mangrove/mangrove/MemorySlidingWindowLog$KeyLog", "entries", "[J", (.ref ea3)), ("com/example/mangrove/mangrove/MemorySlidingWindowLog$KeyLog", "size", "I", (.int (1 : Nat).toInt32)), ("com/example/mangrove/mangrove/MemorySlidingWindowLog$KeyLog", "first", "I", (.int f3.toInt32))]) :: F3) 75 #[.val (.int i0), .val (.long i1), .second, .val (.long i2), .second, .val (.int cN.toInt32), .val (.int (2 : Int32)), .val (.int (0 : Int32)), .val (.int (1 : Int32)), .val (.long lim), .second, .val (.ref a1), .unset, .unset, .unset, .unset, .unset] []
  have Kes3 : KL es3 f3 1 ([i1] : List Int64) := Kes3'
  refine s_iload H at_75 rfl (pc' := 77) rfl ?_
  refine s_iconst H at_77 (z := (1 : Int32)) (by decide) (pc' := 78) rfl ?_
  refine s_icmp H at_78 (py := 91) (pc' := 81) q_le (by decide) rfl (fun c78 => ?_) (fun c78 => ?_)
  · exact absurd c78 (by decide)
  · refine s_aload H at_81 rfl rfl (pc' := 83) rfl ?_
    refine s_lloadn H at_83 rfl (pc' := 84) rfl ?_
    refine s_lconst H at_84 (z := (1 : Int64)) (by decide) (pc' := 85) rfl ?_
    refine s_ladd H at_85 (pc' := 86) rfl ?_
    refine s_lload H at_86 rfl (pc' := 88) rfl ?_
    refine s_virtual H (met_ka H.tb a1 ea3 es3 ([i1] : List Int64) f3 1 (i1 + (1 : Int64)) lim Kes3 (by decide) (by omega)) at_88 (i := 1) rfl (mem (i := 17) rfl) (mem (i := 18) rfl) (mem (i := 20) rfl) (mem (i := 19) rfl) (mem (i := 7) rfl) (mem (i := 21) rfl) (by decide) pd_4 rfl (rest := []) rfl rfl (by decide) (Nat.le_of_ble_eq_true rfl) (cn' := 4) (sn' := 26) rfl rfl (by decide) (by decide) (pc' := 91) rfl (fun _ _ hq => ?_)
    obtain ⟨ea4, es4, f4, F4, Kes4', rfl, rfl⟩ := hq
    show Go Z k 4 26 ((ea4, ArL Z es4) :: (a1, Obj Z "com/example/mangrove/mangrove/MemorySlidingWindowLog$KeyLog" [("com/example/mangrove/mangrove/MemorySlidingWindowLog$KeyLog", "entries", "[J", (.ref ea4)), ("com/example/mangrove/mangrove/MemorySlidingWindowLog$KeyLog", "size", "I", (.int (2 : Nat).toInt32)), ("com/example/mangrove/mangrove/MemorySlidingWindowLog$KeyLog", "first", "I", (.int f4.toInt32))]) :: F4) 91 #[.val (.int i0), .val (.long i1), .second, .val (.long i2), .second, .val (.int cN.toInt32), .val (.int (2 : Int32)), .val (.int (0 : Int32)), .val (.int (1 : Int32)), .val (.long lim), .second, .val (.ref a1), .unset, .unset, .unset, .unset, .unset] []
    have Kes4 : KL es4 f4 2 ([i1, (i1 + (1 : Int64))] : List Int64) := Kes4'
    refine s_iload H at_91 rfl (pc' := 93) rfl ?_
    refine s_iconst H at_93 (z := (2 : Int32)) (by decide) (pc' := 94) rfl ?_
    refine s_icmp H at_94 (py := 109) (pc' := 97) q_le (by decide) rfl (fun c94 => ?_) (fun c94 => ?_)
    · refine s_lloadn H at_109 rfl (pc' := 110) rfl ?_
      refine s_iload H at_110 rfl (pc' := 112) rfl ?_
      refine s_iconst H at_112 (z := (1 : Int32)) (by decide) (pc' := 113) rfl ?_
      refine s_isub H at_113 (pc' := 114) rfl ?_
      refine s_i2l H at_114 (pc' := 115) rfl ?_
      refine s_ladd H at_115 (pc' := 116) rfl ?_
      refine s_lstore H at_116 (L' := fun z => #[.val (.int i0), .val (.long i1), .second, .val (.long i2), .second, .val (.int cN.toInt32), .val (.int (2 : Int32)), .val (.int (0 : Int32)), .val (.int (1 : Int32)), .val (.long lim), .second, .val (.ref a1), .val (.long z), .second, .unset, .unset, .unset]) (fun _ => rfl) (pc' := 118) rfl (fun af h_af => ?_)
      refine s_aload H at_118 rfl rfl (pc' := 120) rfl ?_
      refine s_virtual H (met_kn H.tb a1 ea4 es4 ([i1] : List Int64) f4 2 (i1 + (1 : Int64)) Kes4) at_120 (i := 1) rfl (mem (i := 26) rfl) (mem (i := 27) rfl) (mem (i := 29) rfl) (mem (i := 28) rfl) (mem (i := 7) rfl) (mem (i := 30) rfl) (by decide) pd_5 rfl (rest := []) rfl rfl (by decide) (Nat.le_of_ble_eq_true rfl) (cn' := 4) (sn' := 26) rfl rfl (by decide) (by decide) (pc' := 123) rfl (fun _ _ hq => ?_)
      obtain ⟨rfl, rfl⟩ := hq
      show Go Z k 4 26 ((ea4, ArL Z es4) :: (a1, Obj Z "com/example/mangrove/mangrove/MemorySlidingWindowLog$KeyLog" [("com/example/mangrove/mangrove/MemorySlidingWindowLog$KeyLog", "entries", "[J", (.ref ea4)), ("com/example/mangrove/mangrove/MemorySlidingWindowLog$KeyLog", "size", "I", (.int (2 : Nat).toInt32)), ("com/example/mangrove/mangrove/MemorySlidingWindowLog$KeyLog", "first", "I", (.int f4.toInt32))]) :: F4) 123 #[.val (.int i0), .val (.long i1), .second, .val (.long i2), .second, .val (.int cN.toInt32), .val (.int (2 : Int32)), .val (.int (0 : Int32)), .val (.int (1 : Int32)), .val (.long lim), .second, .val (.ref a1), .val (.long af), .second, .unset, .unset, .unset] [(.long (i1 + (1 : Int64)))]
      refine s_lload H at_123 rfl (pc' := 125) rfl ?_
      refine s_lcmp H at_125 (pc' := 126) rfl ?_
      refine s_if H at_126 (py := 133) (pc' := 129) l_ne (by decide) rfl (fun c126 => ?_) (fun c126 => ?_)
      · exact absurd (by rw [h_af, show (((2 : Int32) - (1 : Int32)).toInt64) = 1 from by decide]) c126
      · refine s_iconst H at_129 (z := (1 : Int32)) (by decide) (pc' := 130) rfl ?_
        refine s_goto H at_130 (pc' := 134) (by decide) ?_
        refine s_istore H at_134 (L' := fun z => #[.val (.int i0), .val (.long i1), .second, .val (.long i2), .second, .val (.int cN.toInt32), .val (.int (2 : Int32)), .val (.int (0 : Int32)), .val (.int (1 : Int32)), .val (.long lim), .second, .val (.ref a1), .val (.long af), .second, .val (.int z), .unset, .unset]) (fun _ => rfl) (pc' := 136) rfl (fun z0 hz => ?_)
        subst z0
        refine s_iload H at_136 rfl (pc' := 138) rfl ?_
        refine s_if H at_138 (py := 146) (pc' := 141) z_le (by decide) rfl (fun c138 => ?_) (fun c138 => ?_)
        · refine s_iload H at_146 rfl (pc' := 148) rfl ?_
          refine s_iconst H at_148 (z := (1 : Int32)) (by decide) (pc' := 149) rfl ?_
          refine s_icmp H at_149 (py := 157) (pc' := 152) q_le (by decide) rfl (fun c149 => ?_) (fun c149 => ?_)
          · refine s_iload H at_157 rfl (pc' := 159) rfl ?_
            refine s_if H at_159 (py := 177) (pc' := 162) z_eq (by decide) rfl (fun c159 => ?_) (fun c159 => ?_)
            · exact absurd c159 (by decide)
            · refine s_aload H at_162 rfl rfl (pc' := 164) rfl ?_
              refine s_virtual H (met_kn H.tb a1 ea4 es4 ([i1] : List Int64) f4 2 (i1 + (1 : Int64)) Kes4) at_164 (i := 1) rfl (mem (i := 26) rfl) (mem (i := 27) rfl) (mem (i := 29) rfl) (mem (i := 28) rfl) (mem (i := 7) rfl) (mem (i := 30) rfl) (by decide) pd_5 rfl (rest := []) rfl rfl (by decide) (Nat.le_of_ble_eq_true rfl) (cn' := 4) (sn' := 26) rfl rfl (by decide) (by decide) (pc' := 167) rfl (fun _ _ hq => ?_)
              obtain ⟨rfl, rfl⟩ := hq
              show Go Z k 4 26 ((ea4, ArL Z es4) :: (a1, Obj Z "com/example/mangrove/mangrove/MemorySlidingWindowLog$KeyLog" [("com/example/mangrove/mangrove/MemorySlidingWindowLog$KeyLog", "entries", "[J", (.ref ea4)), ("com/example/mangrove/mangrove/MemorySlidingWindowLog$KeyLog", "size", "I", (.int (2 : Nat).toInt32)), ("com/example/mangrove/mangrove/MemorySlidingWindowLog$KeyLog", "first", "I", (.int f4.toInt32))]) :: F4) 167 #[.val (.int i0), .val (.long i1), .second, .val (.long i2), .second, .val (.int cN.toInt32), .val (.int (2 : Int32)), .val (.int (0 : Int32)), .val (.int (1 : Int32)), .val (.long lim), .second, .val (.ref a1), .val (.long af), .second, .val (.int (1 : Int32)), .unset, .unset] [(.long (i1 + (1 : Int64)))]
              refine s_lload H at_167 rfl (pc' := 169) rfl ?_
              refine s_lcmp H at_169 (pc' := 170) rfl ?_
              refine s_if H at_170 (py := 177) (pc' := 173) l_ne (by decide) rfl (fun c170 => ?_) (fun c170 => ?_)
              · exact absurd (by rw [h_af, show (((2 : Int32) - (1 : Int32)).toInt64) = 1 from by decide]) c170
              · refine s_iconst H at_173 (z := (1 : Int32)) (by decide) (pc' := 174) rfl ?_
                refine s_goto H at_174 (pc' := 178) (by decide) ?_
                refine s_istore H at_178 (L' := fun z => #[.val (.int i0), .val (.long i1), .second, .val (.long i2), .second, .val (.int cN.toInt32), .val (.int (2 : Int32)), .val (.int (0 : Int32)), .val (.int (1 : Int32)), .val (.long lim), .second, .val (.ref a1), .val (.long af), .second, .val (.int z), .unset, .unset]) (fun _ => rfl) (pc' := 180) rfl (fun z0 hz => ?_)
                subst z0
                refine s_iload H at_180 rfl (pc' := 182) rfl ?_
                refine s_if H at_182 (py := 197) (pc' := 185) z_le (by decide) rfl (fun c182 => ?_) (fun c182 => ?_)
                · exact absurd c182 (by decide)
                · refine s_aload H at_185 rfl rfl (pc' := 187) rfl ?_
                  refine s_lloadn H at_187 rfl (pc' := 188) rfl ?_
                  refine s_ldc2 H at_188 (mem (i := 46) rfl) (pc' := 191) rfl ?_
                  refine s_ladd H at_191 (pc' := 192) rfl ?_
                  refine s_lload H at_192 rfl (pc' := 194) rfl ?_
                  refine s_virtual H (met_ka H.tb a1 ea4 es4 ([i1, (i1 + (1 : Int64))] : List Int64) f4 2 (i1 + (3 : Int64)) lim Kes4 (by decide) (by omega)) at_194 (i := 1) rfl (mem (i := 17) rfl) (mem (i := 18) rfl) (mem (i := 20) rfl) (mem (i := 19) rfl) (mem (i := 7) rfl) (mem (i := 21) rfl) (by decide) pd_4 rfl (rest := []) rfl rfl (by decide) (Nat.le_of_ble_eq_true rfl) (cn' := 5) (sn' := 36) rfl rfl (by decide) (by decide) (pc' := 197) rfl (fun _ _ hq => ?_)
                  obtain ⟨ea5, es5, f5, F5, Kes5', rfl, rfl⟩ := hq
                  show Go Z k 5 36 ((ea5, ArL Z es5) :: (a1, Obj Z "com/example/mangrove/mangrove/MemorySlidingWindowLog$KeyLog" [("com/example/mangrove/mangrove/MemorySlidingWindowLog$KeyLog", "entries", "[J", (.ref ea5)), ("com/example/mangrove/mangrove/MemorySlidingWindowLog$KeyLog", "size", "I", (.int (3 : Nat).toInt32)), ("com/example/mangrove/mangrove/MemorySlidingWindowLog$KeyLog", "first", "I", (.int f5.toInt32))]) :: F5) 197 #[.val (.int i0), .val (.long i1), .second, .val (.long i2), .second, .val (.int cN.toInt32), .val (.int (2 : Int32)), .val (.int (0 : Int32)), .val (.int (1 : Int32)), .val (.long lim), .second, .val (.ref a1), .val (.long af), .second, .val (.int (1 : Int32)), .unset, .unset] []
                  have Kes5 : KL es5 f5 3 ([i1, (i1 + (1 : Int64)), (i1 + (3 : Int64))] : List Int64) := Kes5'
                  refine s_iload H at_197 rfl (pc' := 199) rfl ?_
                  refine s_iconst H at_199 (z := (1 : Int32)) (by decide) (pc' := 200) rfl ?_
                  refine s_icmp H at_200 (py := 215) (pc' := 203) q_le (by decide) rfl (fun c200 => ?_) (fun c200 => ?_)
                  · refine s_iload H at_215 rfl (pc' := 217) rfl ?_
                    refine s_iconst H at_217 (z := (2 : Int32)) (by decide) (pc' := 218) rfl ?_
                    refine s_icmp H at_218 (py := 233) (pc' := 221) q_le (by decide) rfl (fun c218 => ?_) (fun c218 => ?_)
                    · refine s_iload H at_233 rfl (pc' := 235) rfl ?_
                      refine s_if H at_235 (py := 243) (pc' := 238) z_ne (by decide) rfl (fun c235 => ?_) (fun c235 => ?_)
                      · refine s_lloadn H at_243 rfl (pc' := 244) rfl ?_
                        refine s_iconst H at_244 (z := (2 : Int32)) (by decide) (pc' := 245) rfl ?_
                        refine s_iload H at_245 rfl (pc' := 247) rfl ?_
                        refine s_iadd H at_247 (pc' := 248) rfl ?_
                        refine s_i2l H at_248 (pc' := 249) rfl ?_
                        refine s_ladd H at_249 (pc' := 250) rfl ?_
                        refine s_lstore H at_250 (L' := fun z => #[.val (.int i0), .val (.long i1), .second, .val (.long i2), .second, .val (.int cN.toInt32), .val (.int (2 : Int32)), .val (.int (0 : Int32)), .val (.int (1 : Int32)), .val (.long lim), .second, .val (.ref a1), .val (.long af), .second, .val (.int (1 : Int32)), .val (.long z), .second]) (fun _ => rfl) (pc' := 252) rfl (fun la h_la => ?_)
                        refine s_iload H at_252 rfl (pc' := 254) rfl ?_
                        refine s_if H at_254 (py := 272) (pc' := 257) z_eq (by decide) rfl (fun c254 => ?_) (fun c254 => ?_)
                        · exact absurd c254 (by decide)
                        · refine s_aload H at_257 rfl rfl (pc' := 259) rfl ?_
                          refine s_virtual H (met_kn H.tb a1 ea5 es5 ([i1, (i1 + (1 : Int64))] : List Int64) f5 3 (i1 + (3 : Int64)) Kes5) at_259 (i := 1) rfl (mem (i := 26) rfl) (mem (i := 27) rfl) (mem (i := 29) rfl) (mem (i := 28) rfl) (mem (i := 7) rfl) (mem (i := 30) rfl) (by decide) pd_5 rfl (rest := []) rfl rfl (by decide) (Nat.le_of_ble_eq_true rfl) (cn' := 5) (sn' := 36) rfl rfl (by decide) (by decide) (pc' := 262) rfl (fun _ _ hq => ?_)
                          obtain ⟨rfl, rfl⟩ := hq
                          show Go Z k 5 36 ((ea5, ArL Z es5) :: (a1, Obj Z "com/example/mangrove/mangrove/MemorySlidingWindowLog$KeyLog" [("com/example/mangrove/mangrove/MemorySlidingWindowLog$KeyLog", "entries", "[J", (.ref ea5)), ("com/example/mangrove/mangrove/MemorySlidingWindowLog$KeyLog", "size", "I", (.int (3 : Nat).toInt32)), ("com/example/mangrove/mangrove/MemorySlidingWindowLog$KeyLog", "first", "I", (.int f5.toInt32))]) :: F5) 262 #[.val (.int i0), .val (.long i1), .second, .val (.long i2), .second, .val (.int cN.toInt32), .val (.int (2 : Int32)), .val (.int (0 : Int32)), .val (.int (1 : Int32)), .val (.long lim), .second, .val (.ref a1), .val (.long af), .second, .val (.int (1 : Int32)), .val (.long la), .second] [(.long (i1 + (3 : Int64)))]
                          refine s_lload H at_262 rfl (pc' := 264) rfl ?_
                          refine s_lcmp H at_264 (pc' := 265) rfl ?_
                          refine s_if H at_265 (py := 272) (pc' := 268) l_ne (by decide) rfl (fun c265 => ?_) (fun c265 => ?_)
                          · exact absurd (by rw [h_la, show (((2 : Int32) + (1 : Int32)).toInt64) = 3 from by decide]) c265
                          · refine s_iconst H at_268 (z := (1 : Int32)) (by decide) (pc' := 269) rfl ?_
                            refine s_goto H at_269 (pc' := 273) (by decide) ?_
                            exact s_iret H at_273 rfl (by simp) (by decide) (by decide) (rfl)
                      · exact absurd c235 (by decide)
                    · exact absurd c218 (by decide)
                  · exact absurd c200 (by decide)
          · exact absurd c149 (by decide)
        · exact absurd c138 (by decide)
    · exact absurd c94 (by decide)
set_option maxRecDepth 65536 in
set_option maxHeartbeats 40000000 in
theorem s42_2_0_2 {Z : State} {k : Cx} {i0 : Int32} {i1 i2 : Int64} (cN : Nat) (H : Ok Z k room_1 (LQ) x code maxLocals ret) (h0 : 0 < cN) (hc : cN ≤ 3) : Go Z k 0 0 ([] : Hp) 42 #[.val (.int i0), .val (.long i1), .second, .val (.long i2), .second, .val (.int cN.toInt32), .val (.int (2 : Int32)), .val (.int (0 : Int32)), .val (.int (2 : Int32)), .unset, .unset, .unset, .unset, .unset, .unset, .unset, .unset] [] := by
  refine s_iload H at_42 rfl (pc' := 44) rfl ?_
  refine s_iload H at_44 rfl (pc' := 46) rfl ?_
  refine s_iadd H at_46 (pc' := 47) rfl ?_
  refine s_i2l H at_47 (pc' := 48) rfl ?_
  refine s_lloadn H at_48 rfl (pc' := 49) rfl ?_
  refine s_ldc2 H at_49 (mem (i := 4) rfl) (pc' := 52) rfl ?_
  refine s_land H at_52 (pc' := 53) rfl ?_
  refine s_ladd H at_53 (pc' := 54) rfl ?_
  refine s_lstore H at_54 (L' := fun z => #[.val (.int i0), .val (.long i1), .second, .val (.long i2), .second, .val (.int cN.toInt32), .val (.int (2 : Int32)), .val (.int (0 : Int32)), .val (.int (2 : Int32)), .val (.long z), .second, .unset, .unset, .unset, .unset, .unset, .unset]) (fun _ => rfl) (pc' := 56) rfl (fun lim h_lim => ?_)
  have hl : 4 ≤ lim.toInt := by
    have m := c_maskL i2 4611686018427387903 62 (by decide) (by decide)
    have s := c_ladd ((((2 : Int32) + (2 : Int32)).toInt64)) (i2 &&& 4611686018427387903)
    rw [← h_lim, show ((((2 : Int32) + (2 : Int32)).toInt64)).toInt = 4 from by decide] at s
    have rl := rng64 lim
    omega
  refine s_new H (C := "com/example/mangrove/mangrove/MemorySlidingWindowLog$KeyLog") [("com/example/mangrove/mangrove/MemorySlidingWindowLog$KeyLog", "entries", "[J", .null), ("com/example/mangrove/mangrove/MemorySlidingWindowLog$KeyLog", "size", "I", (.int (0 : Int32))), ("com/example/mangrove/mangrove/MemorySlidingWindowLog$KeyLog", "first", "I", (.int (0 : Int32)))] at_56 (mem (i := 5) rfl) (mem (i := 6) rfl) (mem (i := 7) rfl) (allC ⟨Or.inl (mem (i := 16) rfl), (.array .long), by decide, rfl⟩ (allC ⟨Or.inl (mem (i := 23) rfl), .int, by decide, rfl⟩ (allC ⟨Or.inl (mem (i := 25) rfl), .int, by decide, rfl⟩ allN))) (by decide) (cn' := 1) (sn' := 3) rfl rfl (by decide) (by decide) (pc' := 59) rfl (fun a1 => ?_)
  refine s_dup H at_59 rfl (pc' := 60) rfl ?_
  refine s_iload H at_60 rfl (pc' := 62) rfl ?_
  refine s_init H (met_ki H.tb a1 cN hc) at_62 rfl (mem (i := 8) rfl) (mem (i := 9) rfl) (mem (i := 7) rfl) (mem (i := 10) rfl) (by decide) pd_2 rfl (rest := [(.ref a1)]) rfl rfl (by decide) (Nat.le_of_ble_eq_true rfl) (cn' := 2) (sn' := 6) rfl rfl (by decide) (by decide) (pc' := 65) rfl (fun _ _ hq => ?_)
  obtain ⟨ea, rfl, rfl⟩ := hq
  show Go Z k 2 6 ((ea, ArL Z (List.replicate cN 0)) :: (a1, Obj Z "com/example/mangrove/mangrove/MemorySlidingWindowLog$KeyLog" [("com/example/mangrove/mangrove/MemorySlidingWindowLog$KeyLog", "entries", "[J", (.ref ea)), ("com/example/mangrove/mangrove/MemorySlidingWindowLog$KeyLog", "size", "I", (.int (0 : Nat).toInt32)), ("com/example/mangrove/mangrove/MemorySlidingWindowLog$KeyLog", "first", "I", (.int (0 : Nat).toInt32))]) :: []) 65 #[.val (.int i0), .val (.long i1), .second, .val (.long i2), .second, .val (.int cN.toInt32), .val (.int (2 : Int32)), .val (.int (0 : Int32)), .val (.int (2 : Int32)), .val (.long lim), .second, .unset, .unset, .unset, .unset, .unset, .unset] [(.ref a1)]
  obtain ⟨es2, he, les2, Kes2⟩ : ∃ es : List Int64, es = List.replicate cN 0 ∧ es.length = cN ∧ KL es 0 0 [] := ⟨_, rfl, by simp, KL.new (by omega) (by omega)⟩
  rw [← he]
  clear he
  show Go Z k 2 6 ((ea, ArL Z es2) :: (a1, Obj Z "com/example/mangrove/mangrove/MemorySlidingWindowLog$KeyLog" [("com/example/mangrove/mangrove/MemorySlidingWindowLog$KeyLog", "entries", "[J", (.ref ea)), ("com/example/mangrove/mangrove/MemorySlidingWindowLog$KeyLog", "size", "I", (.int (0 : Nat).toInt32)), ("com/example/mangrove/mangrove/MemorySlidingWindowLog$KeyLog", "first", "I", (.int (0 : Nat).toInt32))]) :: []) 65 #[.val (.int i0), .val (.long i1), .second, .val (.long i2), .second, .val (.int cN.toInt32), .val (.int (2 : Int32)), .val (.int (0 : Int32)), .val (.int (2 : Int32)), .val (.long lim), .second, .unset, .unset, .unset, .unset, .unset, .unset] [(.ref a1)]
  refine s_astore H at_65 (L' := #[.val (.int i0), .val (.long i1), .second, .val (.long i2), .second, .val (.int cN.toInt32), .val (.int (2 : Int32)), .val (.int (0 : Int32)), .val (.int (2 : Int32)), .val (.long lim), .second, .val (.ref a1), .unset, .unset, .unset, .unset, .unset]) rfl rfl (pc' := 67) rfl ?_
  refine s_aload H at_67 rfl rfl (pc' := 69) rfl ?_
  refine s_lloadn H at_69 rfl (pc' := 70) rfl ?_
  refine s_lload H at_70 rfl (pc' := 72) rfl ?_
  refine s_virtual H (met_ka H.tb a1 ea es2 ([] : List Int64) (0 : Nat) 0 i1 lim Kes2 (by decide) (by omega)) at_72 (i := 1) rfl (mem (i := 17) rfl) (mem (i := 18) rfl) (mem (i := 20) rfl) (mem (i := 19) rfl) (mem (i := 7) rfl) (mem (i := 21) rfl) (by decide) pd_4 rfl (rest := []) rfl rfl (by decide) (Nat.le_of_ble_eq_true rfl) (cn' := 3) (sn' := 16) rfl rfl (by decide) (by decide) (pc' := 75) rfl (fun _ _ hq => ?_)
  obtain ⟨ea3, es3, f3, F3, Kes3', rfl, rfl⟩ := hq
  show Go Z k 3 16 ((ea3, ArL Z es3) :: (a1, Obj Z "com/example/mangrove/mangrove/MemorySlidingWindowLog$KeyLog" [("com/example/mangrove/mangrove/MemorySlidingWindowLog$KeyLog", "entries", "[J", (.ref ea3)), ("com/example/mangrove/mangrove/MemorySlidingWindowLog$KeyLog", "size", "I", (.int (1 : Nat).toInt32)), ("com/example/mangrove/mangrove/MemorySlidingWindowLog$KeyLog", "first", "I", (.int f3.toInt32))]) :: F3) 75 #[.val (.int i0), .val (.long i1), .second, .val (.long i2), .second, .val (.int cN.toInt32), .val (.int (2 : Int32)), .val (.int (0 : Int32)), .val (.int (2 : Int32)), .val (.long lim), .second, .val (.ref a1), .unset, .unset, .unset, .unset, .unset] []
  have Kes3 : KL es3 f3 1 ([i1] : List Int64) := Kes3'
  refine s_iload H at_75 rfl (pc' := 77) rfl ?_
  refine s_iconst H at_77 (z := (1 : Int32)) (by decide) (pc' := 78) rfl ?_
  refine s_icmp H at_78 (py := 91) (pc' := 81) q_le (by decide) rfl (fun c78 => ?_) (fun c78 => ?_)
  · exact absurd c78 (by decide)
  · refine s_aload H at_81 rfl rfl (pc' := 83) rfl ?_
    refine s_lloadn H at_83 rfl (pc' := 84) rfl ?_
    refine s_lconst H at_84 (z := (1 : Int64)) (by decide) (pc' := 85) rfl ?_
    refine s_ladd H at_85 (pc' := 86) rfl ?_
    refine s_lload H at_86 rfl (pc' := 88) rfl ?_
    refine s_virtual H (met_ka H.tb a1 ea3 es3 ([i1] : List Int64) f3 1 (i1 + (1 : Int64)) lim Kes3 (by decide) (by omega)) at_88 (i := 1) rfl (mem (i := 17) rfl) (mem (i := 18) rfl) (mem (i := 20) rfl) (mem (i := 19) rfl) (mem (i := 7) rfl) (mem (i := 21) rfl) (by decide) pd_4 rfl (rest := []) rfl rfl (by decide) (Nat.le_of_ble_eq_true rfl) (cn' := 4) (sn' := 26) rfl rfl (by decide) (by decide) (pc' := 91) rfl (fun _ _ hq => ?_)
    obtain ⟨ea4, es4, f4, F4, Kes4', rfl, rfl⟩ := hq
    show Go Z k 4 26 ((ea4, ArL Z es4) :: (a1, Obj Z "com/example/mangrove/mangrove/MemorySlidingWindowLog$KeyLog" [("com/example/mangrove/mangrove/MemorySlidingWindowLog$KeyLog", "entries", "[J", (.ref ea4)), ("com/example/mangrove/mangrove/MemorySlidingWindowLog$KeyLog", "size", "I", (.int (2 : Nat).toInt32)), ("com/example/mangrove/mangrove/MemorySlidingWindowLog$KeyLog", "first", "I", (.int f4.toInt32))]) :: F4) 91 #[.val (.int i0), .val (.long i1), .second, .val (.long i2), .second, .val (.int cN.toInt32), .val (.int (2 : Int32)), .val (.int (0 : Int32)), .val (.int (2 : Int32)), .val (.long lim), .second, .val (.ref a1), .unset, .unset, .unset, .unset, .unset] []
    have Kes4 : KL es4 f4 2 ([i1, (i1 + (1 : Int64))] : List Int64) := Kes4'
    refine s_iload H at_91 rfl (pc' := 93) rfl ?_
    refine s_iconst H at_93 (z := (2 : Int32)) (by decide) (pc' := 94) rfl ?_
    refine s_icmp H at_94 (py := 109) (pc' := 97) q_le (by decide) rfl (fun c94 => ?_) (fun c94 => ?_)
    · refine s_lloadn H at_109 rfl (pc' := 110) rfl ?_
      refine s_iload H at_110 rfl (pc' := 112) rfl ?_
      refine s_iconst H at_112 (z := (1 : Int32)) (by decide) (pc' := 113) rfl ?_
      refine s_isub H at_113 (pc' := 114) rfl ?_
      refine s_i2l H at_114 (pc' := 115) rfl ?_
      refine s_ladd H at_115 (pc' := 116) rfl ?_
      refine s_lstore H at_116 (L' := fun z => #[.val (.int i0), .val (.long i1), .second, .val (.long i2), .second, .val (.int cN.toInt32), .val (.int (2 : Int32)), .val (.int (0 : Int32)), .val (.int (2 : Int32)), .val (.long lim), .second, .val (.ref a1), .val (.long z), .second, .unset, .unset, .unset]) (fun _ => rfl) (pc' := 118) rfl (fun af h_af => ?_)
      refine s_aload H at_118 rfl rfl (pc' := 120) rfl ?_
      refine s_virtual H (met_kn H.tb a1 ea4 es4 ([i1] : List Int64) f4 2 (i1 + (1 : Int64)) Kes4) at_120 (i := 1) rfl (mem (i := 26) rfl) (mem (i := 27) rfl) (mem (i := 29) rfl) (mem (i := 28) rfl) (mem (i := 7) rfl) (mem (i := 30) rfl) (by decide) pd_5 rfl (rest := []) rfl rfl (by decide) (Nat.le_of_ble_eq_true rfl) (cn' := 4) (sn' := 26) rfl rfl (by decide) (by decide) (pc' := 123) rfl (fun _ _ hq => ?_)
      obtain ⟨rfl, rfl⟩ := hq
      show Go Z k 4 26 ((ea4, ArL Z es4) :: (a1, Obj Z "com/example/mangrove/mangrove/MemorySlidingWindowLog$KeyLog" [("com/example/mangrove/mangrove/MemorySlidingWindowLog$KeyLog", "entries", "[J", (.ref ea4)), ("com/example/mangrove/mangrove/MemorySlidingWindowLog$KeyLog", "size", "I", (.int (2 : Nat).toInt32)), ("com/example/mangrove/mangrove/MemorySlidingWindowLog$KeyLog", "first", "I", (.int f4.toInt32))]) :: F4) 123 #[.val (.int i0), .val (.long i1), .second, .val (.long i2), .second, .val (.int cN.toInt32), .val (.int (2 : Int32)), .val (.int (0 : Int32)), .val (.int (2 : Int32)), .val (.long lim), .second, .val (.ref a1), .val (.long af), .second, .unset, .unset, .unset] [(.long (i1 + (1 : Int64)))]
      refine s_lload H at_123 rfl (pc' := 125) rfl ?_
      refine s_lcmp H at_125 (pc' := 126) rfl ?_
      refine s_if H at_126 (py := 133) (pc' := 129) l_ne (by decide) rfl (fun c126 => ?_) (fun c126 => ?_)
      · exact absurd (by rw [h_af, show (((2 : Int32) - (1 : Int32)).toInt64) = 1 from by decide]) c126
      · refine s_iconst H at_129 (z := (1 : Int32)) (by decide) (pc' := 130) rfl ?_
        refine s_goto H at_130 (pc' := 134) (by decide) ?_
        refine s_istore H at_134 (L' := fun z => #[.val (.int i0), .val (.long i1), .second, .val (.long i2), .second, .val (.int cN.toInt32), .val (.int (2 : Int32)), .val (.int (0 : Int32)), .val (.int (2 : Int32)), .val (.long lim), .second, .val (.ref a1), .val (.long af), .second, .val (.int z), .unset, .unset]) (fun _ => rfl) (pc' := 136) rfl (fun z0 hz => ?_)
        subst z0
        refine s_iload H at_136 rfl (pc' := 138) rfl ?_
        refine s_if H at_138 (py := 146) (pc' := 141) z_le (by decide) rfl (fun c138 => ?_) (fun c138 => ?_)
        · refine s_iload H at_146 rfl (pc' := 148) rfl ?_
          refine s_iconst H at_148 (z := (1 : Int32)) (by decide) (pc' := 149) rfl ?_
          refine s_icmp H at_149 (py := 157) (pc' := 152) q_le (by decide) rfl (fun c149 => ?_) (fun c149 => ?_)
          · refine s_iload H at_157 rfl (pc' := 159) rfl ?_
            refine s_if H at_159 (py := 177) (pc' := 162) z_eq (by decide) rfl (fun c159 => ?_) (fun c159 => ?_)
            · exact absurd c159 (by decide)
            · refine s_aload H at_162 rfl rfl (pc' := 164) rfl ?_
              refine s_virtual H (met_kn H.tb a1 ea4 es4 ([i1] : List Int64) f4 2 (i1 + (1 : Int64)) Kes4) at_164 (i := 1) rfl (mem (i := 26) rfl) (mem (i := 27) rfl) (mem (i := 29) rfl) (mem (i := 28) rfl) (mem (i := 7) rfl) (mem (i := 30) rfl) (by decide) pd_5 rfl (rest := []) rfl rfl (by decide) (Nat.le_of_ble_eq_true rfl) (cn' := 4) (sn' := 26) rfl rfl (by decide) (by decide) (pc' := 167) rfl (fun _ _ hq => ?_)
              obtain ⟨rfl, rfl⟩ := hq
              show Go Z k 4 26 ((ea4, ArL Z es4) :: (a1, Obj Z "com/example/mangrove/mangrove/MemorySlidingWindowLog$KeyLog" [("com/example/mangrove/mangrove/MemorySlidingWindowLog$KeyLog", "entries", "[J", (.ref ea4)), ("com/example/mangrove/mangrove/MemorySlidingWindowLog$KeyLog", "size", "I", (.int (2 : Nat).toInt32)), ("com/example/mangrove/mangrove/MemorySlidingWindowLog$KeyLog", "first", "I", (.int f4.toInt32))]) :: F4) 167 #[.val (.int i0), .val (.long i1), .second, .val (.long i2), .second, .val (.int cN.toInt32), .val (.int (2 : Int32)), .val (.int (0 : Int32)), .val (.int (2 : Int32)), .val (.long lim), .second, .val (.ref a1), .val (.long af), .second, .val (.int (1 : Int32)), .unset, .unset] [(.long (i1 + (1 : Int64)))]
              refine s_lload H at_167 rfl (pc' := 169) rfl ?_
              refine s_lcmp H at_169 (pc' := 170) rfl ?_
              refine s_if H at_170 (py := 177) (pc' := 173) l_ne (by decide) rfl (fun c170 => ?_) (fun c170 => ?_)
              · exact absurd (by rw [h_af, show (((2 : Int32) - (1 : Int32)).toInt64) = 1 from by decide]) c170
              · refine s_iconst H at_173 (z := (1 : Int32)) (by decide) (pc' := 174) rfl ?_
                refine s_goto H at_174 (pc' := 178) (by decide) ?_
                refine s_istore H at_178 (L' := fun z => #[.val (.int i0), .val (.long i1), .second, .val (.long i2), .second, .val (.int cN.toInt32), .val (.int (2 : Int32)), .val (.int (0 : Int32)), .val (.int (2 : Int32)), .val (.long lim), .second, .val (.ref a1), .val (.long af), .second, .val (.int z), .unset, .unset]) (fun _ => rfl) (pc' := 180) rfl (fun z0 hz => ?_)
                subst z0
                refine s_iload H at_180 rfl (pc' := 182) rfl ?_
                refine s_if H at_182 (py := 197) (pc' := 185) z_le (by decide) rfl (fun c182 => ?_) (fun c182 => ?_)
                · exact absurd c182 (by decide)
                · refine s_aload H at_185 rfl rfl (pc' := 187) rfl ?_
                  refine s_lloadn H at_187 rfl (pc' := 188) rfl ?_
                  refine s_ldc2 H at_188 (mem (i := 46) rfl) (pc' := 191) rfl ?_
                  refine s_ladd H at_191 (pc' := 192) rfl ?_
                  refine s_lload H at_192 rfl (pc' := 194) rfl ?_
                  refine s_virtual H (met_ka H.tb a1 ea4 es4 ([i1, (i1 + (1 : Int64))] : List Int64) f4 2 (i1 + (3 : Int64)) lim Kes4 (by decide) (by omega)) at_194 (i := 1) rfl (mem (i := 17) rfl) (mem (i := 18) rfl) (mem (i := 20) rfl) (mem (i := 19) rfl) (mem (i := 7) rfl) (mem (i := 21) rfl) (by decide) pd_4 rfl (rest := []) rfl rfl (by decide) (Nat.le_of_ble_eq_true rfl) (cn' := 5) (sn' := 36) rfl rfl (by decide) (by decide) (pc' := 197) rfl (fun _ _ hq => ?_)
                  obtain ⟨ea5, es5, f5, F5, Kes5', rfl, rfl⟩ := hq
                  show Go Z k 5 36 ((ea5, ArL Z es5) :: (a1, Obj Z "com/example/mangrove/mangrove/MemorySlidingWindowLog$KeyLog" [("com/example/mangrove/mangrove/MemorySlidingWindowLog$KeyLog", "entries", "[J", (.ref ea5)), ("com/example/mangrove/mangrove/MemorySlidingWindowLog$KeyLog", "size", "I", (.int (3 : Nat).toInt32)), ("com/example/mangrove/mangrove/MemorySlidingWindowLog$KeyLog", "first", "I", (.int f5.toInt32))]) :: F5) 197 #[.val (.int i0), .val (.long i1), .second, .val (.long i2), .second, .val (.int cN.toInt32), .val (.int (2 : Int32)), .val (.int (0 : Int32)), .val (.int (2 : Int32)), .val (.long lim), .second, .val (.ref a1), .val (.long af), .second, .val (.int (1 : Int32)), .unset, .unset] []
                  have Kes5 : KL es5 f5 3 ([i1, (i1 + (1 : Int64)), (i1 + (3 : Int64))] : List Int64) := Kes5'
                  refine s_iload H at_197 rfl (pc' := 199) rfl ?_
                  refine s_iconst H at_199 (z := (1 : Int32)) (by decide) (pc' := 200) rfl ?_
                  refine s_icmp H at_200 (py := 215) (pc' := 203) q_le (by decide) rfl (fun c200 => ?_) (fun c200 => ?_)
                  · exact absurd c200 (by decide)
                  · refine s_aload H at_203 rfl rfl (pc' := 205) rfl ?_
                    refine s_lloadn H at_205 rfl (pc' := 206) rfl ?_
                    refine s_ldc2 H at_206 (mem (i := 47) rfl) (pc' := 209) rfl ?_
                    refine s_ladd H at_209 (pc' := 210) rfl ?_
                    refine s_lload H at_210 rfl (pc' := 212) rfl ?_
                    refine s_virtual H (met_ka H.tb a1 ea5 es5 ([i1, (i1 + (1 : Int64)), (i1 + (3 : Int64))] : List Int64) f5 3 (i1 + (4 : Int64)) lim Kes5 (by decide) (by omega)) at_212 (i := 1) rfl (mem (i := 17) rfl) (mem (i := 18) rfl) (mem (i := 20) rfl) (mem (i := 19) rfl) (mem (i := 7) rfl) (mem (i := 21) rfl) (by decide) pd_4 rfl (rest := []) rfl rfl (by decide) (Nat.le_of_ble_eq_true rfl) (cn' := 6) (sn' := 46) rfl rfl (by decide) (by decide) (pc' := 215) rfl (fun _ _ hq => ?_)
                    obtain ⟨ea6, es6, f6, F6, Kes6', rfl, rfl⟩ := hq
                    show Go Z k 6 46 ((ea6, ArL Z es6) :: (a1, Obj Z "com/example/mangrove/mangrove/MemorySlidingWindowLog$KeyLog" [("com/example/mangrove/mangrove/MemorySlidingWindowLog$KeyLog", "entries", "[J", (.ref ea6)), ("com/example/mangrove/mangrove/MemorySlidingWindowLog$KeyLog", "size", "I", (.int (4 : Nat).toInt32)), ("com/example/mangrove/mangrove/MemorySlidingWindowLog$KeyLog", "first", "I", (.int f6.toInt32))]) :: F6) 215 #[.val (.int i0), .val (.long i1), .second, .val (.long i2), .second, .val (.int cN.toInt32), .val (.int (2 : Int32)), .val (.int (0 : Int32)), .val (.int (2 : Int32)), .val (.long lim), .second, .val (.ref a1), .val (.long af), .second, .val (.int (1 : Int32)), .unset, .unset] []
                    have Kes6 : KL es6 f6 4 ([i1, (i1 + (1 : Int64)), (i1 + (3 : Int64)), (i1 + (4 : Int64))] : List Int64) := Kes6'
                    refine s_iload H at_215 rfl (pc' := 217) rfl ?_
                    refine s_iconst H at_217 (z := (2 : Int32)) (by decide) (pc' := 218) rfl ?_
                    refine s_icmp H at_218 (py := 233) (pc' := 221) q_le (by decide) rfl (fun c218 => ?_) (fun c218 => ?_)
                    · refine s_iload H at_233 rfl (pc' := 235) rfl ?_
                      refine s_if H at_235 (py := 243) (pc' := 238) z_ne (by decide) rfl (fun c235 => ?_) (fun c235 => ?_)
                      · refine s_lloadn H at_243 rfl (pc' := 244) rfl ?_
                        refine s_iconst H at_244 (z := (2 : Int32)) (by decide) (pc' := 245) rfl ?_
                        refine s_iload H at_245 rfl (pc' := 247) rfl ?_
                        refine s_iadd H at_247 (pc' := 248) rfl ?_
                        refine s_i2l H at_248 (pc' := 249) rfl ?_
                        refine s_ladd H at_249 (pc' := 250) rfl ?_
                        refine s_lstore H at_250 (L' := fun z => #[.val (.int i0), .val (.long i1), .second, .val (.long i2), .second, .val (.int cN.toInt32), .val (.int (2 : Int32)), .val (.int (0 : Int32)), .val (.int (2 : Int32)), .val (.long lim), .second, .val (.ref a1), .val (.long af), .second, .val (.int (1 : Int32)), .val (.long z), .second]) (fun _ => rfl) (pc' := 252) rfl (fun la h_la => ?_)
                        refine s_iload H at_252 rfl (pc' := 254) rfl ?_
                        refine s_if H at_254 (py := 272) (pc' := 257) z_eq (by decide) rfl (fun c254 => ?_) (fun c254 => ?_)
                        · exact absurd c254 (by decide)
                        · refine s_aload H at_257 rfl rfl (pc' := 259) rfl ?_
                          refine s_virtual H (met_kn H.tb a1 ea6 es6 ([i1, (i1 + (1 : Int64)), (i1 + (3 : Int64))] : List Int64) f6 4 (i1 + (4 : Int64)) Kes6) at_259 (i := 1) rfl (mem (i := 26) rfl) (mem (i := 27) rfl) (mem (i := 29) rfl) (mem (i := 28) rfl) (mem (i := 7) rfl) (mem (i := 30) rfl) (by decide) pd_5 rfl (rest := []) rfl rfl (by decide) (Nat.le_of_ble_eq_true rfl) (cn' := 6) (sn' := 46) rfl rfl (by decide) (by decide) (pc' := 262) rfl (fun _ _ hq => ?_)
                          obtain ⟨rfl, rfl⟩ := hq
                          show Go Z k 6 46 ((ea6, ArL Z es6) :: (a1, Obj Z "com/example/mangrove/mangrove/MemorySlidingWindowLog$KeyLog" [("com/example/mangrove/mangrove/MemorySlidingWindowLog$KeyLog", "entries", "[J", (.ref ea6)), ("com/example/mangrove/mangrove/MemorySlidingWindowLog$KeyLog", "size", "I", (.int (4 : Nat).toInt32)), ("com/example/mangrove/mangrove/MemorySlidingWindowLog$KeyLog", "first", "I", (.int f6.toInt32))]) :: F6) 262 #[.val (.int i0), .val (.long i1), .second, .val (.long i2), .second, .val (.int cN.toInt32), .val (.int (2 : Int32)), .val (.int (0 : Int32)), .val (.int (2 : Int32)), .val (.long lim), .second, .val (.ref a1), .val (.long af), .second, .val (.int (1 : Int32)), .val (.long la), .second] [(.long (i1 + (4 : Int64)))]
                          refine s_lload H at_262 rfl (pc' := 264) rfl ?_
                          refine s_lcmp H at_264 (pc' := 265) rfl ?_
                          refine s_if H at_265 (py := 272) (pc' := 268) l_ne (by decide) rfl (fun c265 => ?_) (fun c265 => ?_)
                          · exact absurd (by rw [h_la, show (((2 : Int32) + (2 : Int32)).toInt64) = 4 from by decide]) c265
                          · refine s_iconst H at_268 (z := (1 : Int32)) (by decide) (pc' := 269) rfl ?_
                            refine s_goto H at_269 (pc' := 273) (by decide) ?_
                            exact s_iret H at_273 rfl (by simp) (by decide) (by decide) (rfl)
                      · exact absurd c235 (by decide)
                    · exact absurd c218 (by decide)
          · exact absurd c149 (by decide)
        · exact absurd c138 (by decide)
    · exact absurd c94 (by decide)
set_option maxRecDepth 65536 in
set_option maxHeartbeats 40000000 in
theorem s42_2_0_3 {Z : State} {k : Cx} {i0 : Int32} {i1 i2 : Int64} (cN : Nat) (H : Ok Z k room_1 (LQ) x code maxLocals ret) (h0 : 0 < cN) (hc : cN ≤ 3) : Go Z k 0 0 ([] : Hp) 42 #[.val (.int i0), .val (.long i1), .second, .val (.long i2), .second, .val (.int cN.toInt32), .val (.int (2 : Int32)), .val (.int (0 : Int32)), .val (.int (3 : Int32)), .unset, .unset, .unset, .unset, .unset, .unset, .unset, .unset] [] := by
  refine s_iload H at_42 rfl (pc' := 44) rfl ?_
  refine s_iload H at_44 rfl (pc' := 46) rfl ?_
  refine s_iadd H at_46 (pc' := 47) rfl ?_
  refine s_i2l H at_47 (pc' := 48) rfl ?_
  refine s_lloadn H at_48 rfl (pc' := 49) rfl ?_
  refine s_ldc2 H at_49 (mem (i := 4) rfl) (pc' := 52) rfl ?_
  refine s_land H at_52 (pc' := 53) rfl ?_
  refine s_ladd H at_53 (pc' := 54) rfl ?_
  refine s_lstore H at_54 (L' := fun z => #[.val (.int i0), .val (.long i1), .second, .val (.long i2), .second, .val (.int cN.toInt32), .val (.int (2 : Int32)), .val (.int (0 : Int32)), .val (.int (3 : Int32)), .val (.long z), .second, .unset, .unset, .unset, .unset, .unset, .unset]) (fun _ => rfl) (pc' := 56) rfl (fun lim h_lim => ?_)
  have hl : 5 ≤ lim.toInt := by
    have m := c_maskL i2 4611686018427387903 62 (by decide) (by decide)
    have s := c_ladd ((((2 : Int32) + (3 : Int32)).toInt64)) (i2 &&& 4611686018427387903)
    rw [← h_lim, show ((((2 : Int32) + (3 : Int32)).toInt64)).toInt = 5 from by decide] at s
    have rl := rng64 lim
    omega
  refine s_new H (C := "com/example/mangrove/mangrove/MemorySlidingWindowLog$KeyLog") [("com/example/mangrove/mangrove/MemorySlidingWindowLog$KeyLog", "entries", "[J", .null), ("com/example/mangrove/mangrove/MemorySlidingWindowLog$KeyLog", "size", "I", (.int (0 : Int32))), ("com/example/mangrove/mangrove/MemorySlidingWindowLog$KeyLog", "first", "I", (.int (0 : Int32)))] at_56 (mem (i := 5) rfl) (mem (i := 6) rfl) (mem (i := 7) rfl) (allC ⟨Or.inl (mem (i := 16) rfl), (.array .long), by decide, rfl⟩ (allC ⟨Or.inl (mem (i := 23) rfl), .int, by decide, rfl⟩ (allC ⟨Or.inl (mem (i := 25) rfl), .int, by decide, rfl⟩ allN))) (by decide) (cn' := 1) (sn' := 3) rfl rfl (by decide) (by decide) (pc' := 59) rfl (fun a1 => ?_)
  refine s_dup H at_59 rfl (pc' := 60) rfl ?_
  refine s_iload H at_60 rfl (pc' := 62) rfl ?_
  refine s_init H (met_ki H.tb a1 cN hc) at_62 rfl (mem (i := 8) rfl) (mem (i := 9) rfl) (mem (i := 7) rfl) (mem (i := 10) rfl) (by decide) pd_2 rfl (rest := [(.ref a1)]) rfl rfl (by decide) (Nat.le_of_ble_eq_true rfl) (cn' := 2) (sn' := 6) rfl rfl (by decide) (by decide) (pc' := 65) rfl (fun _ _ hq => ?_)
  obtain ⟨ea, rfl, rfl⟩ := hq
  show Go Z k 2 6 ((ea, ArL Z (List.replicate cN 0)) :: (a1, Obj Z "com/example/mangrove/mangrove/MemorySlidingWindowLog$KeyLog" [("com/example/mangrove/mangrove/MemorySlidingWindowLog$KeyLog", "entries", "[J", (.ref ea)), ("com/example/mangrove/mangrove/MemorySlidingWindowLog$KeyLog", "size", "I", (.int (0 : Nat).toInt32)), ("com/example/mangrove/mangrove/MemorySlidingWindowLog$KeyLog", "first", "I", (.int (0 : Nat).toInt32))]) :: []) 65 #[.val (.int i0), .val (.long i1), .second, .val (.long i2), .second, .val (.int cN.toInt32), .val (.int (2 : Int32)), .val (.int (0 : Int32)), .val (.int (3 : Int32)), .val (.long lim), .second, .unset, .unset, .unset, .unset, .unset, .unset] [(.ref a1)]
  obtain ⟨es2, he, les2, Kes2⟩ : ∃ es : List Int64, es = List.replicate cN 0 ∧ es.length = cN ∧ KL es 0 0 [] := ⟨_, rfl, by simp, KL.new (by omega) (by omega)⟩
  rw [← he]
  clear he
  show Go Z k 2 6 ((ea, ArL Z es2) :: (a1, Obj Z "com/example/mangrove/mangrove/MemorySlidingWindowLog$KeyLog" [("com/example/mangrove/mangrove/MemorySlidingWindowLog$KeyLog", "entries", "[J", (.ref ea)), ("com/example/mangrove/mangrove/MemorySlidingWindowLog$KeyLog", "size", "I", (.int (0 : Nat).toInt32)), ("com/example/mangrove/mangrove/MemorySlidingWindowLog$KeyLog", "first", "I", (.int (0 : Nat).toInt32))]) :: []) 65 #[.val (.int i0), .val (.long i1), .second, .val (.long i2), .second, .val (.int cN.toInt32), .val (.int (2 : Int32)), .val (.int (0 : Int32)), .val (.int (3 : Int32)), .val (.long lim), .second, .unset, .unset, .unset, .unset, .unset, .unset] [(.ref a1)]
  refine s_astore H at_65 (L' := #[.val (.int i0), .val (.long i1), .second, .val (.long i2), .second, .val (.int cN.toInt32), .val (.int (2 : Int32)), .val (.int (0 : Int32)), .val (.int (3 : Int32)), .val (.long lim), .second, .val (.ref a1), .unset, .unset, .unset, .unset, .unset]) rfl rfl (pc' := 67) rfl ?_
  refine s_aload H at_67 rfl rfl (pc' := 69) rfl ?_
  refine s_lloadn H at_69 rfl (pc' := 70) rfl ?_
  refine s_lload H at_70 rfl (pc' := 72) rfl ?_
  refine s_virtual H (met_ka H.tb a1 ea es2 ([] : List Int64) (0 : Nat) 0 i1 lim Kes2 (by decide) (by omega)) at_72 (i := 1) rfl (mem (i := 17) rfl) (mem (i := 18) rfl) (mem (i := 20) rfl) (mem (i := 19) rfl) (mem (i := 7) rfl) (mem (i := 21) rfl) (by decide) pd_4 rfl (rest := []) rfl rfl (by decide) (Nat.le_of_ble_eq_true rfl) (cn' := 3) (sn' := 16) rfl rfl (by decide) (by decide) (pc' := 75) rfl (fun _ _ hq => ?_)
  obtain ⟨ea3, es3, f3, F3, Kes3', rfl, rfl⟩ := hq
  show Go Z k 3 16 ((ea3, ArL Z es3) :: (a1, Obj Z "com/example/mangrove/mangrove/MemorySlidingWindowLog$KeyLog" [("com/example/mangrove/mangrove/MemorySlidingWindowLog$KeyLog", "entries", "[J", (.ref ea3)), ("com/example/mangrove/mangrove/MemorySlidingWindowLog$KeyLog", "size", "I", (.int (1 : Nat).toInt32)), ("com/example/mangrove/mangrove/MemorySlidingWindowLog$KeyLog", "first", "I", (.int f3.toInt32))]) :: F3) 75 #[.val (.int i0), .val (.long i1), .second, .val (.long i2), .second, .val (.int cN.toInt32), .val (.int (2 : Int32)), .val (.int (0 : Int32)), .val (.int (3 : Int32)), .val (.long lim), .second, .val (.ref a1), .unset, .unset, .unset, .unset, .unset] []
  have Kes3 : KL es3 f3 1 ([i1] : List Int64) := Kes3'
  refine s_iload H at_75 rfl (pc' := 77) rfl ?_
  refine s_iconst H at_77 (z := (1 : Int32)) (by decide) (pc' := 78) rfl ?_
  refine s_icmp H at_78 (py := 91) (pc' := 81) q_le (by decide) rfl (fun c78 => ?_) (fun c78 => ?_)
  · exact absurd c78 (by decide)
  · refine s_aload H at_81 rfl rfl (pc' := 83) rfl ?_
    refine s_lloadn H at_83 rfl (pc' := 84) rfl ?_
    refine s_lconst H at_84 (z := (1 : Int64)) (by decide) (pc' := 85) rfl ?_
    refine s_ladd H at_85 (pc' := 86) rfl ?_
    refine s_lload H at_86 rfl (pc' := 88) rfl ?_
    refine s_virtual H (met_ka H.tb a1 ea3 es3 ([i1] : List Int64) f3 1 (i1 + (1 : Int64)) lim Kes3 (by decide) (by omega)) at_88 (i := 1) rfl (mem (i := 17) rfl) (mem (i := 18) rfl) (mem (i := 20) rfl) (mem (i := 19) rfl) (mem (i := 7) rfl) (mem (i := 21) rfl) (by decide) pd_4 rfl (rest := []) rfl rfl (by decide) (Nat.le_of_ble_eq_true rfl) (cn' := 4) (sn' := 26) rfl rfl (by decide) (by decide) (pc' := 91) rfl (fun _ _ hq => ?_)
    obtain ⟨ea4, es4, f4, F4, Kes4', rfl, rfl⟩ := hq
    show Go Z k 4 26 ((ea4, ArL Z es4) :: (a1, Obj Z "com/example/mangrove/mangrove/MemorySlidingWindowLog$KeyLog" [("com/example/mangrove/mangrove/MemorySlidingWindowLog$KeyLog", "entries", "[J", (.ref ea4)), ("com/example/mangrove/mangrove/MemorySlidingWindowLog$KeyLog", "size", "I", (.int (2 : Nat).toInt32)), ("com/example/mangrove/mangrove/MemorySlidingWindowLog$KeyLog", "first", "I", (.int f4.toInt32))]) :: F4) 91 #[.val (.int i0), .val (.long i1), .second, .val (.long i2), .second, .val (.int cN.toInt32), .val (.int (2 : Int32)), .val (.int (0 : Int32)), .val (.int (3 : Int32)), .val (.long lim), .second, .val (.ref a1), .unset, .unset, .unset, .unset, .unset] []
    have Kes4 : KL es4 f4 2 ([i1, (i1 + (1 : Int64))] : List Int64) := Kes4'
    refine s_iload H at_91 rfl (pc' := 93) rfl ?_
    refine s_iconst H at_93 (z := (2 : Int32)) (by decide) (pc' := 94) rfl ?_
    refine s_icmp H at_94 (py := 109) (pc' := 97) q_le (by decide) rfl (fun c94 => ?_) (fun c94 => ?_)
    · refine s_lloadn H at_109 rfl (pc' := 110) rfl ?_
      refine s_iload H at_110 rfl (pc' := 112) rfl ?_
      refine s_iconst H at_112 (z := (1 : Int32)) (by decide) (pc' := 113) rfl ?_
      refine s_isub H at_113 (pc' := 114) rfl ?_
      refine s_i2l H at_114 (pc' := 115) rfl ?_
      refine s_ladd H at_115 (pc' := 116) rfl ?_
      refine s_lstore H at_116 (L' := fun z => #[.val (.int i0), .val (.long i1), .second, .val (.long i2), .second, .val (.int cN.toInt32), .val (.int (2 : Int32)), .val (.int (0 : Int32)), .val (.int (3 : Int32)), .val (.long lim), .second, .val (.ref a1), .val (.long z), .second, .unset, .unset, .unset]) (fun _ => rfl) (pc' := 118) rfl (fun af h_af => ?_)
      refine s_aload H at_118 rfl rfl (pc' := 120) rfl ?_
      refine s_virtual H (met_kn H.tb a1 ea4 es4 ([i1] : List Int64) f4 2 (i1 + (1 : Int64)) Kes4) at_120 (i := 1) rfl (mem (i := 26) rfl) (mem (i := 27) rfl) (mem (i := 29) rfl) (mem (i := 28) rfl) (mem (i := 7) rfl) (mem (i := 30) rfl) (by decide) pd_5 rfl (rest := []) rfl rfl (by decide) (Nat.le_of_ble_eq_true rfl) (cn' := 4) (sn' := 26) rfl rfl (by decide) (by decide) (pc' := 123) rfl (fun _ _ hq => ?_)
      obtain ⟨rfl, rfl⟩ := hq
      show Go Z k 4 26 ((ea4, ArL Z es4) :: (a1, Obj Z "com/example/mangrove/mangrove/MemorySlidingWindowLog$KeyLog" [("com/example/mangrove/mangrove/MemorySlidingWindowLog$KeyLog", "entries", "[J", (.ref ea4)), ("com/example/mangrove/mangrove/MemorySlidingWindowLog$KeyLog", "size", "I", (.int (2 : Nat).toInt32)), ("com/example/mangrove/mangrove/MemorySlidingWindowLog$KeyLog", "first", "I", (.int f4.toInt32))]) :: F4) 123 #[.val (.int i0), .val (.long i1), .second, .val (.long i2), .second, .val (.int cN.toInt32), .val (.int (2 : Int32)), .val (.int (0 : Int32)), .val (.int (3 : Int32)), .val (.long lim), .second, .val (.ref a1), .val (.long af), .second, .unset, .unset, .unset] [(.long (i1 + (1 : Int64)))]
      refine s_lload H at_123 rfl (pc' := 125) rfl ?_
      refine s_lcmp H at_125 (pc' := 126) rfl ?_
      refine s_if H at_126 (py := 133) (pc' := 129) l_ne (by decide) rfl (fun c126 => ?_) (fun c126 => ?_)
      · exact absurd (by rw [h_af, show (((2 : Int32) - (1 : Int32)).toInt64) = 1 from by decide]) c126
      · refine s_iconst H at_129 (z := (1 : Int32)) (by decide) (pc' := 130) rfl ?_
        refine s_goto H at_130 (pc' := 134) (by decide) ?_
        refine s_istore H at_134 (L' := fun z => #[.val (.int i0), .val (.long i1), .second, .val (.long i2), .second, .val (.int cN.toInt32), .val (.int (2 : Int32)), .val (.int (0 : Int32)), .val (.int (3 : Int32)), .val (.long lim), .second, .val (.ref a1), .val (.long af), .second, .val (.int z), .unset, .unset]) (fun _ => rfl) (pc' := 136) rfl (fun z0 hz => ?_)
        subst z0
        refine s_iload H at_136 rfl (pc' := 138) rfl ?_
        refine s_if H at_138 (py := 146) (pc' := 141) z_le (by decide) rfl (fun c138 => ?_) (fun c138 => ?_)
        · refine s_iload H at_146 rfl (pc' := 148) rfl ?_
          refine s_iconst H at_148 (z := (1 : Int32)) (by decide) (pc' := 149) rfl ?_
          refine s_icmp H at_149 (py := 157) (pc' := 152) q_le (by decide) rfl (fun c149 => ?_) (fun c149 => ?_)
          · refine s_iload H at_157 rfl (pc' := 159) rfl ?_
            refine s_if H at_159 (py := 177) (pc' := 162) z_eq (by decide) rfl (fun c159 => ?_) (fun c159 => ?_)
            · exact absurd c159 (by decide)
            · refine s_aload H at_162 rfl rfl (pc' := 164) rfl ?_
              refine s_virtual H (met_kn H.tb a1 ea4 es4 ([i1] : List Int64) f4 2 (i1 + (1 : Int64)) Kes4) at_164 (i := 1) rfl (mem (i := 26) rfl) (mem (i := 27) rfl) (mem (i := 29) rfl) (mem (i := 28) rfl) (mem (i := 7) rfl) (mem (i := 30) rfl) (by decide) pd_5 rfl (rest := []) rfl rfl (by decide) (Nat.le_of_ble_eq_true rfl) (cn' := 4) (sn' := 26) rfl rfl (by decide) (by decide) (pc' := 167) rfl (fun _ _ hq => ?_)
              obtain ⟨rfl, rfl⟩ := hq
              show Go Z k 4 26 ((ea4, ArL Z es4) :: (a1, Obj Z "com/example/mangrove/mangrove/MemorySlidingWindowLog$KeyLog" [("com/example/mangrove/mangrove/MemorySlidingWindowLog$KeyLog", "entries", "[J", (.ref ea4)), ("com/example/mangrove/mangrove/MemorySlidingWindowLog$KeyLog", "size", "I", (.int (2 : Nat).toInt32)), ("com/example/mangrove/mangrove/MemorySlidingWindowLog$KeyLog", "first", "I", (.int f4.toInt32))]) :: F4) 167 #[.val (.int i0), .val (.long i1), .second, .val (.long i2), .second, .val (.int cN.toInt32), .val (.int (2 : Int32)), .val (.int (0 : Int32)), .val (.int (3 : Int32)), .val (.long lim), .second, .val (.ref a1), .val (.long af), .second, .val (.int (1 : Int32)), .unset, .unset] [(.long (i1 + (1 : Int64)))]
              refine s_lload H at_167 rfl (pc' := 169) rfl ?_
              refine s_lcmp H at_169 (pc' := 170) rfl ?_
              refine s_if H at_170 (py := 177) (pc' := 173) l_ne (by decide) rfl (fun c170 => ?_) (fun c170 => ?_)
              · exact absurd (by rw [h_af, show (((2 : Int32) - (1 : Int32)).toInt64) = 1 from by decide]) c170
              · refine s_iconst H at_173 (z := (1 : Int32)) (by decide) (pc' := 174) rfl ?_
                refine s_goto H at_174 (pc' := 178) (by decide) ?_
                refine s_istore H at_178 (L' := fun z => #[.val (.int i0), .val (.long i1), .second, .val (.long i2), .second, .val (.int cN.toInt32), .val (.int (2 : Int32)), .val (.int (0 : Int32)), .val (.int (3 : Int32)), .val (.long lim), .second, .val (.ref a1), .val (.long af), .second, .val (.int z), .unset, .unset]) (fun _ => rfl) (pc' := 180) rfl (fun z0 hz => ?_)
                subst z0
                refine s_iload H at_180 rfl (pc' := 182) rfl ?_
                refine s_if H at_182 (py := 197) (pc' := 185) z_le (by decide) rfl (fun c182 => ?_) (fun c182 => ?_)
                · exact absurd c182 (by decide)
                · refine s_aload H at_185 rfl rfl (pc' := 187) rfl ?_
                  refine s_lloadn H at_187 rfl (pc' := 188) rfl ?_
                  refine s_ldc2 H at_188 (mem (i := 46) rfl) (pc' := 191) rfl ?_
                  refine s_ladd H at_191 (pc' := 192) rfl ?_
                  refine s_lload H at_192 rfl (pc' := 194) rfl ?_
                  refine s_virtual H (met_ka H.tb a1 ea4 es4 ([i1, (i1 + (1 : Int64))] : List Int64) f4 2 (i1 + (3 : Int64)) lim Kes4 (by decide) (by omega)) at_194 (i := 1) rfl (mem (i := 17) rfl) (mem (i := 18) rfl) (mem (i := 20) rfl) (mem (i := 19) rfl) (mem (i := 7) rfl) (mem (i := 21) rfl) (by decide) pd_4 rfl (rest := []) rfl rfl (by decide) (Nat.le_of_ble_eq_true rfl) (cn' := 5) (sn' := 36) rfl rfl (by decide) (by decide) (pc' := 197) rfl (fun _ _ hq => ?_)
                  obtain ⟨ea5, es5, f5, F5, Kes5', rfl, rfl⟩ := hq
                  show Go Z k 5 36 ((ea5, ArL Z es5) :: (a1, Obj Z "com/example/mangrove/mangrove/MemorySlidingWindowLog$KeyLog" [("com/example/mangrove/mangrove/MemorySlidingWindowLog$KeyLog", "entries", "[J", (.ref ea5)), ("com/example/mangrove/mangrove/MemorySlidingWindowLog$KeyLog", "size", "I", (.int (3 : Nat).toInt32)), ("com/example/mangrove/mangrove/MemorySlidingWindowLog$KeyLog", "first", "I", (.int f5.toInt32))]) :: F5) 197 #[.val (.int i0), .val (.long i1), .second, .val (.long i2), .second, .val (.int cN.toInt32), .val (.int (2 : Int32)), .val (.int (0 : Int32)), .val (.int (3 : Int32)), .val (.long lim), .second, .val (.ref a1), .val (.long af), .second, .val (.int (1 : Int32)), .unset, .unset] []
                  have Kes5 : KL es5 f5 3 ([i1, (i1 + (1 : Int64)), (i1 + (3 : Int64))] : List Int64) := Kes5'
                  refine s_iload H at_197 rfl (pc' := 199) rfl ?_
                  refine s_iconst H at_199 (z := (1 : Int32)) (by decide) (pc' := 200) rfl ?_
                  refine s_icmp H at_200 (py := 215) (pc' := 203) q_le (by decide) rfl (fun c200 => ?_) (fun c200 => ?_)
                  · exact absurd c200 (by decide)
                  · refine s_aload H at_203 rfl rfl (pc' := 205) rfl ?_
                    refine s_lloadn H at_205 rfl (pc' := 206) rfl ?_
                    refine s_ldc2 H at_206 (mem (i := 47) rfl) (pc' := 209) rfl ?_
                    refine s_ladd H at_209 (pc' := 210) rfl ?_
                    refine s_lload H at_210 rfl (pc' := 212) rfl ?_
                    refine s_virtual H (met_ka H.tb a1 ea5 es5 ([i1, (i1 + (1 : Int64)), (i1 + (3 : Int64))] : List Int64) f5 3 (i1 + (4 : Int64)) lim Kes5 (by decide) (by omega)) at_212 (i := 1) rfl (mem (i := 17) rfl) (mem (i := 18) rfl) (mem (i := 20) rfl) (mem (i := 19) rfl) (mem (i := 7) rfl) (mem (i := 21) rfl) (by decide) pd_4 rfl (rest := []) rfl rfl (by decide) (Nat.le_of_ble_eq_true rfl) (cn' := 6) (sn' := 46) rfl rfl (by decide) (by decide) (pc' := 215) rfl (fun _ _ hq => ?_)
                    obtain ⟨ea6, es6, f6, F6, Kes6', rfl, rfl⟩ := hq
                    show Go Z k 6 46 ((ea6, ArL Z es6) :: (a1, Obj Z "com/example/mangrove/mangrove/MemorySlidingWindowLog$KeyLog" [("com/example/mangrove/mangrove/MemorySlidingWindowLog$KeyLog", "entries", "[J", (.ref ea6)), ("com/example/mangrove/mangrove/MemorySlidingWindowLog$KeyLog", "size", "I", (.int (4 : Nat).toInt32)), ("com/example/mangrove/mangrove/MemorySlidingWindowLog$KeyLog", "first", "I", (.int f6.toInt32))]) :: F6) 215 #[.val (.int i0), .val (.long i1), .second, .val (.long i2), .second, .val (.int cN.toInt32), .val (.int (2 : Int32)), .val (.int (0 : Int32)), .val (.int (3 : Int32)), .val (.long lim), .second, .val (.ref a1), .val (.long af), .second, .val (.int (1 : Int32)), .unset, .unset] []
                    have Kes6 : KL es6 f6 4 ([i1, (i1 + (1 : Int64)), (i1 + (3 : Int64)), (i1 + (4 : Int64))] : List Int64) := Kes6'
                    refine s_iload H at_215 rfl (pc' := 217) rfl ?_
                    refine s_iconst H at_217 (z := (2 : Int32)) (by decide) (pc' := 218) rfl ?_
                    refine s_icmp H at_218 (py := 233) (pc' := 221) q_le (by decide) rfl (fun c218 => ?_) (fun c218 => ?_)
                    · exact absurd c218 (by decide)
                    · refine s_aload H at_221 rfl rfl (pc' := 223) rfl ?_
                      refine s_lloadn H at_223 rfl (pc' := 224) rfl ?_
                      refine s_ldc2 H at_224 (mem (i := 48) rfl) (pc' := 227) rfl ?_
                      refine s_ladd H at_227 (pc' := 228) rfl ?_
                      refine s_lload H at_228 rfl (pc' := 230) rfl ?_
                      refine s_virtual H (met_ka H.tb a1 ea6 es6 ([i1, (i1 + (1 : Int64)), (i1 + (3 : Int64)), (i1 + (4 : Int64))] : List Int64) f6 4 (i1 + (5 : Int64)) lim Kes6 (by decide) (by omega)) at_230 (i := 1) rfl (mem (i := 17) rfl) (mem (i := 18) rfl) (mem (i := 20) rfl) (mem (i := 19) rfl) (mem (i := 7) rfl) (mem (i := 21) rfl) (by decide) pd_4 rfl (rest := []) rfl rfl (by decide) (Nat.le_of_ble_eq_true rfl) (cn' := 7) (sn' := 56) rfl rfl (by decide) (by decide) (pc' := 233) rfl (fun _ _ hq => ?_)
                      obtain ⟨ea7, es7, f7, F7, Kes7', rfl, rfl⟩ := hq
                      show Go Z k 7 56 ((ea7, ArL Z es7) :: (a1, Obj Z "com/example/mangrove/mangrove/MemorySlidingWindowLog$KeyLog" [("com/example/mangrove/mangrove/MemorySlidingWindowLog$KeyLog", "entries", "[J", (.ref ea7)), ("com/example/mangrove/mangrove/MemorySlidingWindowLog$KeyLog", "size", "I", (.int (5 : Nat).toInt32)), ("com/example/mangrove/mangrove/MemorySlidingWindowLog$KeyLog", "first", "I", (.int f7.toInt32))]) :: F7) 233 #[.val (.int i0), .val (.long i1), .second, .val (.long i2), .second, .val (.int cN.toInt32), .val (.int (2 : Int32)), .val (.int (0 : Int32)), .val (.int (3 : Int32)), .val (.long lim), .second, .val (.ref a1), .val (.long af), .second, .val (.int (1 : Int32)), .unset, .unset] []
                      have Kes7 : KL es7 f7 5 ([i1, (i1 + (1 : Int64)), (i1 + (3 : Int64)), (i1 + (4 : Int64)), (i1 + (5 : Int64))] : List Int64) := Kes7'
                      refine s_iload H at_233 rfl (pc' := 235) rfl ?_
                      refine s_if H at_235 (py := 243) (pc' := 238) z_ne (by decide) rfl (fun c235 => ?_) (fun c235 => ?_)
                      · refine s_lloadn H at_243 rfl (pc' := 244) rfl ?_
                        refine s_iconst H at_244 (z := (2 : Int32)) (by decide) (pc' := 245) rfl ?_
                        refine s_iload H at_245 rfl (pc' := 247) rfl ?_
                        refine s_iadd H at_247 (pc' := 248) rfl ?_
                        refine s_i2l H at_248 (pc' := 249) rfl ?_
                        refine s_ladd H at_249 (pc' := 250) rfl ?_
                        refine s_lstore H at_250 (L' := fun z => #[.val (.int i0), .val (.long i1), .second, .val (.long i2), .second, .val (.int cN.toInt32), .val (.int (2 : Int32)), .val (.int (0 : Int32)), .val (.int (3 : Int32)), .val (.long lim), .second, .val (.ref a1), .val (.long af), .second, .val (.int (1 : Int32)), .val (.long z), .second]) (fun _ => rfl) (pc' := 252) rfl (fun la h_la => ?_)
                        refine s_iload H at_252 rfl (pc' := 254) rfl ?_
                        refine s_if H at_254 (py := 272) (pc' := 257) z_eq (by decide) rfl (fun c254 => ?_) (fun c254 => ?_)
                        · exact absurd c254 (by decide)
                        · refine s_aload H at_257 rfl rfl (pc' := 259) rfl ?_
                          refine s_virtual H (met_kn H.tb a1 ea7 es7 ([i1, (i1 + (1 : Int64)), (i1 + (3 : Int64)), (i1 + (4 : Int64))] : List Int64) f7 5 (i1 + (5 : Int64)) Kes7) at_259 (i := 1) rfl (mem (i := 26) rfl) (mem (i := 27) rfl) (mem (i := 29) rfl) (mem (i := 28) rfl) (mem (i := 7) rfl) (mem (i := 30) rfl) (by decide) pd_5 rfl (rest := []) rfl rfl (by decide) (Nat.le_of_ble_eq_true rfl) (cn' := 7) (sn' := 56) rfl rfl (by decide) (by decide) (pc' := 262) rfl (fun _ _ hq => ?_)
                          obtain ⟨rfl, rfl⟩ := hq
                          show Go Z k 7 56 ((ea7, ArL Z es7) :: (a1, Obj Z "com/example/mangrove/mangrove/MemorySlidingWindowLog$KeyLog" [("com/example/mangrove/mangrove/MemorySlidingWindowLog$KeyLog", "entries", "[J", (.ref ea7)), ("com/example/mangrove/mangrove/MemorySlidingWindowLog$KeyLog", "size", "I", (.int (5 : Nat).toInt32)), ("com/example/mangrove/mangrove/MemorySlidingWindowLog$KeyLog", "first", "I", (.int f7.toInt32))]) :: F7) 262 #[.val (.int i0), .val (.long i1), .second, .val (.long i2), .second, .val (.int cN.toInt32), .val (.int (2 : Int32)), .val (.int (0 : Int32)), .val (.int (3 : Int32)), .val (.long lim), .second, .val (.ref a1), .val (.long af), .second, .val (.int (1 : Int32)), .val (.long la), .second] [(.long (i1 + (5 : Int64)))]
                          refine s_lload H at_262 rfl (pc' := 264) rfl ?_
                          refine s_lcmp H at_264 (pc' := 265) rfl ?_
                          refine s_if H at_265 (py := 272) (pc' := 268) l_ne (by decide) rfl (fun c265 => ?_) (fun c265 => ?_)
                          · exact absurd (by rw [h_la, show (((2 : Int32) + (3 : Int32)).toInt64) = 5 from by decide]) c265
                          · refine s_iconst H at_268 (z := (1 : Int32)) (by decide) (pc' := 269) rfl ?_
                            refine s_goto H at_269 (pc' := 273) (by decide) ?_
                            exact s_iret H at_273 rfl (by simp) (by decide) (by decide) (rfl)
                      · exact absurd c235 (by decide)
          · exact absurd c149 (by decide)
        · exact absurd c138 (by decide)
    · exact absurd c94 (by decide)
set_option maxRecDepth 65536 in
set_option maxHeartbeats 40000000 in
theorem s42_2_1_0 {Z : State} {k : Cx} {i0 : Int32} {i1 i2 : Int64} (cN : Nat) (H : Ok Z k room_1 (LQ) x code maxLocals ret) (h0 : 0 < cN) (hc : cN ≤ 3) : Go Z k 0 0 ([] : Hp) 42 #[.val (.int i0), .val (.long i1), .second, .val (.long i2), .second, .val (.int cN.toInt32), .val (.int (2 : Int32)), .val (.int (1 : Int32)), .val (.int (0 : Int32)), .unset, .unset, .unset, .unset, .unset, .unset, .unset, .unset] [] := by
  refine s_iload H at_42 rfl (pc' := 44) rfl ?_
  refine s_iload H at_44 rfl (pc' := 46) rfl ?_
  refine s_iadd H at_46 (pc' := 47) rfl ?_
  refine s_i2l H at_47 (pc' := 48) rfl ?_
  refine s_lloadn H at_48 rfl (pc' := 49) rfl ?_
  refine s_ldc2 H at_49 (mem (i := 4) rfl) (pc' := 52) rfl ?_
  refine s_land H at_52 (pc' := 53) rfl ?_
  refine s_ladd H at_53 (pc' := 54) rfl ?_
  refine s_lstore H at_54 (L' := fun z => #[.val (.int i0), .val (.long i1), .second, .val (.long i2), .second, .val (.int cN.toInt32), .val (.int (2 : Int32)), .val (.int (1 : Int32)), .val (.int (0 : Int32)), .val (.long z), .second, .unset, .unset, .unset, .unset, .unset, .unset]) (fun _ => rfl) (pc' := 56) rfl (fun lim h_lim => ?_)
  have hl : 2 ≤ lim.toInt := by
    have m := c_maskL i2 4611686018427387903 62 (by decide) (by decide)
    have s := c_ladd ((((2 : Int32) + (0 : Int32)).toInt64)) (i2 &&& 4611686018427387903)
    rw [← h_lim, show ((((2 : Int32) + (0 : Int32)).toInt64)).toInt = 2 from by decide] at s
    have rl := rng64 lim
    omega
  refine s_new H (C := "com/example/mangrove/mangrove/MemorySlidingWindowLog$KeyLog") [("com/example/mangrove/mangrove/MemorySlidingWindowLog$KeyLog", "entries", "[J", .null), ("com/example/mangrove/mangrove/MemorySlidingWindowLog$KeyLog", "size", "I", (.int (0 : Int32))), ("com/example/mangrove/mangrove/MemorySlidingWindowLog$KeyLog", "first", "I", (.int (0 : Int32)))] at_56 (mem (i := 5) rfl) (mem (i := 6) rfl) (mem (i := 7) rfl) (allC ⟨Or.inl (mem (i := 16) rfl), (.array .long), by decide, rfl⟩ (allC ⟨Or.inl (mem (i := 23) rfl), .int, by decide, rfl⟩ (allC ⟨Or.inl (mem (i := 25) rfl), .int, by decide, rfl⟩ allN))) (by decide) (cn' := 1) (sn' := 3) rfl rfl (by decide) (by decide) (pc' := 59) rfl (fun a1 => ?_)
  refine s_dup H at_59 rfl (pc' := 60) rfl ?_
  refine s_iload H at_60 rfl (pc' := 62) rfl ?_
  refine s_init H (met_ki H.tb a1 cN hc) at_62 rfl (mem (i := 8) rfl) (mem (i := 9) rfl) (mem (i := 7) rfl) (mem (i := 10) rfl) (by decide) pd_2 rfl (rest := [(.ref a1)]) rfl rfl (by decide) (Nat.le_of_ble_eq_true rfl) (cn' := 2) (sn' := 6) rfl rfl (by decide) (by decide) (pc' := 65) rfl (fun _ _ hq => ?_)
  obtain ⟨ea, rfl, rfl⟩ := hq
  show Go Z k 2 6 ((ea, ArL Z (List.replicate cN 0)) :: (a1, Obj Z "com/example/mangrove/mangrove/MemorySlidingWindowLog$KeyLog" [("com/example/mangrove/mangrove/MemorySlidingWindowLog$KeyLog", "entries", "[J", (.ref ea)), ("com/example/mangrove/mangrove/MemorySlidingWindowLog$KeyLog", "size", "I", (.int (0 : Nat).toInt32)), ("com/example/mangrove/mangrove/MemorySlidingWindowLog$KeyLog", "first", "I", (.int (0 : Nat).toInt32))]) :: []) 65 #[.val (.int i0), .val (.long i1), .second, .val (.long i2), .second, .val (.int cN.toInt32), .val (.int (2 : Int32)), .val (.int (1 : Int32)), .val (.int (0 : Int32)), .val (.long lim), .second, .unset, .unset, .unset, .unset, .unset, .unset] [(.ref a1)]
  obtain ⟨es2, he, les2, Kes2⟩ : ∃ es : List Int64, es = List.replicate cN 0 ∧ es.length = cN ∧ KL es 0 0 [] := ⟨_, rfl, by simp, KL.new (by omega) (by omega)⟩
  rw [← he]
  clear he
  show Go Z k 2 6 ((ea, ArL Z es2) :: (a1, Obj Z "com/example/mangrove/mangrove/MemorySlidingWindowLog$KeyLog" [("com/example/mangrove/mangrove/MemorySlidingWindowLog$KeyLog", "entries", "[J", (.ref ea)), ("com/example/mangrove/mangrove/MemorySlidingWindowLog$KeyLog", "size", "I", (.int (0 : Nat).toInt32)), ("com/example/mangrove/mangrove/MemorySlidingWindowLog$KeyLog", "first", "I", (.int (0 : Nat).toInt32))]) :: []) 65 #[.val (.int i0), .val (.long i1), .second, .val (.long i2), .second, .val (.int cN.toInt32), .val (.int (2 : Int32)), .val (.int (1 : Int32)), .val (.int (0 : Int32)), .val (.long lim), .second, .unset, .unset, .unset, .unset, .unset, .unset] [(.ref a1)]
  refine s_astore H at_65 (L' := #[.val (.int i0), .val (.long i1), .second, .val (.long i2), .second, .val (.int cN.toInt32), .val (.int (2 : Int32)), .val (.int (1 : Int32)), .val (.int (0 : Int32)), .val (.long lim), .second, .val (.ref a1), .unset, .unset, .unset, .unset, .unset]) rfl rfl (pc' := 67) rfl ?_
  refine s_aload H at_67 rfl rfl (pc' := 69) rfl ?_
  refine s_lloadn H at_69 rfl (pc' := 70) rfl ?_
  refine s_lload H at_70 rfl (pc' := 72) rfl ?_
  refine s_virtual H (met_ka H.tb a1 ea es2 ([] : List Int64) (0 : Nat) 0 i1 lim Kes2 (by decide) (by omega)) at_72 (i := 1) rfl (mem (i := 17) rfl) (mem (i := 18) rfl) (mem (i := 20) rfl) (mem (i := 19) rfl) (mem (i := 7) rfl) (mem (i := 21) rfl) (by decide) pd_4 rfl (rest := []) rfl rfl (by decide) (Nat.le_of_ble_eq_true rfl) (cn' := 3) (sn' := 16) rfl rfl (by decide) (by decide) (pc' := 75) rfl (fun _ _ hq => ?_)
  obtain ⟨ea3, es3, f3, F3, Kes3', rfl, rfl⟩ := hq
  show Go Z k 3 16 ((ea3, ArL Z es3) :: (a1, Obj Z "com/example/mangrove/mangrove/MemorySlidingWindowLog$KeyLog" [("com/example/mangrove/mangrove/MemorySlidingWindowLog$KeyLog", "entries", "[J", (.ref ea3)), ("com/example/mangrove/mangrove/MemorySlidingWindowLog$KeyLog", "size", "I", (.int (1 : Nat).toInt32)), ("com/example/mangrove/mangrove/MemorySlidingWindowLog$KeyLog", "first", "I", (.int f3.toInt32))]) :: F3) 75 #[.val (.int i0), .val (.long i1), .second, .val (.long i2), .second, .val (.int cN.toInt32), .val (.int (2 : Int32)), .val (.int (1 : Int32)), .val (.int (0 : Int32)), .val (.long lim), .second, .val (.ref a1), .unset, .unset, .unset, .unset, .unset] []
  have Kes3 : KL es3 f3 1 ([i1] : List Int64) := Kes3'
  refine s_iload H at_75 rfl (pc' := 77) rfl ?_
  refine s_iconst H at_77 (z := (1 : Int32)) (by decide) (pc' := 78) rfl ?_
  refine s_icmp H at_78 (py := 91) (pc' := 81) q_le (by decide) rfl (fun c78 => ?_) (fun c78 => ?_)
  · exact absurd c78 (by decide)
  · refine s_aload H at_81 rfl rfl (pc' := 83) rfl ?_
    refine s_lloadn H at_83 rfl (pc' := 84) rfl ?_
    refine s_lconst H at_84 (z := (1 : Int64)) (by decide) (pc' := 85) rfl ?_
    refine s_ladd H at_85 (pc' := 86) rfl ?_
    refine s_lload H at_86 rfl (pc' := 88) rfl ?_
    refine s_virtual H (met_ka H.tb a1 ea3 es3 ([i1] : List Int64) f3 1 (i1 + (1 : Int64)) lim Kes3 (by decide) (by omega)) at_88 (i := 1) rfl (mem (i := 17) rfl) (mem (i := 18) rfl) (mem (i := 20) rfl) (mem (i := 19) rfl) (mem (i := 7) rfl) (mem (i := 21) rfl) (by decide) pd_4 rfl (rest := []) rfl rfl (by decide) (Nat.le_of_ble_eq_true rfl) (cn' := 4) (sn' := 26) rfl rfl (by decide) (by decide) (pc' := 91) rfl (fun _ _ hq => ?_)
    obtain ⟨ea4, es4, f4, F4, Kes4', rfl, rfl⟩ := hq
    show Go Z k 4 26 ((ea4, ArL Z es4) :: (a1, Obj Z "com/example/mangrove/mangrove/MemorySlidingWindowLog$KeyLog" [("com/example/mangrove/mangrove/MemorySlidingWindowLog$KeyLog", "entries", "[J", (.ref ea4)), ("com/example/mangrove/mangrove/MemorySlidingWindowLog$KeyLog", "size", "I", (.int (2 : Nat).toInt32)), ("com/example/mangrove/mangrove/MemorySlidingWindowLog$KeyLog", "first", "I", (.int f4.toInt32))]) :: F4) 91 #[.val (.int i0), .val (.long i1), .second, .val (.long i2), .second, .val (.int cN.toInt32), .val (.int (2 : Int32)), .val (.int (1 : Int32)), .val (.int (0 : Int32)), .val (.long lim), .second, .val (.ref a1), .unset, .unset, .unset, .unset, .unset] []
    have Kes4 : KL es4 f4 2 ([i1, (i1 + (1 : Int64))] : List Int64) := Kes4'
    refine s_iload H at_91 rfl (pc' := 93) rfl ?_
    refine s_iconst H at_93 (z := (2 : Int32)) (by decide) (pc' := 94) rfl ?_
    refine s_icmp H at_94 (py := 109) (pc' := 97) q_le (by decide) rfl (fun c94 => ?_) (fun c94 => ?_)
    · refine s_lloadn H at_109 rfl (pc' := 110) rfl ?_
      refine s_iload H at_110 rfl (pc' := 112) rfl ?_
      refine s_iconst H at_112 (z := (1 : Int32)) (by decide) (pc' := 113) rfl ?_
      refine s_isub H at_113 (pc' := 114) rfl ?_
      refine s_i2l H at_114 (pc' := 115) rfl ?_
      refine s_ladd H at_115 (pc' := 116) rfl ?_
      refine s_lstore H at_116 (L' := fun z => #[.val (.int i0), .val (.long i1), .second, .val (.long i2), .second, .val (.int cN.toInt32), .val (.int (2 : Int32)), .val (.int (1 : Int32)), .val (.int (0 : Int32)), .val (.long lim), .second, .val (.ref a1), .val (.long z), .second, .unset, .unset, .unset]) (fun _ => rfl) (pc' := 118) rfl (fun af h_af => ?_)
      refine s_aload H at_118 rfl rfl (pc' := 120) rfl ?_
      refine s_virtual H (met_kn H.tb a1 ea4 es4 ([i1] : List Int64) f4 2 (i1 + (1 : Int64)) Kes4) at_120 (i := 1) rfl (mem (i := 26) rfl) (mem (i := 27) rfl) (mem (i := 29) rfl) (mem (i := 28) rfl) (mem (i := 7) rfl) (mem (i := 30) rfl) (by decide) pd_5 rfl (rest := []) rfl rfl (by decide) (Nat.le_of_ble_eq_true rfl) (cn' := 4) (sn' := 26) rfl rfl (by decide) (by decide) (pc' := 123) rfl (fun _ _ hq => ?_)
      obtain ⟨rfl, rfl⟩ := hq
      show Go Z k 4 26 ((ea4, ArL Z es4) :: (a1, Obj Z "com/example/mangrove/mangrove/MemorySlidingWindowLog$KeyLog" [("com/example/mangrove/mangrove/MemorySlidingWindowLog$KeyLog", "entries", "[J", (.ref ea4)), ("com/example/mangrove/mangrove/MemorySlidingWindowLog$KeyLog", "size", "I", (.int (2 : Nat).toInt32)), ("com/example/mangrove/mangrove/MemorySlidingWindowLog$KeyLog", "first", "I", (.int f4.toInt32))]) :: F4) 123 #[.val (.int i0), .val (.long i1), .second, .val (.long i2), .second, .val (.int cN.toInt32), .val (.int (2 : Int32)), .val (.int (1 : Int32)), .val (.int (0 : Int32)), .val (.long lim), .second, .val (.ref a1), .val (.long af), .second, .unset, .unset, .unset] [(.long (i1 + (1 : Int64)))]
      refine s_lload H at_123 rfl (pc' := 125) rfl ?_
      refine s_lcmp H at_125 (pc' := 126) rfl ?_
      refine s_if H at_126 (py := 133) (pc' := 129) l_ne (by decide) rfl (fun c126 => ?_) (fun c126 => ?_)
      · exact absurd (by rw [h_af, show (((2 : Int32) - (1 : Int32)).toInt64) = 1 from by decide]) c126
      · refine s_iconst H at_129 (z := (1 : Int32)) (by decide) (pc' := 130) rfl ?_
        refine s_goto H at_130 (pc' := 134) (by decide) ?_
        refine s_istore H at_134 (L' := fun z => #[.val (.int i0), .val (.long i1), .second, .val (.long i2), .second, .val (.int cN.toInt32), .val (.int (2 : Int32)), .val (.int (1 : Int32)), .val (.int (0 : Int32)), .val (.long lim), .second, .val (.ref a1), .val (.long af), .second, .val (.int z), .unset, .unset]) (fun _ => rfl) (pc' := 136) rfl (fun z0 hz => ?_)
        subst z0
        refine s_iload H at_136 rfl (pc' := 138) rfl ?_
        refine s_if H at_138 (py := 146) (pc' := 141) z_le (by decide) rfl (fun c138 => ?_) (fun c138 => ?_)
        · exact absurd c138 (by decide)
        · refine s_aload H at_141 rfl rfl (pc' := 143) rfl ?_
          refine s_virtual H (met_kr H.tb a1 ea4 es4 ([(i1 + (1 : Int64))] : List Int64) f4 2 i1 Kes4) at_143 (i := 1) rfl (mem (i := 50) rfl) (mem (i := 51) rfl) (mem (i := 53) rfl) (mem (i := 52) rfl) (mem (i := 7) rfl) (mem (i := 54) rfl) (by decide) pd_9 rfl (rest := []) rfl rfl (by decide) (Nat.le_of_ble_eq_true rfl) (cn' := 4) (sn' := 26) rfl rfl (by decide) (by decide) (pc' := 146) rfl (fun _ _ hq => ?_)
          obtain ⟨f5, Kf5', rfl, rfl⟩ := hq
          show Go Z k 4 26 ((ea4, ArL Z es4) :: (a1, Obj Z "com/example/mangrove/mangrove/MemorySlidingWindowLog$KeyLog" [("com/example/mangrove/mangrove/MemorySlidingWindowLog$KeyLog", "entries", "[J", (.ref ea4)), ("com/example/mangrove/mangrove/MemorySlidingWindowLog$KeyLog", "size", "I", (.int (1 : Nat).toInt32)), ("com/example/mangrove/mangrove/MemorySlidingWindowLog$KeyLog", "first", "I", (.int f5.toInt32))]) :: F4) 146 #[.val (.int i0), .val (.long i1), .second, .val (.long i2), .second, .val (.int cN.toInt32), .val (.int (2 : Int32)), .val (.int (1 : Int32)), .val (.int (0 : Int32)), .val (.long lim), .second, .val (.ref a1), .val (.long af), .second, .val (.int (1 : Int32)), .unset, .unset] []
          have Kf5 : KL es4 f5 1 ([(i1 + (1 : Int64))] : List Int64) := Kf5'
          refine s_iload H at_146 rfl (pc' := 148) rfl ?_
          refine s_iconst H at_148 (z := (1 : Int32)) (by decide) (pc' := 149) rfl ?_
          refine s_icmp H at_149 (py := 157) (pc' := 152) q_le (by decide) rfl (fun c149 => ?_) (fun c149 => ?_)
          · refine s_iload H at_157 rfl (pc' := 159) rfl ?_
            refine s_if H at_159 (py := 177) (pc' := 162) z_eq (by decide) rfl (fun c159 => ?_) (fun c159 => ?_)
            · exact absurd c159 (by decide)
            · refine s_aload H at_162 rfl rfl (pc' := 164) rfl ?_
              refine s_virtual H (met_kn H.tb a1 ea4 es4 ([] : List Int64) f5 1 (i1 + (1 : Int64)) Kf5) at_164 (i := 1) rfl (mem (i := 26) rfl) (mem (i := 27) rfl) (mem (i := 29) rfl) (mem (i := 28) rfl) (mem (i := 7) rfl) (mem (i := 30) rfl) (by decide) pd_5 rfl (rest := []) rfl rfl (by decide) (Nat.le_of_ble_eq_true rfl) (cn' := 4) (sn' := 26) rfl rfl (by decide) (by decide) (pc' := 167) rfl (fun _ _ hq => ?_)
              obtain ⟨rfl, rfl⟩ := hq
              show Go Z k 4 26 ((ea4, ArL Z es4) :: (a1, Obj Z "com/example/mangrove/mangrove/MemorySlidingWindowLog$KeyLog" [("com/example/mangrove/mangrove/MemorySlidingWindowLog$KeyLog", "entries", "[J", (.ref ea4)), ("com/example/mangrove/mangrove/MemorySlidingWindowLog$KeyLog", "size", "I", (.int (1 : Nat).toInt32)), ("com/example/mangrove/mangrove/MemorySlidingWindowLog$KeyLog", "first", "I", (.int f5.toInt32))]) :: F4) 167 #[.val (.int i0), .val (.long i1), .second, .val (.long i2), .second, .val (.int cN.toInt32), .val (.int (2 : Int32)), .val (.int (1 : Int32)), .val (.int (0 : Int32)), .val (.long lim), .second, .val (.ref a1), .val (.long af), .second, .val (.int (1 : Int32)), .unset, .unset] [(.long (i1 + (1 : Int64)))]
              refine s_lload H at_167 rfl (pc' := 169) rfl ?_
              refine s_lcmp H at_169 (pc' := 170) rfl ?_
              refine s_if H at_170 (py := 177) (pc' := 173) l_ne (by decide) rfl (fun c170 => ?_) (fun c170 => ?_)
              · exact absurd (by rw [h_af, show (((2 : Int32) - (1 : Int32)).toInt64) = 1 from by decide]) c170
              · refine s_iconst H at_173 (z := (1 : Int32)) (by decide) (pc' := 174) rfl ?_
                refine s_goto H at_174 (pc' := 178) (by decide) ?_
                refine s_istore H at_178 (L' := fun z => #[.val (.int i0), .val (.long i1), .second, .val (.long i2), .second, .val (.int cN.toInt32), .val (.int (2 : Int32)), .val (.int (1 : Int32)), .val (.int (0 : Int32)), .val (.long lim), .second, .val (.ref a1), .val (.long af), .second, .val (.int z), .unset, .unset]) (fun _ => rfl) (pc' := 180) rfl (fun z0 hz => ?_)
                subst z0
                refine s_iload H at_180 rfl (pc' := 182) rfl ?_
                refine s_if H at_182 (py := 197) (pc' := 185) z_le (by decide) rfl (fun c182 => ?_) (fun c182 => ?_)
                · refine s_iload H at_197 rfl (pc' := 199) rfl ?_
                  refine s_iconst H at_199 (z := (1 : Int32)) (by decide) (pc' := 200) rfl ?_
                  refine s_icmp H at_200 (py := 215) (pc' := 203) q_le (by decide) rfl (fun c200 => ?_) (fun c200 => ?_)
                  · refine s_iload H at_215 rfl (pc' := 217) rfl ?_
                    refine s_iconst H at_217 (z := (2 : Int32)) (by decide) (pc' := 218) rfl ?_
                    refine s_icmp H at_218 (py := 233) (pc' := 221) q_le (by decide) rfl (fun c218 => ?_) (fun c218 => ?_)
                    · refine s_iload H at_233 rfl (pc' := 235) rfl ?_
                      refine s_if H at_235 (py := 243) (pc' := 238) z_ne (by decide) rfl (fun c235 => ?_) (fun c235 => ?_)
                      · exact absurd c235 (by decide)
                      · refine s_lload H at_238 rfl (pc' := 240) rfl ?_
                        refine s_goto H at_240 (pc' := 250) (by decide) ?_
                        refine s_lstore H at_250 (L' := fun z => #[.val (.int i0), .val (.long i1), .second, .val (.long i2), .second, .val (.int cN.toInt32), .val (.int (2 : Int32)), .val (.int (1 : Int32)), .val (.int (0 : Int32)), .val (.long lim), .second, .val (.ref a1), .val (.long af), .second, .val (.int (1 : Int32)), .val (.long z), .second]) (fun _ => rfl) (pc' := 252) rfl (fun z0 hz => ?_)
                        subst z0
                        refine s_iload H at_252 rfl (pc' := 254) rfl ?_
                        refine s_if H at_254 (py := 272) (pc' := 257) z_eq (by decide) rfl (fun c254 => ?_) (fun c254 => ?_)
                        · exact absurd c254 (by decide)
                        · refine s_aload H at_257 rfl rfl (pc' := 259) rfl ?_
                          refine s_virtual H (met_kn H.tb a1 ea4 es4 ([] : List Int64) f5 1 (i1 + (1 : Int64)) Kf5) at_259 (i := 1) rfl (mem (i := 26) rfl) (mem (i := 27) rfl) (mem (i := 29) rfl) (mem (i := 28) rfl) (mem (i := 7) rfl) (mem (i := 30) rfl) (by decide) pd_5 rfl (rest := []) rfl rfl (by decide) (Nat.le_of_ble_eq_true rfl) (cn' := 4) (sn' := 26) rfl rfl (by decide) (by decide) (pc' := 262) rfl (fun _ _ hq => ?_)
                          obtain ⟨rfl, rfl⟩ := hq
                          show Go Z k 4 26 ((ea4, ArL Z es4) :: (a1, Obj Z "com/example/mangrove/mangrove/MemorySlidingWindowLog$KeyLog" [("com/example/mangrove/mangrove/MemorySlidingWindowLog$KeyLog", "entries", "[J", (.ref ea4)), ("com/example/mangrove/mangrove/MemorySlidingWindowLog$KeyLog", "size", "I", (.int (1 : Nat).toInt32)), ("com/example/mangrove/mangrove/MemorySlidingWindowLog$KeyLog", "first", "I", (.int f5.toInt32))]) :: F4) 262 #[.val (.int i0), .val (.long i1), .second, .val (.long i2), .second, .val (.int cN.toInt32), .val (.int (2 : Int32)), .val (.int (1 : Int32)), .val (.int (0 : Int32)), .val (.long lim), .second, .val (.ref a1), .val (.long af), .second, .val (.int (1 : Int32)), .val (.long af), .second] [(.long (i1 + (1 : Int64)))]
                          refine s_lload H at_262 rfl (pc' := 264) rfl ?_
                          refine s_lcmp H at_264 (pc' := 265) rfl ?_
                          refine s_if H at_265 (py := 272) (pc' := 268) l_ne (by decide) rfl (fun c265 => ?_) (fun c265 => ?_)
                          · exact absurd (by rw [h_af, show (((2 : Int32) - (1 : Int32)).toInt64) = 1 from by decide]) c265
                          · refine s_iconst H at_268 (z := (1 : Int32)) (by decide) (pc' := 269) rfl ?_
                            refine s_goto H at_269 (pc' := 273) (by decide) ?_
                            exact s_iret H at_273 rfl (by simp) (by decide) (by decide) (rfl)
                    · exact absurd c218 (by decide)
                  · exact absurd c200 (by decide)
                · exact absurd c182 (by decide)
          · exact absurd c149 (by decide)
    · exact absurd c94 (by decide)
set_option maxRecDepth 65536 in
set_option maxHeartbeats 40000000 in
theorem s42_2_1_1 {Z : State} {k : Cx} {i0 : Int32} {i1 i2 : Int64} (cN : Nat) (H : Ok Z k room_1 (LQ) x code maxLocals ret) (h0 : 0 < cN) (hc : cN ≤ 3) : Go Z k 0 0 ([] : Hp) 42 #[.val (.int i0), .val (.long i1), .second, .val (.long i2), .second, .val (.int cN.toInt32), .val (.int (2 : Int32)), .val (.int (1 : Int32)), .val (.int (1 : Int32)), .unset, .unset, .unset, .unset, .unset, .unset, .unset, .unset] [] := by
  refine s_iload H at_42 rfl (pc' := 44) rfl ?_
  refine s_iload H at_44 rfl (pc' := 46) rfl ?_
  refine s_iadd H at_46 (pc' := 47) rfl ?_
  refine s_i2l H at_47 (pc' := 48) rfl ?_
  refine s_lloadn H at_48 rfl (pc' := 49) rfl ?_
  refine s_ldc2 H at_49 (mem (i := 4) rfl) (pc' := 52) rfl ?_
  refine s_land H at_52 (pc' := 53) rfl ?_
  refine s_ladd H at_53 (pc' := 54) rfl ?_
  refine s_lstore H at_54 (L' := fun z => #[.val (.int i0), .val (.long i1), .second, .val (.long i2), .second, .val (.int cN.toInt32), .val (.int (2 : Int32)), .val (.int (1 : Int32)), .val (.int (1 : Int32)), .val (.long z), .second, .unset, .unset, .unset, .unset, .unset, .unset]) (fun _ => rfl) (pc' := 56) rfl (fun lim h_lim => ?_)
  have hl : 3 ≤ lim.toInt := by
    have m := c_maskL i2 4611686018427387903 62 (by decide) (by decide)
    have s := c_ladd ((((2 : Int32) + (1 : Int32)).toInt64)) (i2 &&& 4611686018427387903)
    rw [← h_lim, show ((((2 : Int32) + (1 : Int32)).toInt64)).toInt = 3 from by decide] at s
    have rl := rng64 lim
    omega
  refine s_new H (C := "com/example/mangrove/mangrove/MemorySlidingWindowLog$KeyLog") [("com/example/mangrove/mangrove/MemorySlidingWindowLog$KeyLog", "entries", "[J", .null), ("com/example/mangrove/mangrove/MemorySlidingWindowLog$KeyLog", "size", "I", (.int (0 : Int32))), ("com/example/mangrove/mangrove/MemorySlidingWindowLog$KeyLog", "first", "I", (.int (0 : Int32)))] at_56 (mem (i := 5) rfl) (mem (i := 6) rfl) (mem (i := 7) rfl) (allC ⟨Or.inl (mem (i := 16) rfl), (.array .long), by decide, rfl⟩ (allC ⟨Or.inl (mem (i := 23) rfl), .int, by decide, rfl⟩ (allC ⟨Or.inl (mem (i := 25) rfl), .int, by decide, rfl⟩ allN))) (by decide) (cn' := 1) (sn' := 3) rfl rfl (by decide) (by decide) (pc' := 59) rfl (fun a1 => ?_)
  refine s_dup H at_59 rfl (pc' := 60) rfl ?_
  refine s_iload H at_60 rfl (pc' := 62) rfl ?_
  refine s_init H (met_ki H.tb a1 cN hc) at_62 rfl (mem (i := 8) rfl) (mem (i := 9) rfl) (mem (i := 7) rfl) (mem (i := 10) rfl) (by decide) pd_2 rfl (rest := [(.ref a1)]) rfl rfl (by decide) (Nat.le_of_ble_eq_true rfl) (cn' := 2) (sn' := 6) rfl rfl (by decide) (by decide) (pc' := 65) rfl (fun _ _ hq => ?_)
  obtain ⟨ea, rfl, rfl⟩ := hq
  show Go Z k 2 6 ((ea, ArL Z (List.replicate cN 0)) :: (a1, Obj Z "com/example/mangrove/mangrove/MemorySlidingWindowLog$KeyLog" [("com/example/mangrove/mangrove/MemorySlidingWindowLog$KeyLog", "entries", "[J", (.ref ea)), ("com/example/mangrove/mangrove/MemorySlidingWindowLog$KeyLog", "size", "I", (.int (0 : Nat).toInt32)), ("com/example/mangrove/mangrove/MemorySlidingWindowLog$KeyLog", "first", "I", (.int (0 : Nat).toInt32))]) :: []) 65 #[.val (.int i0), .val (.long i1), .second, .val (.long i2), .second, .val (.int cN.toInt32), .val (.int (2 : Int32)), .val (.int (1 : Int32)), .val (.int (1 : Int32)), .val (.long lim), .second, .unset, .unset, .unset, .unset, .unset, .unset] [(.ref a1)]
  obtain ⟨es2, he, les2, Kes2⟩ : ∃ es : List Int64, es = List.replicate cN 0 ∧ es.length = cN ∧ KL es 0 0 [] := ⟨_, rfl, by simp, KL.new (by omega) (by omega)⟩
  rw [← he]
  clear he
  show Go Z k 2 6 ((ea, ArL Z es2) :: (a1, Obj Z "com/example/mangrove/mangrove/MemorySlidingWindowLog$KeyLog" [("com/example/mangrove/mangrove/MemorySlidingWindowLog$KeyLog", "entries", "[J", (.ref ea)), ("com/example/mangrove/mangrove/MemorySlidingWindowLog$KeyLog", "size", "I", (.int (0 : Nat).toInt32)), ("com/example/mangrove/mangrove/MemorySlidingWindowLog$KeyLog", "first", "I", (.int (0 : Nat).toInt32))]) :: []) 65 #[.val (.int i0), .val (.long i1), .second, .val (.long i2), .second, .val (.int cN.toInt32), .val (.int (2 : Int32)), .val (.int (1 : Int32)), .val (.int (1 : Int32)), .val (.long lim), .second, .unset, .unset, .unset, .unset, .unset, .unset] [(.ref a1)]
  refine s_astore H at_65 (L' := #[.val (.int i0), .val (.long i1), .second, .val (.long i2), .second, .val (.int cN.toInt32), .val (.int (2 : Int32)), .val (.int (1 : Int32)), .val (.int (1 : Int32)), .val (.long lim), .second, .val (.ref a1), .unset, .unset, .unset, .unset, .unset]) rfl rfl (pc' := 67) rfl ?_
  refine s_aload H at_67 rfl rfl (pc' := 69) rfl ?_
  refine s_lloadn H at_69 rfl (pc' := 70) rfl ?_
  refine s_lload H at_70 rfl (pc' := 72) rfl ?_
  refine s_virtual H (met_ka H.tb a1 ea es2 ([] : List Int64) (0 : Nat) 0 i1 lim Kes2 (by decide) (by omega)) at_72 (i := 1) rfl (mem (i := 17) rfl) (mem (i := 18) rfl) (mem (i := 20) rfl) (mem (i := 19) rfl) (mem (i := 7) rfl) (mem (i := 21) rfl) (by decide) pd_4 rfl (rest := []) rfl rfl (by decide) (Nat.le_of_ble_eq_true rfl) (cn' := 3) (sn' := 16) rfl rfl (by decide) (by decide) (pc' := 75) rfl (fun _ _ hq => ?_)
  obtain ⟨ea3, es3, f3, F3, Kes3', rfl, rfl⟩ := hq
  show Go Z k 3 16 ((ea3, ArL Z es3) :: (a1, Obj Z "com/example/mangrove/mangrove/MemorySlidingWindowLog$KeyLog" [("com/example/mangrove/mangrove/MemorySlidingWindowLog$KeyLog", "entries", "[J", (.ref ea3)), ("com/example/mangrove/mangrove/MemorySlidingWindowLog$KeyLog", "size", "I", (.int (1 : Nat).toInt32)), ("com/example/mangrove/mangrove/MemorySlidingWindowLog$KeyLog", "first", "I", (.int f3.toInt32))]) :: F3) 75 #[.val (.int i0), .val (.long i1), .second, .val (.long i2), .second, .val (.int cN.toInt32), .val (.int (2 : Int32)), .val (.int (1 : Int32)), .val (.int (1 : Int32)), .val (.long lim), .second, .val (.ref a1), .unset, .unset, .unset, .unset, .unset] []
  have Kes3 : KL es3 f3 1 ([i1] : List Int64) := Kes3'
  refine s_iload H at_75 rfl (pc' := 77) rfl ?_
  refine s_iconst H at_77 (z := (1 : Int32)) (by decide) (pc' := 78) rfl ?_
  refine s_icmp H at_78 (py := 91) (pc' := 81) q_le (by decide) rfl (fun c78 => ?_) (fun c78 => ?_)
  · exact absurd c78 (by decide)
  · refine s_aload H at_81 rfl rfl (pc' := 83) rfl ?_
    refine s_lloadn H at_83 rfl (pc' := 84) rfl ?_
    refine s_lconst H at_84 (z := (1 : Int64)) (by decide) (pc' := 85) rfl ?_
    refine s_ladd H at_85 (pc' := 86) rfl ?_
    refine s_lload H at_86 rfl (pc' := 88) rfl ?_
    refine s_virtual H (met_ka H.tb a1 ea3 es3 ([i1] : List Int64) f3 1 (i1 + (1 : Int64)) lim Kes3 (by decide) (by omega)) at_88 (i := 1) rfl (mem (i := 17) rfl) (mem (i := 18) rfl) (mem (i := 20) rfl) (mem (i := 19) rfl) (mem (i := 7) rfl) (mem (i := 21) rfl) (by decide) pd_4 rfl (rest := []) rfl rfl (by decide) (Nat.le_of_ble_eq_true rfl) (cn' := 4) (sn' := 26) rfl rfl (by decide) (by decide) (pc' := 91) rfl (fun _ _ hq => ?_)
    obtain ⟨ea4, es4, f4, F4, Kes4', rfl, rfl⟩ := hq
    show Go Z k 4 26 ((ea4, ArL Z es4) :: (a1, Obj Z "com/example/mangrove/mangrove/MemorySlidingWindowLog$KeyLog" [("com/example/mangrove/mangrove/MemorySlidingWindowLog$KeyLog", "entries", "[J", (.ref ea4)), ("com/example/mangrove/mangrove/MemorySlidingWindowLog$KeyLog", "size", "I", (.int (2 : Nat).toInt32)), ("com/example/mangrove/mangrove/MemorySlidingWindowLog$KeyLog", "first", "I", (.int f4.toInt32))]) :: F4) 91 #[.val (.int i0), .val (.long i1), .second, .val (.long i2), .second, .val (.int cN.toInt32), .val (.int (2 : Int32)), .val (.int (1 : Int32)), .val (.int (1 : Int32)), .val (.long lim), .second, .val (.ref a1), .unset, .unset, .unset, .unset, .unset] []
    have Kes4 : KL es4 f4 2 ([i1, (i1 + (1 : Int64))] : List Int64) := Kes4'
    refine s_iload H at_91 rfl (pc' := 93) rfl ?_
    refine s_iconst H at_93 (z := (2 : Int32)) (by decide) (pc' := 94) rfl ?_
    refine s_icmp H at_94 (py := 109) (pc' := 97) q_le (by decide) rfl (fun c94 => ?_) (fun c94 => ?_)
    · refine s_lloadn H at_109 rfl (pc' := 110) rfl ?_
      refine s_iload H at_110 rfl (pc' := 112) rfl ?_
      refine s_iconst H at_112 (z := (1 : Int32)) (by decide) (pc' := 113) rfl ?_
      refine s_isub H at_113 (pc' := 114) rfl ?_
      refine s_i2l H at_114 (pc' := 115) rfl ?_
      refine s_ladd H at_115 (pc' := 116) rfl ?_
      refine s_lstore H at_116 (L' := fun z => #[.val (.int i0), .val (.long i1), .second, .val (.long i2), .second, .val (.int cN.toInt32), .val (.int (2 : Int32)), .val (.int (1 : Int32)), .val (.int (1 : Int32)), .val (.long lim), .second, .val (.ref a1), .val (.long z), .second, .unset, .unset, .unset]) (fun _ => rfl) (pc' := 118) rfl (fun af h_af => ?_)
      refine s_aload H at_118 rfl rfl (pc' := 120) rfl ?_
      refine s_virtual H (met_kn H.tb a1 ea4 es4 ([i1] : List Int64) f4 2 (i1 + (1 : Int64)) Kes4) at_120 (i := 1) rfl (mem (i := 26) rfl) (mem (i := 27) rfl) (mem (i := 29) rfl) (mem (i := 28) rfl) (mem (i := 7) rfl) (mem (i := 30) rfl) (by decide) pd_5 rfl (rest := []) rfl rfl (by decide) (Nat.le_of_ble_eq_true rfl) (cn' := 4) (sn' := 26) rfl rfl (by decide) (by decide) (pc' := 123) rfl (fun _ _ hq => ?_)
      obtain ⟨rfl, rfl⟩ := hq
      show Go Z k 4 26 ((ea4, ArL Z es4) :: (a1, Obj Z "com/example/mangrove/mangrove/MemorySlidingWindowLog$KeyLog" [("com/example/mangrove/mangrove/MemorySlidingWindowLog$KeyLog", "entries", "[J", (.ref ea4)), ("com/example/mangrove/mangrove/MemorySlidingWindowLog$KeyLog", "size", "I", (.int (2 : Nat).toInt32)), ("com/example/mangrove/mangrove/MemorySlidingWindowLog$KeyLog", "first", "I", (.int f4.toInt32))]) :: F4) 123 #[.val (.int i0), .val (.long i1), .second, .val (.long i2), .second, .val (.int cN.toInt32), .val (.int (2 : Int32)), .val (.int (1 : Int32)), .val (.int (1 : Int32)), .val (.long lim), .second, .val (.ref a1), .val (.long af), .second, .unset, .unset, .unset] [(.long (i1 + (1 : Int64)))]
      refine s_lload H at_123 rfl (pc' := 125) rfl ?_
      refine s_lcmp H at_125 (pc' := 126) rfl ?_
      refine s_if H at_126 (py := 133) (pc' := 129) l_ne (by decide) rfl (fun c126 => ?_) (fun c126 => ?_)
      · exact absurd (by rw [h_af, show (((2 : Int32) - (1 : Int32)).toInt64) = 1 from by decide]) c126
      · refine s_iconst H at_129 (z := (1 : Int32)) (by decide) (pc' := 130) rfl ?_
        refine s_goto H at_130 (pc' := 134) (by decide) ?_
        refine s_istore H at_134 (L' := fun z => #[.val (.int i0), .val (.long i1), .second, .val (.long i2), .second, .val (.int cN.toInt32), .val (.int (2 : Int32)), .val (.int (1 : Int32)), .val (.int (1 : Int32)), .val (.long lim), .second, .val (.ref a1), .val (.long af), .second, .val (.int z), .unset, .unset]) (fun _ => rfl) (pc' := 136) rfl (fun z0 hz => ?_)
        subst z0
        refine s_iload H at_136 rfl (pc' := 138) rfl ?_
        refine s_if H at_138 (py := 146) (pc' := 141) z_le (by decide) rfl (fun c138 => ?_) (fun c138 => ?_)
        · exact absurd c138 (by decide)
        · refine s_aload H at_141 rfl rfl (pc' := 143) rfl ?_
          refine s_virtual H (met_kr H.tb a1 ea4 es4 ([(i1 + (1 : Int64))] : List Int64) f4 2 i1 Kes4) at_143 (i := 1) rfl (mem (i := 50) rfl) (mem (i := 51) rfl) (mem (i := 53) rfl) (mem (i := 52) rfl) (mem (i := 7) rfl) (mem (i := 54) rfl) (by decide) pd_9 rfl (rest := []) rfl rfl (by decide) (Nat.le_of_ble_eq_true rfl) (cn' := 4) (sn' := 26) rfl rfl (by decide) (by decide) (pc' := 146) rfl (fun _ _ hq => ?_)
          obtain ⟨f5, Kf5', rfl, rfl⟩ := hq
          show Go Z k 4 26 ((ea4, ArL Z es4) :: (a1, Obj Z "com/example/mangrove/mangrove/MemorySlidingWindowLog$KeyLog" [("com/example/mangrove/mangrove/MemorySlidingWindowLog$KeyLog", "entries", "[J", (.ref ea4)), ("com/example/mangrove/mangrove/MemorySlidingWindowLog$KeyLog", "size", "I", (.int (1 : Nat).toInt32)), ("com/example/mangrove/mangrove/MemorySlidingWindowLog$KeyLog", "first", "I", (.int f5.toInt32))]) :: F4) 146 #[.val (.int i0), .val (.long i1), .second, .val (.long i2), .second, .val (.int cN.toInt32), .val (.int (2 : Int32)), .val (.int (1 : Int32)), .val (.int (1 : Int32)), .val (.long lim), .second, .val (.ref a1), .val (.long af), .second, .val (.int (1 : Int32)), .unset, .unset] []
          have Kf5 : KL es4 f5 1 ([(i1 + (1 : Int64))] : List Int64) := Kf5'
          refine s_iload H at_146 rfl (pc' := 148) rfl ?_
          refine s_iconst H at_148 (z := (1 : Int32)) (by decide) (pc' := 149) rfl ?_
          refine s_icmp H at_149 (py := 157) (pc' := 152) q_le (by decide) rfl (fun c149 => ?_) (fun c149 => ?_)
          · refine s_iload H at_157 rfl (pc' := 159) rfl ?_
            refine s_if H at_159 (py := 177) (pc' := 162) z_eq (by decide) rfl (fun c159 => ?_) (fun c159 => ?_)
            · exact absurd c159 (by decide)
            · refine s_aload H at_162 rfl rfl (pc' := 164) rfl ?_
              refine s_virtual H (met_kn H.tb a1 ea4 es4 ([] : List Int64) f5 1 (i1 + (1 : Int64)) Kf5) at_164 (i := 1) rfl (mem (i := 26) rfl) (mem (i := 27) rfl) (mem (i := 29) rfl) (mem (i := 28) rfl) (mem (i := 7) rfl) (mem (i := 30) rfl) (by decide) pd_5 rfl (rest := []) rfl rfl (by decide) (Nat.le_of_ble_eq_true rfl) (cn' := 4) (sn' := 26) rfl rfl (by decide) (by decide) (pc' := 167) rfl (fun _ _ hq => ?_)
              obtain ⟨rfl, rfl⟩ := hq
              show Go Z k 4 26 ((ea4, ArL Z es4) :: (a1, Obj Z "com/example/mangrove/mangrove/MemorySlidingWindowLog$KeyLog" [("com/example/mangrove/mangrove/MemorySlidingWindowLog$KeyLog", "entries", "[J", (.ref ea4)), ("com/example/mangrove/mangrove/MemorySlidingWindowLog$KeyLog", "size", "I", (.int (1 : Nat).toInt32)), ("com/example/mangrove/mangrove/MemorySlidingWindowLog$KeyLog", "first", "I", (.int f5.toInt32))]) :: F4) 167 #[.val (.int i0), .val (.long i1), .second, .val (.long i2), .second, .val (.int cN.toInt32), .val (.int (2 : Int32)), .val (.int (1 : Int32)), .val (.int (1 : Int32)), .val (.long lim), .second, .val (.ref a1), .val (.long af), .second, .val (.int (1 : Int32)), .unset, .unset] [(.long (i1 + (1 : Int64)))]
              refine s_lload H at_167 rfl (pc' := 169) rfl ?_
              refine s_lcmp H at_169 (pc' := 170) rfl ?_
              refine s_if H at_170 (py := 177) (pc' := 173) l_ne (by decide) rfl (fun c170 => ?_) (fun c170 => ?_)
              · exact absurd (by rw [h_af, show (((2 : Int32) - (1 : Int32)).toInt64) = 1 from by decide]) c170
              · refine s_iconst H at_173 (z := (1 : Int32)) (by decide) (pc' := 174) rfl ?_
                refine s_goto H at_174 (pc' := 178) (by decide) ?_
                refine s_istore H at_178 (L' := fun z => #[.val (.int i0), .val (.long i1), .second, .val (.long i2), .second, .val (.int cN.toInt32), .val (.int (2 : Int32)), .val (.int (1 : Int32)), .val (.int (1 : Int32)), .val (.long lim), .second, .val (.ref a1), .val (.long af), .second, .val (.int z), .unset, .unset]) (fun _ => rfl) (pc' := 180) rfl (fun z0 hz => ?_)
                subst z0
                refine s_iload H at_180 rfl (pc' := 182) rfl ?_
                refine s_if H at_182 (py := 197) (pc' := 185) z_le (by decide) rfl (fun c182 => ?_) (fun c182 => ?_)
                · exact absurd c182 (by decide)
                · refine s_aload H at_185 rfl rfl (pc' := 187) rfl ?_
                  refine s_lloadn H at_187 rfl (pc' := 188) rfl ?_
                  refine s_ldc2 H at_188 (mem (i := 46) rfl) (pc' := 191) rfl ?_
                  refine s_ladd H at_191 (pc' := 192) rfl ?_
                  refine s_lload H at_192 rfl (pc' := 194) rfl ?_
                  refine s_virtual H (met_ka H.tb a1 ea4 es4 ([(i1 + (1 : Int64))] : List Int64) f5 1 (i1 + (3 : Int64)) lim Kf5 (by decide) (by omega)) at_194 (i := 1) rfl (mem (i := 17) rfl) (mem (i := 18) rfl) (mem (i := 20) rfl) (mem (i := 19) rfl) (mem (i := 7) rfl) (mem (i := 21) rfl) (by decide) pd_4 rfl (rest := []) rfl rfl (by decide) (Nat.le_of_ble_eq_true rfl) (cn' := 5) (sn' := 36) rfl rfl (by decide) (by decide) (pc' := 197) rfl (fun _ _ hq => ?_)
                  obtain ⟨ea6, es6, f6, F6, Kes6', rfl, rfl⟩ := hq
                  show Go Z k 5 36 ((ea6, ArL Z es6) :: (a1, Obj Z "com/example/mangrove/mangrove/MemorySlidingWindowLog$KeyLog" [("com/example/mangrove/mangrove/MemorySlidingWindowLog$KeyLog", "entries", "[J", (.ref ea6)), ("com/example/mangrove/mangrove/MemorySlidingWindowLog$KeyLog", "size", "I", (.int (2 : Nat).toInt32)), ("com/example/mangrove/mangrove/MemorySlidingWindowLog$KeyLog", "first", "I", (.int f6.toInt32))]) :: F6) 197 #[.val (.int i0), .val (.long i1), .second, .val (.long i2), .second, .val (.int cN.toInt32), .val (.int (2 : Int32)), .val (.int (1 : Int32)), .val (.int (1 : Int32)), .val (.long lim), .second, .val (.ref a1), .val (.long af), .second, .val (.int (1 : Int32)), .unset, .unset] []
                  have Kes6 : KL es6 f6 2 ([(i1 + (1 : Int64)), (i1 + (3 : Int64))] : List Int64) := Kes6'
                  refine s_iload H at_197 rfl (pc' := 199) rfl ?_
                  refine s_iconst H at_199 (z := (1 : Int32)) (by decide) (pc' := 200) rfl ?_
                  refine s_icmp H at_200 (py := 215) (pc' := 203) q_le (by decide) rfl (fun c200 => ?_) (fun c200 => ?_)
                  · refine s_iload H at_215 rfl (pc' := 217) rfl ?_
                    refine s_iconst H at_217 (z := (2 : Int32)) (by decide) (pc' := 218) rfl ?_
                    refine s_icmp H at_218 (py := 233) (pc' := 221) q_le (by decide) rfl (fun c218 => ?_) (fun c218 => ?_)
                    · refine s_iload H at_233 rfl (pc' := 235) rfl ?_
                      refine s_if H at_235 (py := 243) (pc' := 238) z_ne (by decide) rfl (fun c235 => ?_) (fun c235 => ?_)
                      · refine s_lloadn H at_243 rfl (pc' := 244) rfl ?_
                        refine s_iconst H at_244 (z := (2 : Int32)) (by decide) (pc' := 245) rfl ?_
                        refine s_iload H at_245 rfl (pc' := 247) rfl ?_
                        refine s_iadd H at_247 (pc' := 248) rfl ?_
                        refine s_i2l H at_248 (pc' := 249) rfl ?_
                        refine s_ladd H at_249 (pc' := 250) rfl ?_
                        refine s_lstore H at_250 (L' := fun z => #[.val (.int i0), .val (.long i1), .second, .val (.long i2), .second, .val (.int cN.toInt32), .val (.int (2 : Int32)), .val (.int (1 : Int32)), .val (.int (1 : Int32)), .val (.long lim), .second, .val (.ref a1), .val (.long af), .second, .val (.int (1 : Int32)), .val (.long z), .second]) (fun _ => rfl) (pc' := 252) rfl (fun la h_la => ?_)
                        refine s_iload H at_252 rfl (pc' := 254) rfl ?_
                        refine s_if H at_254 (py := 272) (pc' := 257) z_eq (by decide) rfl (fun c254 => ?_) (fun c254 => ?_)
                        · exact absurd c254 (by decide)
                        · refine s_aload H at_257 rfl rfl (pc' := 259) rfl ?_
                          refine s_virtual H (met_kn H.tb a1 ea6 es6 ([(i1 + (1 : Int64))] : List Int64) f6 2 (i1 + (3 : Int64)) Kes6) at_259 (i := 1) rfl (mem (i := 26) rfl) (mem (i := 27) rfl) (mem (i := 29) rfl) (mem (i := 28) rfl) (mem (i := 7) rfl) (mem (i := 30) rfl) (by decide) pd_5 rfl (rest := []) rfl rfl (by decide) (Nat.le_of_ble_eq_true rfl) (cn' := 5) (sn' := 36) rfl rfl (by decide) (by decide) (pc' := 262) rfl (fun _ _ hq => ?_)
                          obtain ⟨rfl, rfl⟩ := hq
                          show Go Z k 5 36 ((ea6, ArL Z es6) :: (a1, Obj Z "com/example/mangrove/mangrove/MemorySlidingWindowLog$KeyLog" [("com/example/mangrove/mangrove/MemorySlidingWindowLog$KeyLog", "entries", "[J", (.ref ea6)), ("com/example/mangrove/mangrove/MemorySlidingWindowLog$KeyLog", "size", "I", (.int (2 : Nat).toInt32)), ("com/example/mangrove/mangrove/MemorySlidingWindowLog$KeyLog", "first", "I", (.int f6.toInt32))]) :: F6) 262 #[.val (.int i0), .val (.long i1), .second, .val (.long i2), .second, .val (.int cN.toInt32), .val (.int (2 : Int32)), .val (.int (1 : Int32)), .val (.int (1 : Int32)), .val (.long lim), .second, .val (.ref a1), .val (.long af), .second, .val (.int (1 : Int32)), .val (.long la), .second] [(.long (i1 + (3 : Int64)))]
                          refine s_lload H at_262 rfl (pc' := 264) rfl ?_
                          refine s_lcmp H at_264 (pc' := 265) rfl ?_
                          refine s_if H at_265 (py := 272) (pc' := 268) l_ne (by decide) rfl (fun c265 => ?_) (fun c265 => ?_)
                          · exact absurd (by rw [h_la, show (((2 : Int32) + (1 : Int32)).toInt64) = 3 from by decide]) c265
                          · refine s_iconst H at_268 (z := (1 : Int32)) (by decide) (pc' := 269) rfl ?_
                            refine s_goto H at_269 (pc' := 273) (by decide) ?_
                            exact s_iret H at_273 rfl (by simp) (by decide) (by decide) (rfl)
                      · exact absurd c235 (by decide)
                    · exact absurd c218 (by decide)
                  · exact absurd c200 (by decide)
          · exact absurd c149 (by decide)
    · exact absurd c94 (by decide)
set_option maxRecDepth 65536 in
set_option maxHeartbeats 40000000 in
theorem s42_2_1_2 {Z : State} {k : Cx} {i0 : Int32} {i1 i2 : Int64} (cN : Nat) (H : Ok Z k room_1 (LQ) x code maxLocals ret) (h0 : 0 < cN) (hc : cN ≤ 3) : Go Z k 0 0 ([] : Hp) 42 #[.val (.int i0), .val (.long i1), .second, .val (.long i2), .second, .val (.int cN.toInt32), .val (.int (2 : Int32)), .val (.int (1 : Int32)), .val (.int (2 : Int32)), .unset, .unset, .unset, .unset, .unset, .unset, .unset, .unset] [] := by
  refine s_iload H at_42 rfl (pc' := 44) rfl ?_
  refine s_iload H at_44 rfl (pc' := 46) rfl ?_
  refine s_iadd H at_46 (pc' := 47) rfl ?_
  refine s_i2l H at_47 (pc' := 48) rfl ?_
  refine s_lloadn H at_48 rfl (pc' := 49) rfl ?_
  refine s_ldc2 H at_49 (mem (i := 4) rfl) (pc' := 52) rfl ?_
  refine s_land H at_52 (pc' := 53) rfl ?_
  refine s_ladd H at_53 (pc' := 54) rfl ?_
  refine s_lstore H at_54 (L' := fun z => #[.val (.int i0), .val (.long i1), .second, .val (.long i2), .second, .val (.int cN.toInt32), .val (.int (2 : Int32)), .val (.int (1 : Int32)), .val (.int (2 : Int32)), .val (.long z), .second, .unset, .unset, .unset, .unset, .unset, .unset]) (fun _ => rfl) (pc' := 56) rfl (fun lim h_lim => ?_)
  have hl : 4 ≤ lim.toInt := by
    have m := c_maskL i2 4611686018427387903 62 (by decide) (by decide)
    have s := c_ladd ((((2 : Int32) + (2 : Int32)).toInt64)) (i2 &&& 4611686018427387903)
    rw [← h_lim, show ((((2 : Int32) + (2 : Int32)).toInt64)).toInt = 4 from by decide] at s
    have rl := rng64 lim
    omega
  refine s_new H (C := "com/example/mangrove/mangrove/MemorySlidingWindowLog$KeyLog") [("com/example/mangrove/mangrove/MemorySlidingWindowLog$KeyLog", "entries", "[J", .null), ("com/example/mangrove/mangrove/MemorySlidingWindowLog$KeyLog", "size", "I", (.int (0 : Int32))), ("com/example/mangrove/mangrove/MemorySlidingWindowLog$KeyLog", "first", "I", (.int (0 : Int32)))] at_56 (mem (i := 5) rfl) (mem (i := 6) rfl) (mem (i := 7) rfl) (allC ⟨Or.inl (mem (i := 16) rfl), (.array .long), by decide, rfl⟩ (allC ⟨Or.inl (mem (i := 23) rfl), .int, by decide, rfl⟩ (allC ⟨Or.inl (mem (i := 25) rfl), .int, by decide, rfl⟩ allN))) (by decide) (cn' := 1) (sn' := 3) rfl rfl (by decide) (by decide) (pc' := 59) rfl (fun a1 => ?_)
  refine s_dup H at_59 rfl (pc' := 60) rfl ?_
  refine s_iload H at_60 rfl (pc' := 62) rfl ?_
  refine s_init H (met_ki H.tb a1 cN hc) at_62 rfl (mem (i := 8) rfl) (mem (i := 9) rfl) (mem (i := 7) rfl) (mem (i := 10) rfl) (by decide) pd_2 rfl (rest := [(.ref a1)]) rfl rfl (by decide) (Nat.le_of_ble_eq_true rfl) (cn' := 2) (sn' := 6) rfl rfl (by decide) (by decide) (pc' := 65) rfl (fun _ _ hq => ?_)
  obtain ⟨ea, rfl, rfl⟩ := hq
  show Go Z k 2 6 ((ea, ArL Z (List.replicate cN 0)) :: (a1, Obj Z "com/example/mangrove/mangrove/MemorySlidingWindowLog$KeyLog" [("com/example/mangrove/mangrove/MemorySlidingWindowLog$KeyLog", "entries", "[J", (.ref ea)), ("com/example/mangrove/mangrove/MemorySlidingWindowLog$KeyLog", "size", "I", (.int (0 : Nat).toInt32)), ("com/example/mangrove/mangrove/MemorySlidingWindowLog$KeyLog", "first", "I", (.int (0 : Nat).toInt32))]) :: []) 65 #[.val (.int i0), .val (.long i1), .second, .val (.long i2), .second, .val (.int cN.toInt32), .val (.int (2 : Int32)), .val (.int (1 : Int32)), .val (.int (2 : Int32)), .val (.long lim), .second, .unset, .unset, .unset, .unset, .unset, .unset] [(.ref a1)]
  obtain ⟨es2, he, les2, Kes2⟩ : ∃ es : List Int64, es = List.replicate cN 0 ∧ es.length = cN ∧ KL es 0 0 [] := ⟨_, rfl, by simp, KL.new (by omega) (by omega)⟩
  rw [← he]
  clear he
  show Go Z k 2 6 ((ea, ArL Z es2) :: (a1, Obj Z "com/example/mangrove/mangrove/MemorySlidingWindowLog$KeyLog" [("com/example/mangrove/mangrove/MemorySlidingWindowLog$KeyLog", "entries", "[J", (.ref ea)), ("com/example/mangrove/mangrove/MemorySlidingWindowLog$KeyLog", "size", "I", (.int (0 : Nat).toInt32)), ("com/example/mangrove/mangrove/MemorySlidingWindowLog$KeyLog", "first", "I", (.int (0 : Nat).toInt32))]) :: []) 65 #[.val (.int i0), .val (.long i1), .second, .val (.long i2), .second, .val (.int cN.toInt32), .val (.int (2 : Int32)), .val (.int (1 : Int32)), .val (.int (2 : Int32)), .val (.long lim), .second, .unset, .unset, .unset, .unset, .unset, .unset] [(.ref a1)]
  refine s_astore H at_65 (L' := #[.val (.int i0), .val (.long i1), .second, .val (.long i2), .second, .val (.int cN.toInt32), .val (.int (2 : Int32)), .val (.int (1 : Int32)), .val (.int (2 : Int32)), .val (.long lim), .second, .val (.ref a1), .unset, .unset, .unset, .unset, .unset]) rfl rfl (pc' := 67) rfl ?_
  refine s_aload H at_67 rfl rfl (pc' := 69) rfl ?_
  refine s_lloadn H at_69 rfl (pc' := 70) rfl ?_
  refine s_lload H at_70 rfl (pc' := 72) rfl ?_
  refine s_virtual H (met_ka H.tb a1 ea es2 ([] : List Int64) (0 : Nat) 0 i1 lim Kes2 (by decide) (by omega)) at_72 (i := 1) rfl (mem (i := 17) rfl) (mem (i := 18) rfl) (mem (i := 20) rfl) (mem (i := 19) rfl) (mem (i := 7) rfl) (mem (i := 21) rfl) (by decide) pd_4 rfl (rest := []) rfl rfl (by decide) (Nat.le_of_ble_eq_true rfl) (cn' := 3) (sn' := 16) rfl rfl (by decide) (by decide) (pc' := 75) rfl (fun _ _ hq => ?_)
  obtain ⟨ea3, es3, f3, F3, Kes3', rfl, rfl⟩ := hq
  show Go Z k 3 16 ((ea3, ArL Z es3) :: (a1, Obj Z "com/example/mangrove/mangrove/MemorySlidingWindowLog$KeyLog" [("com/example/mangrove/mangrove/MemorySlidingWindowLog$KeyLog", "entries", "[J", (.ref ea3)), ("com/example/mangrove/mangrove/MemorySlidingWindowLog$KeyLog", "size", "I", (.int (1 : Nat).toInt32)), ("com/example/mangrove/mangrove/MemorySlidingWindowLog$KeyLog", "first", "I", (.int f3.toInt32))]) :: F3) 75 #[.val (.int i0), .val (.long i1), .second, .val (.long i2), .second, .val (.int cN.toInt32), .val (.int (2 : Int32)), .val (.int (1 : Int32)), .val (.int (2 : Int32)), .val (.long lim), .second, .val (.ref a1), .unset, .unset, .unset, .unset, .unset] []
  have Kes3 : KL es3 f3 1 ([i1] : List Int64) := Kes3'
  refine s_iload H at_75 rfl (pc' := 77) rfl ?_
  refine s_iconst H at_77 (z := (1 : Int32)) (by decide) (pc' := 78) rfl ?_
  refine s_icmp H at_78 (py := 91) (pc' := 81) q_le (by decide) rfl (fun c78 => ?_) (fun c78 => ?_)
  · exact absurd c78 (by decide)
  · refine s_aload H at_81 rfl rfl (pc' := 83) rfl ?_
    refine s_lloadn H at_83 rfl (pc' := 84) rfl ?_
    refine s_lconst H at_84 (z := (1 : Int64)) (by decide) (pc' := 85) rfl ?_
    refine s_ladd H at_85 (pc' := 86) rfl ?_
    refine s_lload H at_86 rfl (pc' := 88) rfl ?_
    refine s_virtual H (met_ka H.tb a1 ea3 es3 ([i1] : List Int64) f3 1 (i1 + (1 : Int64)) lim Kes3 (by decide) (by omega)) at_88 (i := 1) rfl (mem (i := 17) rfl) (mem (i := 18) rfl) (mem (i := 20) rfl) (mem (i := 19) rfl) (mem (i := 7) rfl) (mem (i := 21) rfl) (by decide) pd_4 rfl (rest := []) rfl rfl (by decide) (Nat.le_of_ble_eq_true rfl) (cn' := 4) (sn' := 26) rfl rfl (by decide) (by decide) (pc' := 91) rfl (fun _ _ hq => ?_)
    obtain ⟨ea4, es4, f4, F4, Kes4', rfl, rfl⟩ := hq
    show Go Z k 4 26 ((ea4, ArL Z es4) :: (a1, Obj Z "com/example/mangrove/mangrove/MemorySlidingWindowLog$KeyLog" [("com/example/mangrove/mangrove/MemorySlidingWindowLog$KeyLog", "entries", "[J", (.ref ea4)), ("com/example/mangrove/mangrove/MemorySlidingWindowLog$KeyLog", "size", "I", (.int (2 : Nat).toInt32)), ("com/example/mangrove/mangrove/MemorySlidingWindowLog$KeyLog", "first", "I", (.int f4.toInt32))]) :: F4) 91 #[.val (.int i0), .val (.long i1), .second, .val (.long i2), .second, .val (.int cN.toInt32), .val (.int (2 : Int32)), .val (.int (1 : Int32)), .val (.int (2 : Int32)), .val (.long lim), .second, .val (.ref a1), .unset, .unset, .unset, .unset, .unset] []
    have Kes4 : KL es4 f4 2 ([i1, (i1 + (1 : Int64))] : List Int64) := Kes4'
    refine s_iload H at_91 rfl (pc' := 93) rfl ?_
    refine s_iconst H at_93 (z := (2 : Int32)) (by decide) (pc' := 94) rfl ?_
    refine s_icmp H at_94 (py := 109) (pc' := 97) q_le (by decide) rfl (fun c94 => ?_) (fun c94 => ?_)
    · refine s_lloadn H at_109 rfl (pc' := 110) rfl ?_
      refine s_iload H at_110 rfl (pc' := 112) rfl ?_
      refine s_iconst H at_112 (z := (1 : Int32)) (by decide) (pc' := 113) rfl ?_
      refine s_isub H at_113 (pc' := 114) rfl ?_
      refine s_i2l H at_114 (pc' := 115) rfl ?_
      refine s_ladd H at_115 (pc' := 116) rfl ?_
      refine s_lstore H at_116 (L' := fun z => #[.val (.int i0), .val (.long i1), .second, .val (.long i2), .second, .val (.int cN.toInt32), .val (.int (2 : Int32)), .val (.int (1 : Int32)), .val (.int (2 : Int32)), .val (.long lim), .second, .val (.ref a1), .val (.long z), .second, .unset, .unset, .unset]) (fun _ => rfl) (pc' := 118) rfl (fun af h_af => ?_)
      refine s_aload H at_118 rfl rfl (pc' := 120) rfl ?_
      refine s_virtual H (met_kn H.tb a1 ea4 es4 ([i1] : List Int64) f4 2 (i1 + (1 : Int64)) Kes4) at_120 (i := 1) rfl (mem (i := 26) rfl) (mem (i := 27) rfl) (mem (i := 29) rfl) (mem (i := 28) rfl) (mem (i := 7) rfl) (mem (i := 30) rfl) (by decide) pd_5 rfl (rest := []) rfl rfl (by decide) (Nat.le_of_ble_eq_true rfl) (cn' := 4) (sn' := 26) rfl rfl (by decide) (by decide) (pc' := 123) rfl (fun _ _ hq => ?_)
      obtain ⟨rfl, rfl⟩ := hq
      show Go Z k 4 26 ((ea4, ArL Z es4) :: (a1, Obj Z "com/example/mangrove/mangrove/MemorySlidingWindowLog$KeyLog" [("com/example/mangrove/mangrove/MemorySlidingWindowLog$KeyLog", "entries", "[J", (.ref ea4)), ("com/example/mangrove/mangrove/MemorySlidingWindowLog$KeyLog", "size", "I", (.int (2 : Nat).toInt32)), ("com/example/mangrove/mangrove/MemorySlidingWindowLog$KeyLog", "first", "I", (.int f4.toInt32))]) :: F4) 123 #[.val (.int i0), .val (.long i1), .second, .val (.long i2), .second, .val (.int cN.toInt32), .val (.int (2 : Int32)), .val (.int (1 : Int32)), .val (.int (2 : Int32)), .val (.long lim), .second, .val (.ref a1), .val (.long af), .second, .unset, .unset, .unset] [(.long (i1 + (1 : Int64)))]
      refine s_lload H at_123 rfl (pc' := 125) rfl ?_
      refine s_lcmp H at_125 (pc' := 126) rfl ?_
      refine s_if H at_126 (py := 133) (pc' := 129) l_ne (by decide) rfl (fun c126 => ?_) (fun c126 => ?_)
      · exact absurd (by rw [h_af, show (((2 : Int32) - (1 : Int32)).toInt64) = 1 from by decide]) c126
      · refine s_iconst H at_129 (z := (1 : Int32)) (by decide) (pc' := 130) rfl ?_
        refine s_goto H at_130 (pc' := 134) (by decide) ?_
        refine s_istore H at_134 (L' := fun z => #[.val (.int i0), .val (.long i1), .second, .val (.long i2), .second, .val (.int cN.toInt32), .val (.int (2 : Int32)), .val (.int (1 : Int32)), .val (.int (2 : Int32)), .val (.long lim), .second, .val (.ref a1), .val (.long af), .second, .val (.int z), .unset, .unset]) (fun _ => rfl) (pc' := 136) rfl (fun z0 hz => ?_)
        subst z0
        refine s_iload H at_136 rfl (pc' := 138) rfl ?_
        refine s_if H at_138 (py := 146) (pc' := 141) z_le (by decide) rfl (fun c138 => ?_) (fun c138 => ?_)
        · exact absurd c138 (by decide)
        · refine s_aload H at_141 rfl rfl (pc' := 143) rfl ?_
          refine s_virtual H (met_kr H.tb a1 ea4 es4 ([(i1 + (1 : Int64))] : List Int64) f4 2 i1 Kes4) at_143 (i := 1) rfl (mem (i := 50) rfl) (mem (i := 51) rfl) (mem (i := 53) rfl) (mem (i := 52) rfl) (mem (i := 7) rfl) (mem (i := 54) rfl) (by decide) pd_9 rfl (rest := []) rfl rfl (by decide) (Nat.le_of_ble_eq_true rfl) (cn' := 4) (sn' := 26) rfl rfl (by decide) (by decide) (pc' := 146) rfl (fun _ _ hq => ?_)
          obtain ⟨f5, Kf5', rfl, rfl⟩ := hq
          show Go Z k 4 26 ((ea4, ArL Z es4) :: (a1, Obj Z "com/example/mangrove/mangrove/MemorySlidingWindowLog$KeyLog" [("com/example/mangrove/mangrove/MemorySlidingWindowLog$KeyLog", "entries", "[J", (.ref ea4)), ("com/example/mangrove/mangrove/MemorySlidingWindowLog$KeyLog", "size", "I", (.int (1 : Nat).toInt32)), ("com/example/mangrove/mangrove/MemorySlidingWindowLog$KeyLog", "first", "I", (.int f5.toInt32))]) :: F4) 146 #[.val (.int i0), .val (.long i1), .second, .val (.long i2), .second, .val (.int cN.toInt32), .val (.int (2 : Int32)), .val (.int (1 : Int32)), .val (.int (2 : Int32)), .val (.long lim), .second, .val (.ref a1), .val (.long af), .second, .val (.int (1 : Int32)), .unset, .unset] []
          have Kf5 : KL es4 f5 1 ([(i1 + (1 : Int64))] : List Int64) := Kf5'
          refine s_iload H at_146 rfl (pc' := 148) rfl ?_
          refine s_iconst H at_148 (z := (1 : Int32)) (by decide) (pc' := 149) rfl ?_
          refine s_icmp H at_149 (py := 157) (pc' := 152) q_le (by decide) rfl (fun c149 => ?_) (fun c149 => ?_)
          · refine s_iload H at_157 rfl (pc' := 159) rfl ?_
            refine s_if H at_159 (py := 177) (pc' := 162) z_eq (by decide) rfl (fun c159 => ?_) (fun c159 => ?_)
            · exact absurd c159 (by decide)
            · refine s_aload H at_162 rfl rfl (pc' := 164) rfl ?_
              refine s_virtual H (met_kn H.tb a1 ea4 es4 ([] : List Int64) f5 1 (i1 + (1 : Int64)) Kf5) at_164 (i := 1) rfl (mem (i := 26) rfl) (mem (i := 27) rfl) (mem (i := 29) rfl) (mem (i := 28) rfl) (mem (i := 7) rfl) (mem (i := 30) rfl) (by decide) pd_5 rfl (rest := []) rfl rfl (by decide) (Nat.le_of_ble_eq_true rfl) (cn' := 4) (sn' := 26) rfl rfl (by decide) (by decide) (pc' := 167) rfl (fun _ _ hq => ?_)
              obtain ⟨rfl, rfl⟩ := hq
              show Go Z k 4 26 ((ea4, ArL Z es4) :: (a1, Obj Z "com/example/mangrove/mangrove/MemorySlidingWindowLog$KeyLog" [("com/example/mangrove/mangrove/MemorySlidingWindowLog$KeyLog", "entries", "[J", (.ref ea4)), ("com/example/mangrove/mangrove/MemorySlidingWindowLog$KeyLog", "size", "I", (.int (1 : Nat).toInt32)), ("com/example/mangrove/mangrove/MemorySlidingWindowLog$KeyLog", "first", "I", (.int f5.toInt32))]) :: F4) 167 #[.val (.int i0), .val (.long i1), .second, .val (.long i2), .second, .val (.int cN.toInt32), .val (.int (2 : Int32)), .val (.int (1 : Int32)), .val (.int (2 : Int32)), .val (.long lim), .second, .val (.ref a1), .val (.long af), .second, .val (.int (1 : Int32)), .unset, .unset] [(.long (i1 + (1 : Int64)))]
              refine s_lload H at_167 rfl (pc' := 169) rfl ?_
              refine s_lcmp H at_169 (pc' := 170) rfl ?_
              refine s_if H at_170 (py := 177) (pc' := 173) l_ne (by decide) rfl (fun c170 => ?_) (fun c170 => ?_)
              · exact absurd (by rw [h_af, show (((2 : Int32) - (1 : Int32)).toInt64) = 1 from by decide]) c170
              · refine s_iconst H at_173 (z := (1 : Int32)) (by decide) (pc' := 174) rfl ?_
                refine s_goto H at_174 (pc' := 178) (by decide) ?_
                refine s_istore H at_178 (L' := fun z => #[.val (.int i0), .val (.long i1), .second, .val (.long i2), .second, .val (.int cN.toInt32), .val (.int (2 : Int32)), .val (.int (1 : Int32)), .val (.int (2 : Int32)), .val (.long lim), .second, .val (.ref a1), .val (.long af), .second, .val (.int z), .unset, .unset]) (fun _ => rfl) (pc' := 180) rfl (fun z0 hz => ?_)
                subst z0
                refine s_iload H at_180 rfl (pc' := 182) rfl ?_
                refine s_if H at_182 (py := 197) (pc' := 185) z_le (by decide) rfl (fun c182 => ?_) (fun c182 => ?_)
                · exact absurd c182 (by decide)
                · refine s_aload H at_185 rfl rfl (pc' := 187) rfl ?_
                  refine s_lloadn H at_187 rfl (pc' := 188) rfl ?_
                  refine s_ldc2 H at_188 (mem (i := 46) rfl) (pc' := 191) rfl ?_
                  refine s_ladd H at_191 (pc' := 192) rfl ?_
                  refine s_lload H at_192 rfl (pc' := 194) rfl ?_
                  refine s_virtual H (met_ka H.tb a1 ea4 es4 ([(i1 + (1 : Int64))] : List Int64) f5 1 (i1 + (3 : Int64)) lim Kf5 (by decide) (by omega)) at_194 (i := 1) rfl (mem (i := 17) rfl) (mem (i := 18) rfl) (mem (i := 20) rfl) (mem (i := 19) rfl) (mem (i := 7) rfl) (mem (i := 21) rfl) (by decide) pd_4 rfl (rest := []) rfl rfl (by decide) (Nat.le_of_ble_eq_true rfl) (cn' := 5) (sn' := 36) rfl rfl (by decide) (by decide) (pc' := 197) rfl (fun _ _ hq => ?_)
                  obtain ⟨ea6, es6, f6, F6, Kes6', rfl, rfl⟩ := hq
                  show Go Z k 5 36 ((ea6, ArL Z es6) :: (a1, Obj Z "com/example/mangrove/mangrove/MemorySlidingWindowLog$KeyLog" [("com/example/mangrove/mangrove/MemorySlidingWindowLog$KeyLog", "entries", "[J", (.ref ea6)), ("com/example/mangrove/mangrove/MemorySlidingWindowLog$KeyLog", "size", "I", (.int (2 : Nat).toInt32)), ("com/example/mangrove/mangrove/MemorySlidingWindowLog$KeyLog", "first", "I", (.int f6.toInt32))]) :: F6) 197 #[.val (.int i0), .val (.long i1), .second, .val (.long i2), .second, .val (.int cN.toInt32), .val (.int (2 : Int32)), .val (.int (1 : Int32)), .val (.int (2 : Int32)), .val (.long lim), .second, .val (.ref a1), .val (.long af), .second, .val (.int (1 : Int32)), .unset, .unset] []
                  have Kes6 : KL es6 f6 2 ([(i1 + (1 : Int64)), (i1 + (3 : Int64))] : List Int64) := Kes6'
                  refine s_iload H at_197 rfl (pc' := 199) rfl ?_
                  refine s_iconst H at_199 (z := (1 : Int32)) (by decide) (pc' := 200) rfl ?_
                  refine s_icmp H at_200 (py := 215) (pc' := 203) q_le (by decide) rfl (fun c200 => ?_) (fun c200 => ?_)
                  · exact absurd c200 (by decide)
                  · refine s_aload H at_203 rfl rfl (pc' := 205) rfl ?_
                    refine s_lloadn H at_205 rfl (pc' := 206) rfl ?_
                    refine s_ldc2 H at_206 (mem (i := 47) rfl) (pc' := 209) rfl ?_
                    refine s_ladd H at_209 (pc' := 210) rfl ?_
                    refine s_lload H at_210 rfl (pc' := 212) rfl ?_
                    refine s_virtual H (met_ka H.tb a1 ea6 es6 ([(i1 + (1 : Int64)), (i1 + (3 : Int64))] : List Int64) f6 2 (i1 + (4 : Int64)) lim Kes6 (by decide) (by omega)) at_212 (i := 1) rfl (mem (i := 17) rfl) (mem (i := 18) rfl) (mem (i := 20) rfl) (mem (i := 19) rfl) (mem (i := 7) rfl) (mem (i := 21) rfl) (by decide) pd_4 rfl (rest := []) rfl rfl (by decide) (Nat.le_of_ble_eq_true rfl) (cn' := 6) (sn' := 46) rfl rfl (by decide) (by decide) (pc' := 215) rfl (fun _ _ hq => ?_)
                    obtain ⟨ea7, es7, f7, F7, Kes7', rfl, rfl⟩ := hq
                    show Go Z k 6 46 ((ea7, ArL Z es7) :: (a1, Obj Z "com/example/mangrove/mangrove/MemorySlidingWindowLog$KeyLog" [("com/example/mangrove/mangrove/MemorySlidingWindowLog$KeyLog", "entries", "[J", (.ref ea7)), ("com/example/mangrove/mangrove/MemorySlidingWindowLog$KeyLog", "size", "I", (.int (3 : Nat).toInt32)), ("com/example/mangrove/mangrove/MemorySlidingWindowLog$KeyLog", "first", "I", (.int f7.toInt32))]) :: F7) 215 #[.val (.int i0), .val (.long i1), .second, .val (.long i2), .second, .val (.int cN.toInt32), .val (.int (2 : Int32)), .val (.int (1 : Int32)), .val (.int (2 : Int32)), .val (.long lim), .second, .val (.ref a1), .val (.long af), .second, .val (.int (1 : Int32)), .unset, .unset] []
                    have Kes7 : KL es7 f7 3 ([(i1 + (1 : Int64)), (i1 + (3 : Int64)), (i1 + (4 : Int64))] : List Int64) := Kes7'
                    refine s_iload H at_215 rfl (pc' := 217) rfl ?_
                    refine s_iconst H at_217 (z := (2 : Int32)) (by decide) (pc' := 218) rfl ?_
                    refine s_icmp H at_218 (py := 233) (pc' := 221) q_le (by decide) rfl (fun c218 => ?_) (fun c218 => ?_)
                    · refine s_iload H at_233 rfl (pc' := 235) rfl ?_
                      refine s_if H at_235 (py := 243) (pc' := 238) z_ne (by decide) rfl (fun c235 => ?_) (fun c235 => ?_)
                      · refine s_lloadn H at_243 rfl (pc' := 244) rfl ?_
                        refine s_iconst H at_244 (z := (2 : Int32)) (by decide) (pc' := 245) rfl ?_
                        refine s_iload H at_245 rfl (pc' := 247) rfl ?_
                        refine s_iadd H at_247 (pc' := 248) rfl ?_
                        refine s_i2l H at_248 (pc' := 249) rfl ?_
                        refine s_ladd H at_249 (pc' := 250) rfl ?_
                        refine s_lstore H at_250 (L' := fun z => #[.val (.int i0), .val (.long i1), .second, .val (.long i2), .second, .val (.int cN.toInt32), .val (.int (2 : Int32)), .val (.int (1 : Int32)), .val (.int (2 : Int32)), .val (.long lim), .second, .val (.ref a1), .val (.long af), .second, .val (.int (1 : Int32)), .val (.long z), .second]) (fun _ => rfl) (pc' := 252) rfl (fun la h_la => ?_)
                        refine s_iload H at_252 rfl (pc' := 254) rfl ?_
                        refine s_if H at_254 (py := 272) (pc' := 257) z_eq (by decide) rfl (fun c254 => ?_) (fun c254 => ?_)
                        · exact absurd c254 (by decide)
                        · refine s_aload H at_257 rfl rfl (pc' := 259) rfl ?_
                          refine s_virtual H (met_kn H.tb a1 ea7 es7 ([(i1 + (1 : Int64)), (i1 + (3 : Int64))] : List Int64) f7 3 (i1 + (4 : Int64)) Kes7) at_259 (i := 1) rfl (mem (i := 26) rfl) (mem (i := 27) rfl) (mem (i := 29) rfl) (mem (i := 28) rfl) (mem (i := 7) rfl) (mem (i := 30) rfl) (by decide) pd_5 rfl (rest := []) rfl rfl (by decide) (Nat.le_of_ble_eq_true rfl) (cn' := 6) (sn' := 46) rfl rfl (by decide) (by decide) (pc' := 262) rfl (fun _ _ hq => ?_)
                          obtain ⟨rfl, rfl⟩ := hq
                          show Go Z k 6 46 ((ea7, ArL Z es7) :: (a1, Obj Z "com/example/mangrove/mangrove/MemorySlidingWindowLog$KeyLog" [("com/example/mangrove/mangrove/MemorySlidingWindowLog$KeyLog", "entries", "[J", (.ref ea7)), ("com/example/mangrove/mangrove/MemorySlidingWindowLog$KeyLog", "size", "I", (.int (3 : Nat).toInt32)), ("com/example/mangrove/mangrove/MemorySlidingWindowLog$KeyLog", "first", "I", (.int f7.toInt32))]) :: F7) 262 #[.val (.int i0), .val (.long i1), .second, .val (.long i2), .second, .val (.int cN.toInt32), .val (.int (2 : Int32)), .val (.int (1 : Int32)), .val (.int (2 : Int32)), .val (.long lim), .second, .val (.ref a1), .val (.long af), .second, .val (.int (1 : Int32)), .val (.long la), .second] [(.long (i1 + (4 : Int64)))]
                          refine s_lload H at_262 rfl (pc' := 264) rfl ?_
                          refine s_lcmp H at_264 (pc' := 265) rfl ?_
                          refine s_if H at_265 (py := 272) (pc' := 268) l_ne (by decide) rfl (fun c265 => ?_) (fun c265 => ?_)
                          · exact absurd (by rw [h_la, show (((2 : Int32) + (2 : Int32)).toInt64) = 4 from by decide]) c265
                          · refine s_iconst H at_268 (z := (1 : Int32)) (by decide) (pc' := 269) rfl ?_
                            refine s_goto H at_269 (pc' := 273) (by decide) ?_
                            exact s_iret H at_273 rfl (by simp) (by decide) (by decide) (rfl)
                      · exact absurd c235 (by decide)
                    · exact absurd c218 (by decide)
          · exact absurd c149 (by decide)
    · exact absurd c94 (by decide)
set_option maxRecDepth 65536 in
set_option maxHeartbeats 40000000 in
theorem s42_2_1_3 {Z : State} {k : Cx} {i0 : Int32} {i1 i2 : Int64} (cN : Nat) (H : Ok Z k room_1 (LQ) x code maxLocals ret) (h0 : 0 < cN) (hc : cN ≤ 3) : Go Z k 0 0 ([] : Hp) 42 #[.val (.int i0), .val (.long i1), .second, .val (.long i2), .second, .val (.int cN.toInt32), .val (.int (2 : Int32)), .val (.int (1 : Int32)), .val (.int (3 : Int32)), .unset, .unset, .unset, .unset, .unset, .unset, .unset, .unset] [] := by
  refine s_iload H at_42 rfl (pc' := 44) rfl ?_
  refine s_iload H at_44 rfl (pc' := 46) rfl ?_
  refine s_iadd H at_46 (pc' := 47) rfl ?_
  refine s_i2l H at_47 (pc' := 48) rfl ?_
  refine s_lloadn H at_48 rfl (pc' := 49) rfl ?_
  refine s_ldc2 H at_49 (mem (i := 4) rfl) (pc' := 52) rfl ?_
  refine s_land H at_52 (pc' := 53) rfl ?_
  refine s_ladd H at_53 (pc' := 54) rfl ?_
  refine s_lstore H at_54 (L' := fun z => #[.val (.int i0), .val (.long i1), .second, .val (.long i2), .second, .val (.int cN.toInt32), .val (.int (2 : Int32)), .val (.int (1 : Int32)), .val (.int (3 : Int32)), .val (.long z), .second, .unset, .unset, .unset, .unset, .unset, .unset]) (fun _ => rfl) (pc' := 56) rfl (fun lim h_lim => ?_)
  have hl : 5 ≤ lim.toInt := by
    have m := c_maskL i2 4611686018427387903 62 (by decide) (by decide)
    have s := c_ladd ((((2 : Int32) + (3 : Int32)).toInt64)) (i2 &&& 4611686018427387903)
    rw [← h_lim, show ((((2 : Int32) + (3 : Int32)).toInt64)).toInt = 5 from by decide] at s
    have rl := rng64 lim
    omega
  refine s_new H (C := "com/example/mangrove/mangrove/MemorySlidingWindowLog$KeyLog") [("com/example/mangrove/mangrove/MemorySlidingWindowLog$KeyLog", "entries", "[J", .null), ("com/example/mangrove/mangrove/MemorySlidingWindowLog$KeyLog", "size", "I", (.int (0 : Int32))), ("com/example/mangrove/mangrove/MemorySlidingWindowLog$KeyLog", "first", "I", (.int (0 : Int32)))] at_56 (mem (i := 5) rfl) (mem (i := 6) rfl) (mem (i := 7) rfl) (allC ⟨Or.inl (mem (i := 16) rfl), (.array .long), by decide, rfl⟩ (allC ⟨Or.inl (mem (i := 23) rfl), .int, by decide, rfl⟩ (allC ⟨Or.inl (mem (i := 25) rfl), .int, by decide, rfl⟩ allN))) (by decide) (cn' := 1) (sn' := 3) rfl rfl (by decide) (by decide) (pc' := 59) rfl (fun a1 => ?_)
  refine s_dup H at_59 rfl (pc' := 60) rfl ?_
  refine s_iload H at_60 rfl (pc' := 62) rfl ?_
  refine s_init H (met_ki H.tb a1 cN hc) at_62 rfl (mem (i := 8) rfl) (mem (i := 9) rfl) (mem (i := 7) rfl) (mem (i := 10) rfl) (by decide) pd_2 rfl (rest := [(.ref a1)]) rfl rfl (by decide) (Nat.le_of_ble_eq_true rfl) (cn' := 2) (sn' := 6) rfl rfl (by decide) (by decide) (pc' := 65) rfl (fun _ _ hq => ?_)
  obtain ⟨ea, rfl, rfl⟩ := hq
  show Go Z k 2 6 ((ea, ArL Z (List.replicate cN 0)) :: (a1, Obj Z "com/example/mangrove/mangrove/MemorySlidingWindowLog$KeyLog" [("com/example/mangrove/mangrove/MemorySlidingWindowLog$KeyLog", "entries", "[J", (.ref ea)), ("com/example/mangrove/mangrove/MemorySlidingWindowLog$KeyLog", "size", "I", (.int (0 : Nat).toInt32)), ("com/example/mangrove/mangrove/MemorySlidingWindowLog$KeyLog", "first", "I", (.int (0 : Nat).toInt32))]) :: []) 65 #[.val (.int i0), .val (.long i1), .second, .val (.long i2), .second, .val (.int cN.toInt32), .val (.int (2 : Int32)), .val (.int (1 : Int32)), .val (.int (3 : Int32)), .val (.long lim), .second, .unset, .unset, .unset, .unset, .unset, .unset] [(.ref a1)]
  obtain ⟨es2, he, les2, Kes2⟩ : ∃ es : List Int64, es = List.replicate cN 0 ∧ es.length = cN ∧ KL es 0 0 [] := ⟨_, rfl, by simp, KL.new (by omega) (by omega)⟩
  rw [← he]
  clear he
  show Go Z k 2 6 ((ea, ArL Z es2) :: (a1, Obj Z "com/example/mangrove/mangrove/MemorySlidingWindowLog$KeyLog" [("com/example/mangrove/mangrove/MemorySlidingWindowLog$KeyLog", "entries", "[J", (.ref ea)), ("com/example/mangrove/mangrove/MemorySlidingWindowLog$KeyLog", "size", "I", (.int (0 : Nat).toInt32)), ("com/example/mangrove/mangrove/MemorySlidingWindowLog$KeyLog", "first", "I", (.int (0 : Nat).toInt32))]) :: []) 65 #[.val (.int i0), .val (.long i1), .second, .val (.long i2), .second, .val (.int cN.toInt32), .val (.int (2 : Int32)), .val (.int (1 : Int32)), .val (.int (3 : Int32)), .val (.long lim), .second, .unset, .unset, .unset, .unset, .unset, .unset] [(.ref a1)]
  refine s_astore H at_65 (L' := #[.val (.int i0), .val (.long i1), .second, .val (.long i2), .second, .val (.int cN.toInt32), .val (.int (2 : Int32)), .val (.int (1 : Int32)), .val (.int (3 : Int32)), .val (.long lim), .second, .val (.ref a1), .unset, .unset, .unset, .unset, .unset]) rfl rfl (pc' := 67) rfl ?_
  refine s_aload H at_67 rfl rfl (pc' := 69) rfl ?_
  refine s_lloadn H at_69 rfl (pc' := 70) rfl ?_
  refine s_lload H at_70 rfl (pc' := 72) rfl ?_
  refine s_virtual H (met_ka H.tb a1 ea es2 ([] : List Int64) (0 : Nat) 0 i1 lim Kes2 (by decide) (by omega)) at_72 (i := 1) rfl (mem (i := 17) rfl) (mem (i := 18) rfl) (mem (i := 20) rfl) (mem (i := 19) rfl) (mem (i := 7) rfl) (mem (i := 21) rfl) (by decide) pd_4 rfl (rest := []) rfl rfl (by decide) (Nat.le_of_ble_eq_true rfl) (cn' := 3) (sn' := 16) rfl rfl (by decide) (by decide) (pc' := 75) rfl (fun _ _ hq => ?_)
  obtain ⟨ea3, es3, f3, F3, Kes3', rfl, rfl⟩ := hq
  show Go Z k 3 16 ((ea3, ArL Z es3) :: (a1, Obj Z "com/example/mangrove/mangrove/MemorySlidingWindowLog$KeyLog" [("com/example/mangrove/mangrove/MemorySlidingWindowLog$KeyLog", "entries", "[J", (.ref ea3)), ("com/example/mangrove/mangrove/MemorySlidingWindowLog$KeyLog", "size", "I", (.int (1 : Nat).toInt32)), ("com/example/mangrove/mangrove/MemorySlidingWindowLog$KeyLog", "first", "I", (.int f3.toInt32))]) :: F3) 75 #[.val (.int i0), .val (.long i1), .second, .val (.long i2), .second, .val (.int cN.toInt32), .val (.int (2 : Int32)), .val (.int (1 : Int32)), .val (.int (3 : Int32)), .val (.long lim), .second, .val (.ref a1), .unset, .unset, .unset, .unset, .unset] []
  have Kes3 : KL es3 f3 1 ([i1] : List Int64) := Kes3'
  refine s_iload H at_75 rfl (pc' := 77) rfl ?_
  refine s_iconst H at_77 (z := (1 : Int32)) (by decide) (pc' := 78) rfl ?_
  refine s_icmp H at_78 (py := 91) (pc' := 81) q_le (by decide) rfl (fun c78 => ?_) (fun c78 => ?_)
  · exact absurd c78 (by decide)
  · refine s_aload H at_81 rfl rfl (pc' := 83) rfl ?_
    refine s_lloadn H at_83 rfl (pc' := 84) rfl ?_
    refine s_lconst H at_84 (z := (1 : Int64)) (by decide) (pc' := 85) rfl ?_
    refine s_ladd H at_85 (pc' := 86) rfl ?_
    refine s_lload H at_86 rfl (pc' := 88) rfl ?_
    refine s_virtual H (met_ka H.tb a1 ea3 es3 ([i1] : List Int64) f3 1 (i1 + (1 : Int64)) lim Kes3 (by decide) (by omega)) at_88 (i := 1) rfl (mem (i := 17) rfl) (mem (i := 18) rfl) (mem (i := 20) rfl) (mem (i := 19) rfl) (mem (i := 7) rfl) (mem (i := 21) rfl) (by decide) pd_4 rfl (rest := []) rfl rfl (by decide) (Nat.le_of_ble_eq_true rfl) (cn' := 4) (sn' := 26) rfl rfl (by decide) (by decide) (pc' := 91) rfl (fun _ _ hq => ?_)
    obtain ⟨ea4, es4, f4, F4, Kes4', rfl, rfl⟩ := hq
    show Go Z k 4 26 ((ea4, ArL Z es4) :: (a1, Obj Z "com/example/mangrove/mangrove/MemorySlidingWindowLog$KeyLog" [("com/example/mangrove/mangrove/MemorySlidingWindowLog$KeyLog", "entries", "[J", (.ref ea4)), ("com/example/mangrove/mangrove/MemorySlidingWindowLog$KeyLog", "size", "I", (.int (2 : Nat).toInt32)), ("com/example/mangrove/mangrove/MemorySlidingWindowLog$KeyLog", "first", "I", (.int f4.toInt32))]) :: F4) 91 #[.val (.int i0), .val (.long i1), .second, .val (.long i2), .second, .val (.int cN.toInt32), .val (.int (2 : Int32)), .val (.int (1 : Int32)), .val (.int (3 : Int32)), .val (.long lim), .second, .val (.ref a1), .unset, .unset, .unset, .unset, .unset] []
    have Kes4 : KL es4 f4 2 ([i1, (i1 + (1 : Int64))] : List Int64) := Kes4'
    refine s_iload H at_91 rfl (pc' := 93) rfl ?_
    refine s_iconst H at_93 (z := (2 : Int32)) (by decide) (pc' := 94) rfl ?_
    refine s_icmp H at_94 (py := 109) (pc' := 97) q_le (by decide) rfl (fun c94 => ?_) (fun c94 => ?_)
    · refine s_lloadn H at_109 rfl (pc' := 110) rfl ?_
      refine s_iload H at_110 rfl (pc' := 112) rfl ?_
      refine s_iconst H at_112 (z := (1 : Int32)) (by decide) (pc' := 113) rfl ?_
      refine s_isub H at_113 (pc' := 114) rfl ?_
      refine s_i2l H at_114 (pc' := 115) rfl ?_
      refine s_ladd H at_115 (pc' := 116) rfl ?_
      refine s_lstore H at_116 (L' := fun z => #[.val (.int i0), .val (.long i1), .second, .val (.long i2), .second, .val (.int cN.toInt32), .val (.int (2 : Int32)), .val (.int (1 : Int32)), .val (.int (3 : Int32)), .val (.long lim), .second, .val (.ref a1), .val (.long z), .second, .unset, .unset, .unset]) (fun _ => rfl) (pc' := 118) rfl (fun af h_af => ?_)
      refine s_aload H at_118 rfl rfl (pc' := 120) rfl ?_
      refine s_virtual H (met_kn H.tb a1 ea4 es4 ([i1] : List Int64) f4 2 (i1 + (1 : Int64)) Kes4) at_120 (i := 1) rfl (mem (i := 26) rfl) (mem (i := 27) rfl) (mem (i := 29) rfl) (mem (i := 28) rfl) (mem (i := 7) rfl) (mem (i := 30) rfl) (by decide) pd_5 rfl (rest := []) rfl rfl (by decide) (Nat.le_of_ble_eq_true rfl) (cn' := 4) (sn' := 26) rfl rfl (by decide) (by decide) (pc' := 123) rfl (fun _ _ hq => ?_)
      obtain ⟨rfl, rfl⟩ := hq
      show Go Z k 4 26 ((ea4, ArL Z es4) :: (a1, Obj Z "com/example/mangrove/mangrove/MemorySlidingWindowLog$KeyLog" [("com/example/mangrove/mangrove/MemorySlidingWindowLog$KeyLog", "entries", "[J", (.ref ea4)), ("com/example/mangrove/mangrove/MemorySlidingWindowLog$KeyLog", "size", "I", (.int (2 : Nat).toInt32)), ("com/example/mangrove/mangrove/MemorySlidingWindowLog$KeyLog", "first", "I", (.int f4.toInt32))]) :: F4) 123 #[.val (.int i0), .val (.long i1), .second, .val (.long i2), .second, .val (.int cN.toInt32), .val (.int (2 : Int32)), .val (.int (1 : Int32)), .val (.int (3 : Int32)), .val (.long lim), .second, .val (.ref a1), .val (.long af), .second, .unset, .unset, .unset] [(.long (i1 + (1 : Int64)))]
      refine s_lload H at_123 rfl (pc' := 125) rfl ?_
      refine s_lcmp H at_125 (pc' := 126) rfl ?_
      refine s_if H at_126 (py := 133) (pc' := 129) l_ne (by decide) rfl (fun c126 => ?_) (fun c126 => ?_)
      · exact absurd (by rw [h_af, show (((2 : Int32) - (1 : Int32)).toInt64) = 1 from by decide]) c126
      · refine s_iconst H at_129 (z := (1 : Int32)) (by decide) (pc' := 130) rfl ?_
        refine s_goto H at_130 (pc' := 134) (by decide) ?_
        refine s_istore H at_134 (L' := fun z => #[.val (.int i0), .val (.long i1), .second, .val (.long i2), .second, .val (.int cN.toInt32), .val (.int (2 : Int32)), .val (.int (1 : Int32)), .val (.int (3 : Int32)), .val (.long lim), .second, .val (.ref a1), .val (.long af), .second, .val (.int z), .unset, .unset]) (fun _ => rfl) (pc' := 136) rfl (fun z0 hz => ?_)
        subst z0
        refine s_iload H at_136 rfl (pc' := 138) rfl ?_
        refine s_if H at_138 (py := 146) (pc' := 141) z_le (by decide) rfl (fun c138 => ?_) (fun c138 => ?_)
        · exact absurd c138 (by decide)
        · refine s_aload H at_141 rfl rfl (pc' := 143) rfl ?_
          refine s_virtual H (met_kr H.tb a1 ea4 es4 ([(i1 + (1 : Int64))] : List Int64) f4 2 i1 Kes4) at_143 (i := 1) rfl (mem (i := 50) rfl) (mem (i := 51) rfl) (mem (i := 53) rfl) (mem (i := 52) rfl) (mem (i := 7) rfl) (mem (i := 54) rfl) (by decide) pd_9 rfl (rest := []) rfl rfl (by decide) (Nat.le_of_ble_eq_true rfl) (cn' := 4) (sn' := 26) rfl rfl (by decide) (by decide) (pc' := 146) rfl (fun _ _ hq => ?_)
          obtain ⟨f5, Kf5', rfl, rfl⟩ := hq
          show Go Z k 4 26 ((ea4, ArL Z es4) :: (a1, Obj Z "com/example/mangrove/mangrove/MemorySlidingWindowLog$KeyLog" [("com/example/mangrove/mangrove/MemorySlidingWindowLog$KeyLog", "entries", "[J", (.ref ea4)), ("com/example/mangrove/mangrove/MemorySlidingWindowLog$KeyLog", "size", "I", (.int (1 : Nat).toInt32)), ("com/example/mangrove/mangrove/MemorySlidingWindowLog$KeyLog", "first", "I", (.int f5.toInt32))]) :: F4) 146 #[.val (.int i0), .val (.long i1), .second, .val (.long i2), .second, .val (.int cN.toInt32), .val (.int (2 : Int32)), .val (.int (1 : Int32)), .val (.int (3 : Int32)), .val (.long lim), .second, .val (.ref a1), .val (.long af), .second, .val (.int (1 : Int32)), .unset, .unset] []
          have Kf5 : KL es4 f5 1 ([(i1 + (1 : Int64))] : List Int64) := Kf5'
          refine s_iload H at_146 rfl (pc' := 148) rfl ?_
          refine s_iconst H at_148 (z := (1 : Int32)) (by decide) (pc' := 149) rfl ?_
          refine s_icmp H at_149 (py := 157) (pc' := 152) q_le (by decide) rfl (fun c149 => ?_) (fun c149 => ?_)
          · refine s_iload H at_157 rfl (pc' := 159) rfl ?_
            refine s_if H at_159 (py := 177) (pc' := 162) z_eq (by decide) rfl (fun c159 => ?_) (fun c159 => ?_)
            · exact absurd c159 (by decide)
            · refine s_aload H at_162 rfl rfl (pc' := 164) rfl ?_
              refine s_virtual H (met_kn H.tb a1 ea4 es4 ([] : List Int64) f5 1 (i1 + (1 : Int64)) Kf5) at_164 (i := 1) rfl (mem (i := 26) rfl) (mem (i := 27) rfl) (mem (i := 29) rfl) (mem (i := 28) rfl) (mem (i := 7) rfl) (mem (i := 30) rfl) (by decide) pd_5 rfl (rest := []) rfl rfl (by decide) (Nat.le_of_ble_eq_true rfl) (cn' := 4) (sn' := 26) rfl rfl (by decide) (by decide) (pc' := 167) rfl (fun _ _ hq => ?_)
              obtain ⟨rfl, rfl⟩ := hq
              show Go Z k 4 26 ((ea4, ArL Z es4) :: (a1, Obj Z "com/example/mangrove/mangrove/MemorySlidingWindowLog$KeyLog" [("com/example/mangrove/mangrove/MemorySlidingWindowLog$KeyLog", "entries", "[J", (.ref ea4)), ("com/example/mangrove/mangrove/MemorySlidingWindowLog$KeyLog", "size", "I", (.int (1 : Nat).toInt32)), ("com/example/mangrove/mangrove/MemorySlidingWindowLog$KeyLog", "first", "I", (.int f5.toInt32))]) :: F4) 167 #[.val (.int i0), .val (.long i1), .second, .val (.long i2), .second, .val (.int cN.toInt32), .val (.int (2 : Int32)), .val (.int (1 : Int32)), .val (.int (3 : Int32)), .val (.long lim), .second, .val (.ref a1), .val (.long af), .second, .val (.int (1 : Int32)), .unset, .unset] [(.long (i1 + (1 : Int64)))]
              refine s_lload H at_167 rfl (pc' := 169) rfl ?_
              refine s_lcmp H at_169 (pc' := 170) rfl ?_
              refine s_if H at_170 (py := 177) (pc' := 173) l_ne (by decide) rfl (fun c170 => ?_) (fun c170 => ?_)
              · exact absurd (by rw [h_af, show (((2 : Int32) - (1 : Int32)).toInt64) = 1 from by decide]) c170
              · refine s_iconst H at_173 (z := (1 : Int32)) (by decide) (pc' := 174) rfl ?_
                refine s_goto H at_174 (pc' := 178) (by decide) ?_
                refine s_istore H at_178 (L' := fun z => #[.val (.int i0), .val (.long i1), .second, .val (.long i2), .second, .val (.int cN.toInt32), .val (.int (2 : Int32)), .val (.int (1 : Int32)), .val (.int (3 : Int32)), .val (.long lim), .second, .val (.ref a1), .val (.long af), .second, .val (.int z), .unset, .unset]) (fun _ => rfl) (pc' := 180) rfl (fun z0 hz => ?_)
                subst z0
                refine s_iload H at_180 rfl (pc' := 182) rfl ?_
                refine s_if H at_182 (py := 197) (pc' := 185) z_le (by decide) rfl (fun c182 => ?_) (fun c182 => ?_)
                · exact absurd c182 (by decide)
                · refine s_aload H at_185 rfl rfl (pc' := 187) rfl ?_
                  refine s_lloadn H at_187 rfl (pc' := 188) rfl ?_
                  refine s_ldc2 H at_188 (mem (i := 46) rfl) (pc' := 191) rfl ?_
                  refine s_ladd H at_191 (pc' := 192) rfl ?_
                  refine s_lload H at_192 rfl (pc' := 194) rfl ?_
                  refine s_virtual H (met_ka H.tb a1 ea4 es4 ([(i1 + (1 : Int64))] : List Int64) f5 1 (i1 + (3 : Int64)) lim Kf5 (by decide) (by omega)) at_194 (i := 1) rfl (mem (i := 17) rfl) (mem (i := 18) rfl) (mem (i := 20) rfl) (mem (i := 19) rfl) (mem (i := 7) rfl) (mem (i := 21) rfl) (by decide) pd_4 rfl (rest := []) rfl rfl (by decide) (Nat.le_of_ble_eq_true rfl) (cn' := 5) (sn' := 36) rfl rfl (by decide) (by decide) (pc' := 197) rfl (fun _ _ hq => ?_)
                  obtain ⟨ea6, es6, f6, F6, Kes6', rfl, rfl⟩ := hq
                  show Go Z k 5 36 ((ea6, ArL Z es6) :: (a1, Obj Z "com/example/mangrove/mangrove/MemorySlidingWindowLog$KeyLog" [("com/example/mangrove/mangrove/MemorySlidingWindowLog$KeyLog", "entries", "[J", (.ref ea6)), ("com/example/mangrove/mangrove/MemorySlidingWindowLog$KeyLog", "size", "I", (.int (2 : Nat).toInt32)), ("com/example/mangrove/mangrove/MemorySlidingWindowLog$KeyLog", "first", "I", (.int f6.toInt32))]) :: F6) 197 #[.val (.int i0), .val (.long i1), .second, .val (.long i2), .second, .val (.int cN.toInt32), .val (.int (2 : Int32)), .val (.int (1 : Int32)), .val (.int (3 : Int32)), .val (.long lim), .second, .val (.ref a1), .val (.long af), .second, .val (.int (1 : Int32)), .unset, .unset] []
                  have Kes6 : KL es6 f6 2 ([(i1 + (1 : Int64)), (i1 + (3 : Int64))] : List Int64) := Kes6'
                  refine s_iload H at_197 rfl (pc' := 199) rfl ?_
                  refine s_iconst H at_199 (z := (1 : Int32)) (by decide) (pc' := 200) rfl ?_
                  refine s_icmp H at_200 (py := 215) (pc' := 203) q_le (by decide) rfl (fun c200 => ?_) (fun c200 => ?_)
                  · exact absurd c200 (by decide)
                  · refine s_aload H at_203 rfl rfl (pc' := 205) rfl ?_
                    refine s_lloadn H at_205 rfl (pc' := 206) rfl ?_
                    refine s_ldc2 H at_206 (mem (i := 47) rfl) (pc' := 209) rfl ?_
                    refine s_ladd H at_209 (pc' := 210) rfl ?_
                    refine s_lload H at_210 rfl (pc' := 212) rfl ?_
                    refine s_virtual H (met_ka H.tb a1 ea6 es6 ([(i1 + (1 : Int64)), (i1 + (3 : Int64))] : List Int64) f6 2 (i1 + (4 : Int64)) lim Kes6 (by decide) (by omega)) at_212 (i := 1) rfl (mem (i := 17) rfl) (mem (i := 18) rfl) (mem (i := 20) rfl) (mem (i := 19) rfl) (mem (i := 7) rfl) (mem (i := 21) rfl) (by decide) pd_4 rfl (rest := []) rfl rfl (by decide) (Nat.le_of_ble_eq_true rfl) (cn' := 6) (sn' := 46) rfl rfl (by decide) (by decide) (pc' := 215) rfl (fun _ _ hq => ?_)
                    obtain ⟨ea7, es7, f7, F7, Kes7', rfl, rfl⟩ := hq
                    show Go Z k 6 46 ((ea7, ArL Z es7) :: (a1, Obj Z "com/example/mangrove/mangrove/MemorySlidingWindowLog$KeyLog" [("com/example/mangrove/mangrove/MemorySlidingWindowLog$KeyLog", "entries", "[J", (.ref ea7)), ("com/example/mangrove/mangrove/MemorySlidingWindowLog$KeyLog", "size", "I", (.int (3 : Nat).toInt32)), ("com/example/mangrove/mangrove/MemorySlidingWindowLog$KeyLog", "first", "I", (.int f7.toInt32))]) :: F7) 215 #[.val (.int i0), .val (.long i1), .second, .val (.long i2), .second, .val (.int cN.toInt32), .val (.int (2 : Int32)), .val (.int (1 : Int32)), .val (.int (3 : Int32)), .val (.long lim), .second, .val (.ref a1), .val (.long af), .second, .val (.int (1 : Int32)), .unset, .unset] []
                    have Kes7 : KL es7 f7 3 ([(i1 + (1 : Int64)), (i1 + (3 : Int64)), (i1 + (4 : Int64))] : List Int64) := Kes7'
                    refine s_iload H at_215 rfl (pc' := 217) rfl ?_
                    refine s_iconst H at_217 (z := (2 : Int32)) (by decide) (pc' := 218) rfl ?_
                    refine s_icmp H at_218 (py := 233) (pc' := 221) q_le (by decide) rfl (fun c218 => ?_) (fun c218 => ?_)
                    · exact absurd c218 (by decide)
                    · refine s_aload H at_221 rfl rfl (pc' := 223) rfl ?_
                      refine s_lloadn H at_223 rfl (pc' := 224) rfl ?_
                      refine s_ldc2 H at_224 (mem (i := 48) rfl) (pc' := 227) rfl ?_
                      refine s_ladd H at_227 (pc' := 228) rfl ?_
                      refine s_lload H at_228 rfl (pc' := 230) rfl ?_
                      refine s_virtual H (met_ka H.tb a1 ea7 es7 ([(i1 + (1 : Int64)), (i1 + (3 : Int64)), (i1 + (4 : Int64))] : List Int64) f7 3 (i1 + (5 : Int64)) lim Kes7 (by decide) (by omega)) at_230 (i := 1) rfl (mem (i := 17) rfl) (mem (i := 18) rfl) (mem (i := 20) rfl) (mem (i := 19) rfl) (mem (i := 7) rfl) (mem (i := 21) rfl) (by decide) pd_4 rfl (rest := []) rfl rfl (by decide) (Nat.le_of_ble_eq_true rfl) (cn' := 7) (sn' := 56) rfl rfl (by decide) (by decide) (pc' := 233) rfl (fun _ _ hq => ?_)
                      obtain ⟨ea8, es8, f8, F8, Kes8', rfl, rfl⟩ := hq
                      show Go Z k 7 56 ((ea8, ArL Z es8) :: (a1, Obj Z "com/example/mangrove/mangrove/MemorySlidingWindowLog$KeyLog" [("com/example/mangrove/mangrove/MemorySlidingWindowLog$KeyLog", "entries", "[J", (.ref ea8)), ("com/example/mangrove/mangrove/MemorySlidingWindowLog$KeyLog", "size", "I", (.int (4 : Nat).toInt32)), ("com/example/mangrove/mangrove/MemorySlidingWindowLog$KeyLog", "first", "I", (.int f8.toInt32))]) :: F8) 233 #[.val (.int i0), .val (.long i1), .second, .val (.long i2), .second, .val (.int cN.toInt32), .val (.int (2 : Int32)), .val (.int (1 : Int32)), .val (.int (3 : Int32)), .val (.long lim), .second, .val (.ref a1), .val (.long af), .second, .val (.int (1 : Int32)), .unset, .unset] []
                      have Kes8 : KL es8 f8 4 ([(i1 + (1 : Int64)), (i1 + (3 : Int64)), (i1 + (4 : Int64)), (i1 + (5 : Int64))] : List Int64) := Kes8'
                      refine s_iload H at_233 rfl (pc' := 235) rfl ?_
                      refine s_if H at_235 (py := 243) (pc' := 238) z_ne (by decide) rfl (fun c235 => ?_) (fun c235 => ?_)
                      · refine s_lloadn H at_243 rfl (pc' := 244) rfl ?_
                        refine s_iconst H at_244 (z := (2 : Int32)) (by decide) (pc' := 245) rfl ?_
                        refine s_iload H at_245 rfl (pc' := 247) rfl ?_
                        refine s_iadd H at_247 (pc' := 248) rfl ?_
                        refine s_i2l H at_248 (pc' := 249) rfl ?_
                        refine s_ladd H at_249 (pc' := 250) rfl ?_
                        refine s_lstore H at_250 (L' := fun z => #[.val (.int i0), .val (.long i1), .second, .val (.long i2), .second, .val (.int cN.toInt32), .val (.int (2 : Int32)), .val (.int (1 : Int32)), .val (.int (3 : Int32)), .val (.long lim), .second, .val (.ref a1), .val (.long af), .second, .val (.int (1 : Int32)), .val (.long z), .second]) (fun _ => rfl) (pc' := 252) rfl (fun la h_la => ?_)
                        refine s_iload H at_252 rfl (pc' := 254) rfl ?_
                        refine s_if H at_254 (py := 272) (pc' := 257) z_eq (by decide) rfl (fun c254 => ?_) (fun c254 => ?_)
                        · exact absurd c254 (by decide)
                        · refine s_aload H at_257 rfl rfl (pc' := 259) rfl ?_
                          refine s_virtual H (met_kn H.tb a1 ea8 es8 ([(i1 + (1 : Int64)), (i1 + (3 : Int64)), (i1 + (4 : Int64))] : List Int64) f8 4 (i1 + (5 : Int64)) Kes8) at_259 (i := 1) rfl (mem (i := 26) rfl) (mem (i := 27) rfl) (mem (i := 29) rfl) (mem (i := 28) rfl) (mem (i := 7) rfl) (mem (i := 30) rfl) (by decide) pd_5 rfl (rest := []) rfl rfl (by decide) (Nat.le_of_ble_eq_true rfl) (cn' := 7) (sn' := 56) rfl rfl (by decide) (by decide) (pc' := 262) rfl (fun _ _ hq => ?_)
                          obtain ⟨rfl, rfl⟩ := hq
                          show Go Z k 7 56 ((ea8, ArL Z es8) :: (a1, Obj Z "com/example/mangrove/mangrove/MemorySlidingWindowLog$KeyLog" [("com/example/mangrove/mangrove/MemorySlidingWindowLog$KeyLog", "entries", "[J", (.ref ea8)), ("com/example/mangrove/mangrove/MemorySlidingWindowLog$KeyLog", "size", "I", (.int (4 : Nat).toInt32)), ("com/example/mangrove/mangrove/MemorySlidingWindowLog$KeyLog", "first", "I", (.int f8.toInt32))]) :: F8) 262 #[.val (.int i0), .val (.long i1), .second, .val (.long i2), .second, .val (.int cN.toInt32), .val (.int (2 : Int32)), .val (.int (1 : Int32)), .val (.int (3 : Int32)), .val (.long lim), .second, .val (.ref a1), .val (.long af), .second, .val (.int (1 : Int32)), .val (.long la), .second] [(.long (i1 + (5 : Int64)))]
                          refine s_lload H at_262 rfl (pc' := 264) rfl ?_
                          refine s_lcmp H at_264 (pc' := 265) rfl ?_
                          refine s_if H at_265 (py := 272) (pc' := 268) l_ne (by decide) rfl (fun c265 => ?_) (fun c265 => ?_)
                          · exact absurd (by rw [h_la, show (((2 : Int32) + (3 : Int32)).toInt64) = 5 from by decide]) c265
                          · refine s_iconst H at_268 (z := (1 : Int32)) (by decide) (pc' := 269) rfl ?_
                            refine s_goto H at_269 (pc' := 273) (by decide) ?_
                            exact s_iret H at_273 rfl (by simp) (by decide) (by decide) (rfl)
                      · exact absurd c235 (by decide)
          · exact absurd c149 (by decide)
    · exact absurd c94 (by decide)
set_option maxRecDepth 65536 in
set_option maxHeartbeats 40000000 in
theorem s42_3_0_0 {Z : State} {k : Cx} {i0 : Int32} {i1 i2 : Int64} (cN : Nat) (H : Ok Z k room_1 (LQ) x code maxLocals ret) (h0 : 0 < cN) (hc : cN ≤ 3) : Go Z k 0 0 ([] : Hp) 42 #[.val (.int i0), .val (.long i1), .second, .val (.long i2), .second, .val (.int cN.toInt32), .val (.int (3 : Int32)), .val (.int (0 : Int32)), .val (.int (0 : Int32)), .unset, .unset, .unset, .unset, .unset, .unset, .unset, .unset] [] := by
  refine s_iload H at_42 rfl (pc' := 44) rfl ?_
  refine s_iload H at_44 rfl (pc' := 46) rfl ?_
  refine s_iadd H at_46 (pc' := 47) rfl ?_
  refine s_i2l H at_47 (pc' := 48) rfl ?_
  refine s_lloadn H at_48 rfl (pc' := 49) rfl ?_
  refine s_ldc2 H at_49 (mem (i := 4) rfl) (pc' := 52) rfl ?_
  refine s_land H at_52 (pc' := 53) rfl ?_
  refine s_ladd H at_53 (pc' := 54) rfl ?_
  refine s_lstore H at_54 (L' := fun z => #[.val (.int i0), .val (.long i1), .second, .val (.long i2), .second, .val (.int cN.toInt32), .val (.int (3 : Int32)), .val (.int (0 : Int32)), .val (.int (0 : Int32)), .val (.long z), .second, .unset, .unset, .unset, .unset, .unset, .unset]) (fun _ => rfl) (pc' := 56) rfl (fun lim h_lim => ?_)
  have hl : 3 ≤ lim.toInt := by
    have m := c_maskL i2 4611686018427387903 62 (by decide) (by decide)
    have s := c_ladd ((((3 : Int32) + (0 : Int32)).toInt64)) (i2 &&& 4611686018427387903)
    rw [← h_lim, show ((((3 : Int32) + (0 : Int32)).toInt64)).toInt = 3 from by decide] at s
    have rl := rng64 lim
    omega
  refine s_new H (C := "com/example/mangrove/mangrove/MemorySlidingWindowLog$KeyLog") [("com/example/mangrove/mangrove/MemorySlidingWindowLog$KeyLog", "entries", "[J", .null), ("com/example/mangrove/mangrove/MemorySlidingWindowLog$KeyLog", "size", "I", (.int (0 : Int32))), ("com/example/mangrove/mangrove/MemorySlidingWindowLog$KeyLog", "first", "I", (.int (0 : Int32)))] at_56 (mem (i := 5) rfl) (mem (i := 6) rfl) (mem (i := 7) rfl) (allC ⟨Or.inl (mem (i := 16) rfl), (.array .long), by decide, rfl⟩ (allC ⟨Or.inl (mem (i := 23) rfl), .int, by decide, rfl⟩ (allC ⟨Or.inl (mem (i := 25) rfl), .int, by decide, rfl⟩ allN))) (by decide) (cn' := 1) (sn' := 3) rfl rfl (by decide) (by decide) (pc' := 59) rfl (fun a1 => ?_)
  refine s_dup H at_59 rfl (pc' := 60) rfl ?_
  refine s_iload H at_60 rfl (pc' := 62) rfl ?_
  refine s_init H (met_ki H.tb a1 cN hc) at_62 rfl (mem (i := 8) rfl) (mem (i := 9) rfl) (mem (i := 7) rfl) (mem (i := 10) rfl) (by decide) pd_2 rfl (rest := [(.ref a1)]) rfl rfl (by decide) (Nat.le_of_ble_eq_true rfl) (cn' := 2) (sn' := 6) rfl rfl (by decide) (by decide) (pc' := 65) rfl (fun _ _ hq => ?_)
  obtain ⟨ea, rfl, rfl⟩ := hq
  show Go Z k 2 6 ((ea, ArL Z (List.replicate cN 0)) :: (a1, Obj Z "com/example/mangrove/mangrove/MemorySlidingWindowLog$KeyLog" [("com/example/mangrove/mangrove/MemorySlidingWindowLog$KeyLog", "entries", "[J", (.ref ea)), ("com/example/mangrove/mangrove/MemorySlidingWindowLog$KeyLog", "size", "I", (.int (0 : Nat).toInt32)), ("com/example/mangrove/mangrove/MemorySlidingWindowLog$KeyLog", "first", "I", (.int (0 : Nat).toInt32))]) :: []) 65 #[.val (.int i0), .val (.long i1), .second, .val (.long i2), .second, .val (.int cN.toInt32), .val (.int (3 : Int32)), .val (.int (0 : Int32)), .val (.int (0 : Int32)), .val (.long lim), .second, .unset, .unset, .unset, .unset, .unset, .unset] [(.ref a1)]
  obtain ⟨es2, he, les2, Kes2⟩ : ∃ es : List Int64, es = List.replicate cN 0 ∧ es.length = cN ∧ KL es 0 0 [] := ⟨_, rfl, by simp, KL.new (by omega) (by omega)⟩
  rw [← he]
  clear he
  show Go Z k 2 6 ((ea, ArL Z es2) :: (a1, Obj Z "com/example/mangrove/mangrove/MemorySlidingWindowLog$KeyLog" [("com/example/mangrove/mangrove/MemorySlidingWindowLog$KeyLog", "entries", "[J", (.ref ea)), ("com/example/mangrove/mangrove/MemorySlidingWindowLog$KeyLog", "size", "I", (.int (0 : Nat).toInt32)), ("com/example/mangrove/mangrove/MemorySlidingWindowLog$KeyLog", "first", "I", (.int (0 : Nat).toInt32))]) :: []) 65 #[.val (.int i0), .val (.long i1), .second, .val (.long i2), .second, .val (.int cN.toInt32), .val (.int (3 : Int32)), .val (.int (0 : Int32)), .val (.int (0 : Int32)), .val (.long lim), .second, .unset, .unset, .unset, .unset, .unset, .unset] [(.ref a1)]
  refine s_astore H at_65 (L' := #[.val (.int i0), .val (.long i1), .second, .val (.long i2), .second, .val (.int cN.toInt32), .val (.int (3 : Int32)), .val (.int (0 : Int32)), .val (.int (0 : Int32)), .val (.long lim), .second, .val (.ref a1), .unset, .unset, .unset, .unset, .unset]) rfl rfl (pc' := 67) rfl ?_
  refine s_aload H at_67 rfl rfl (pc' := 69) rfl ?_
  refine s_lloadn H at_69 rfl (pc' := 70) rfl ?_
  refine s_lload H at_70 rfl (pc' := 72) rfl ?_
  refine s_virtual H (met_ka H.tb a1 ea es2 ([] : List Int64) (0 : Nat) 0 i1 lim Kes2 (by decide) (by omega)) at_72 (i := 1) rfl (mem (i := 17) rfl) (mem (i := 18) rfl) (mem (i := 20) rfl) (mem (i := 19) rfl) (mem (i := 7) rfl) (mem (i := 21) rfl) (by decide) pd_4 rfl (rest := []) rfl rfl (by decide) (Nat.le_of_ble_eq_true rfl) (cn' := 3) (sn' := 16) rfl rfl (by decide) (by decide) (pc' := 75) rfl (fun _ _ hq => ?_)
  obtain ⟨ea3, es3, f3, F3, Kes3', rfl, rfl⟩ := hq
  show Go Z k 3 16 ((ea3, ArL Z es3) :: (a1, Obj Z "com/example/mangrove/mangrove/MemorySlidingWindowLog$KeyLog" [("com/example/mangrove/mangrove/MemorySlidingWindowLog$KeyLog", "entries", "[J", (.ref ea3)), ("com/example/mangrove/mangrove/MemorySlidingWindowLog$KeyLog", "size", "I", (.int (1 : Nat).toInt32)), ("com/example/mangrove/mangrove/MemorySlidingWindowLog$KeyLog", "first", "I", (.int f3.toInt32))]) :: F3) 75 #[.val (.int i0), .val (.long i1), .second, .val (.long i2), .second, .val (.int cN.toInt32), .val (.int (3 : Int32)), .val (.int (0 : Int32)), .val (.int (0 : Int32)), .val (.long lim), .second, .val (.ref a1), .unset, .unset, .unset, .unset, .unset] []
  have Kes3 : KL es3 f3 1 ([i1] : List Int64) := Kes3'
  refine s_iload H at_75 rfl (pc' := 77) rfl ?_
  refine s_iconst H at_77 (z := (1 : Int32)) (by decide) (pc' := 78) rfl ?_
  refine s_icmp H at_78 (py := 91) (pc' := 81) q_le (by decide) rfl (fun c78 => ?_) (fun c78 => ?_)
  · exact absurd c78 (by decide)
  · refine s_aload H at_81 rfl rfl (pc' := 83) rfl ?_
    refine s_lloadn H at_83 rfl (pc' := 84) rfl ?_
    refine s_lconst H at_84 (z := (1 : Int64)) (by decide) (pc' := 85) rfl ?_
    refine s_ladd H at_85 (pc' := 86) rfl ?_
    refine s_lload H at_86 rfl (pc' := 88) rfl ?_
    refine s_virtual H (met_ka H.tb a1 ea3 es3 ([i1] : List Int64) f3 1 (i1 + (1 : Int64)) lim Kes3 (by decide) (by omega)) at_88 (i := 1) rfl (mem (i := 17) rfl) (mem (i := 18) rfl) (mem (i := 20) rfl) (mem (i := 19) rfl) (mem (i := 7) rfl) (mem (i := 21) rfl) (by decide) pd_4 rfl (rest := []) rfl rfl (by decide) (Nat.le_of_ble_eq_true rfl) (cn' := 4) (sn' := 26) rfl rfl (by decide) (by decide) (pc' := 91) rfl (fun _ _ hq => ?_)
    obtain ⟨ea4, es4, f4, F4, Kes4', rfl, rfl⟩ := hq
    show Go Z k 4 26 ((ea4, ArL Z es4) :: (a1, Obj Z "com/example/mangrove/mangrove/MemorySlidingWindowLog$KeyLog" [("com/example/mangrove/mangrove/MemorySlidingWindowLog$KeyLog", "entries", "[J", (.ref ea4)), ("com/example/mangrove/mangrove/MemorySlidingWindowLog$KeyLog", "size", "I", (.int (2 : Nat).toInt32)), ("com/example/mangrove/mangrove/MemorySlidingWindowLog$KeyLog", "first", "I", (.int f4.toInt32))]) :: F4) 91 #[.val (.int i0), .val (.long i1), .second, .val (.long i2), .second, .val (.int cN.toInt32), .val (.int (3 : Int32)), .val (.int (0 : Int32)), .val (.int (0 : Int32)), .val (.long lim), .second, .val (.ref a1), .unset, .unset, .unset, .unset, .unset] []
    have Kes4 : KL es4 f4 2 ([i1, (i1 + (1 : Int64))] : List Int64) := Kes4'
    refine s_iload H at_91 rfl (pc' := 93) rfl ?_
    refine s_iconst H at_93 (z := (2 : Int32)) (by decide) (pc' := 94) rfl ?_
    refine s_icmp H at_94 (py := 109) (pc' := 97) q_le (by decide) rfl (fun c94 => ?_) (fun c94 => ?_)
    · exact absurd c94 (by decide)
    · refine s_aload H at_97 rfl rfl (pc' := 99) rfl ?_
      refine s_lloadn H at_99 rfl (pc' := 100) rfl ?_
      refine s_ldc2 H at_100 (mem (i := 49) rfl) (pc' := 103) rfl ?_
      refine s_ladd H at_103 (pc' := 104) rfl ?_
      refine s_lload H at_104 rfl (pc' := 106) rfl ?_
      refine s_virtual H (met_ka H.tb a1 ea4 es4 ([i1, (i1 + (1 : Int64))] : List Int64) f4 2 (i1 + (2 : Int64)) lim Kes4 (by decide) (by omega)) at_106 (i := 1) rfl (mem (i := 17) rfl) (mem (i := 18) rfl) (mem (i := 20) rfl) (mem (i := 19) rfl) (mem (i := 7) rfl) (mem (i := 21) rfl) (by decide) pd_4 rfl (rest := []) rfl rfl (by decide) (Nat.le_of_ble_eq_true rfl) (cn' := 5) (sn' := 36) rfl rfl (by decide) (by decide) (pc' := 109) rfl (fun _ _ hq => ?_)
      obtain ⟨ea5, es5, f5, F5, Kes5', rfl, rfl⟩ := hq
      show Go Z k 5 36 ((ea5, ArL Z es5) :: (a1, Obj Z "com/example/mangrove/mangrove/MemorySlidingWindowLog$KeyLog" [("com/example/mangrove/mangrove/MemorySlidingWindowLog$KeyLog", "entries", "[J", (.ref ea5)), ("com/example/mangrove/mangrove/MemorySlidingWindowLog$KeyLog", "size", "I", (.int (3 : Nat).toInt32)), ("com/example/mangrove/mangrove/MemorySlidingWindowLog$KeyLog", "first", "I", (.int f5.toInt32))]) :: F5) 109 #[.val (.int i0), .val (.long i1), .second, .val (.long i2), .second, .val (.int cN.toInt32), .val (.int (3 : Int32)), .val (.int (0 : Int32)), .val (.int (0 : Int32)), .val (.long lim), .second, .val (.ref a1), .unset, .unset, .unset, .unset, .unset] []
      have Kes5 : KL es5 f5 3 ([i1, (i1 + (1 : Int64)), (i1 + (2 : Int64))] : List Int64) := Kes5'
      refine s_lloadn H at_109 rfl (pc' := 110) rfl ?_
      refine s_iload H at_110 rfl (pc' := 112) rfl ?_
      refine s_iconst H at_112 (z := (1 : Int32)) (by decide) (pc' := 113) rfl ?_
      refine s_isub H at_113 (pc' := 114) rfl ?_
      refine s_i2l H at_114 (pc' := 115) rfl ?_
      refine s_ladd H at_115 (pc' := 116) rfl ?_
      refine s_lstore H at_116 (L' := fun z => #[.val (.int i0), .val (.long i1), .second, .val (.long i2), .second, .val (.int cN.toInt32), .val (.int (3 : Int32)), .val (.int (0 : Int32)), .val (.int (0 : Int32)), .val (.long lim), .second, .val (.ref a1), .val (.long z), .second, .unset, .unset, .unset]) (fun _ => rfl) (pc' := 118) rfl (fun af h_af => ?_)
      refine s_aload H at_118 rfl rfl (pc' := 120) rfl ?_
      refine s_virtual H (met_kn H.tb a1 ea5 es5 ([i1, (i1 + (1 : Int64))] : List Int64) f5 3 (i1 + (2 : Int64)) Kes5) at_120 (i := 1) rfl (mem (i := 26) rfl) (mem (i := 27) rfl) (mem (i := 29) rfl) (mem (i := 28) rfl) (mem (i := 7) rfl) (mem (i := 30) rfl) (by decide) pd_5 rfl (rest := []) rfl rfl (by decide) (Nat.le_of_ble_eq_true rfl) (cn' := 5) (sn' := 36) rfl rfl (by decide) (by decide) (pc' := 123) rfl (fun _ _ hq => ?_)
      obtain ⟨rfl, rfl⟩ := hq
      show Go Z k 5 36 ((ea5, ArL Z es5) :: (a1, Obj Z "com/example/mangrove/mangrove/MemorySlidingWindowLog$KeyLog" [("com/example/mangrove/mangrove/MemorySlidingWindowLog$KeyLog", "entries", "[J", (.ref ea5)), ("com/example/mangrove/mangrove/MemorySlidingWindowLog$KeyLog", "size", "I", (.int (3 : Nat).toInt32)), ("com/example/mangrove/mangrove/MemorySlidingWindowLog$KeyLog", "first", "I", (.int f5.toInt32))]) :: F5) 123 #[.val (.int i0), .val (.long i1), .second, .val (.long i2), .second, .val (.int cN.toInt32), .val (.int (3 : Int32)), .val (.int (0 : Int32)), .val (.int (0 : Int32)), .val (.long lim), .second, .val (.ref a1), .val (.long af), .second, .unset, .unset, .unset] [(.long (i1 + (2 : Int64)))]
      refine s_lload H at_123 rfl (pc' := 125) rfl ?_
      refine s_lcmp H at_125 (pc' := 126) rfl ?_
      refine s_if H at_126 (py := 133) (pc' := 129) l_ne (by decide) rfl (fun c126 => ?_) (fun c126 => ?_)
      · exact absurd (by rw [h_af, show (((3 : Int32) - (1 : Int32)).toInt64) = 2 from by decide]) c126
      · refine s_iconst H at_129 (z := (1 : Int32)) (by decide) (pc' := 130) rfl ?_
        refine s_goto H at_130 (pc' := 134) (by decide) ?_
        refine s_istore H at_134 (L' := fun z => #[.val (.int i0), .val (.long i1), .second, .val (.long i2), .second, .val (.int cN.toInt32), .val (.int (3 : Int32)), .val (.int (0 : Int32)), .val (.int (0 : Int32)), .val (.long lim), .second, .val (.ref a1), .val (.long af), .second, .val (.int z), .unset, .unset]) (fun _ => rfl) (pc' := 136) rfl (fun z0 hz => ?_)
        subst z0
        refine s_iload H at_136 rfl (pc' := 138) rfl ?_
        refine s_if H at_138 (py := 146) (pc' := 141) z_le (by decide) rfl (fun c138 => ?_) (fun c138 => ?_)
        · refine s_iload H at_146 rfl (pc' := 148) rfl ?_
          refine s_iconst H at_148 (z := (1 : Int32)) (by decide) (pc' := 149) rfl ?_
          refine s_icmp H at_149 (py := 157) (pc' := 152) q_le (by decide) rfl (fun c149 => ?_) (fun c149 => ?_)
          · refine s_iload H at_157 rfl (pc' := 159) rfl ?_
            refine s_if H at_159 (py := 177) (pc' := 162) z_eq (by decide) rfl (fun c159 => ?_) (fun c159 => ?_)
            · exact absurd c159 (by decide)
            · refine s_aload H at_162 rfl rfl (pc' := 164) rfl ?_
              refine s_virtual H (met_kn H.tb a1 ea5 es5 ([i1, (i1 + (1 : Int64))] : List Int64) f5 3 (i1 + (2 : Int64)) Kes5) at_164 (i := 1) rfl (mem (i := 26) rfl) (mem (i := 27) rfl) (mem (i := 29) rfl) (mem (i := 28) rfl) (mem (i := 7) rfl) (mem (i := 30) rfl) (by decide) pd_5 rfl (rest := []) rfl rfl (by decide) (Nat.le_of_ble_eq_true rfl) (cn' := 5) (sn' := 36) rfl rfl (by decide) (by decide) (pc' := 167) rfl (fun _ _ hq => ?_)
              obtain ⟨rfl, rfl⟩ := hq
              show Go Z k 5 36 ((ea5, ArL Z es5) :: (a1, Obj Z "com/example/mangrove/mangrove/MemorySlidingWindowLog$KeyLog" [("com/example/mangrove/mangrove/MemorySlidingWindowLog$KeyLog", "entries", "[J", (.ref ea5)), ("com/example/mangrove/mangrove/MemorySlidingWindowLog$KeyLog", "size", "I", (.int (3 : Nat).toInt32)), ("com/example/mangrove/mangrove/MemorySlidingWindowLog$KeyLog", "first", "I", (.int f5.toInt32))]) :: F5) 167 #[.val (.int i0), .val (.long i1), .second, .val (.long i2), .second, .val (.int cN.toInt32), .val (.int (3 : Int32)), .val (.int (0 : Int32)), .val (.int (0 : Int32)), .val (.long lim), .second, .val (.ref a1), .val (.long af), .second, .val (.int (1 : Int32)), .unset, .unset] [(.long (i1 + (2 : Int64)))]
              refine s_lload H at_167 rfl (pc' := 169) rfl ?_
              refine s_lcmp H at_169 (pc' := 170) rfl ?_
              refine s_if H at_170 (py := 177) (pc' := 173) l_ne (by decide) rfl (fun c170 => ?_) (fun c170 => ?_)
              · exact absurd (by rw [h_af, show (((3 : Int32) - (1 : Int32)).toInt64) = 2 from by decide]) c170
              · refine s_iconst H at_173 (z := (1 : Int32)) (by decide) (pc' := 174) rfl ?_
                refine s_goto H at_174 (pc' := 178) (by decide) ?_
                refine s_istore H at_178 (L' := fun z => #[.val (.int i0), .val (.long i1), .second, .val (.long i2), .second, .val (.int cN.toInt32), .val (.int (3 : Int32)), .val (.int (0 : Int32)), .val (.int (0 : Int32)), .val (.long lim), .second, .val (.ref a1), .val (.long af), .second, .val (.int z), .unset, .unset]) (fun _ => rfl) (pc' := 180) rfl (fun z0 hz => ?_)
                subst z0
                refine s_iload H at_180 rfl (pc' := 182) rfl ?_
                refine s_if H at_182 (py := 197) (pc' := 185) z_le (by decide) rfl (fun c182 => ?_) (fun c182 => ?_)
                · refine s_iload H at_197 rfl (pc' := 199) rfl ?_
                  refine s_iconst H at_199 (z := (1 : Int32)) (by decide) (pc' := 200) rfl ?_
                  refine s_icmp H at_200 (py := 215) (pc' := 203) q_le (by decide) rfl (fun c200 => ?_) (fun c200 => ?_)
                  · refine s_iload H at_215 rfl (pc' := 217) rfl ?_
                    refine s_iconst H at_217 (z := (2 : Int32)) (by decide) (pc' := 218) rfl ?_
                    refine s_icmp H at_218 (py := 233) (pc' := 221) q_le (by decide) rfl (fun c218 => ?_) (fun c218 => ?_)
                    · refine s_iload H at_233 rfl (pc' := 235) rfl ?_
                      refine s_if H at_235 (py := 243) (pc' := 238) z_ne (by decide) rfl (fun c235 => ?_) (fun c235 => ?_)
                      · exact absurd c235 (by decide)
                      · refine s_lload H at_238 rfl (pc' := 240) rfl ?_
                        refine s_goto H at_240 (pc' := 250) (by decide) ?_
                        refine s_lstore H at_250 (L' := fun z => #[.val (.int i0), .val (.long i1), .second, .val (.long i2), .second, .val (.int cN.toInt32), .val (.int (3 : Int32)), .val (.int (0 : Int32)), .val (.int (0 : Int32)), .val (.long lim), .second, .val (.ref a1), .val (.long af), .second, .val (.int (1 : Int32)), .val (.long z), .second]) (fun _ => rfl) (pc' := 252) rfl (fun z0 hz => ?_)
                        subst z0
                        refine s_iload H at_252 rfl (pc' := 254) rfl ?_
                        refine s_if H at_254 (py := 272) (pc' := 257) z_eq (by decide) rfl (fun c254 => ?_) (fun c254 => ?_)
                        · exact absurd c254 (by decide)
                        · refine s_aload H at_257 rfl rfl (pc' := 259) rfl ?_
                          refine s_virtual H (met_kn H.tb a1 ea5 es5 ([i1, (i1 + (1 : Int64))] : List Int64) f5 3 (i1 + (2 : Int64)) Kes5) at_259 (i := 1) rfl (mem (i := 26) rfl) (mem (i := 27) rfl) (mem (i := 29) rfl) (mem (i := 28) rfl) (mem (i := 7) rfl) (mem (i := 30) rfl) (by decide) pd_5 rfl (rest := []) rfl rfl (by decide) (Nat.le_of_ble_eq_true rfl) (cn' := 5) (sn' := 36) rfl rfl (by decide) (by decide) (pc' := 262) rfl (fun _ _ hq => ?_)
                          obtain ⟨rfl, rfl⟩ := hq
                          show Go Z k 5 36 ((ea5, ArL Z es5) :: (a1, Obj Z "com/example/mangrove/mangrove/MemorySlidingWindowLog$KeyLog" [("com/example/mangrove/mangrove/MemorySlidingWindowLog$KeyLog", "entries", "[J", (.ref ea5)), ("com/example/mangrove/mangrove/MemorySlidingWindowLog$KeyLog", "size", "I", (.int (3 : Nat).toInt32)), ("com/example/mangrove/mangrove/MemorySlidingWindowLog$KeyLog", "first", "I", (.int f5.toInt32))]) :: F5) 262 #[.val (.int i0), .val (.long i1), .second, .val (.long i2), .second, .val (.int cN.toInt32), .val (.int (3 : Int32)), .val (.int (0 : Int32)), .val (.int (0 : Int32)), .val (.long lim), .second, .val (.ref a1), .val (.long af), .second, .val (.int (1 : Int32)), .val (.long af), .second] [(.long (i1 + (2 : Int64)))]
                          refine s_lload H at_262 rfl (pc' := 264) rfl ?_
                          refine s_lcmp H at_264 (pc' := 265) rfl ?_
                          refine s_if H at_265 (py := 272) (pc' := 268) l_ne (by decide) rfl (fun c265 => ?_) (fun c265 => ?_)
                          · exact absurd (by rw [h_af, show (((3 : Int32) - (1 : Int32)).toInt64) = 2 from by decide]) c265
                          · refine s_iconst H at_268 (z := (1 : Int32)) (by decide) (pc' := 269) rfl ?_
                            refine s_goto H at_269 (pc' := 273) (by decide) ?_
                            exact s_iret H at_273 rfl (by simp) (by decide) (by decide) (rfl)
                    · exact absurd c218 (by decide)
                  · exact absurd c200 (by decide)
                · exact absurd c182 (by decide)
          · exact absurd c149 (by decide)
        · exact absurd c138 (by decide)
set_option maxRecDepth 65536 in
set_option maxHeartbeats 40000000 in
theorem s42_3_0_1 {Z : State} {k : Cx} {i0 : Int32} {i1 i2 : Int64} (cN : Nat) (H : Ok Z k room_1 (LQ) x code maxLocals ret) (h0 : 0 < cN) (hc : cN ≤ 3) : Go Z k 0 0 ([] : Hp) 42 #[.val (.int i0), .val (.long i1), .second, .val (.long i2), .second, .val (.int cN.toInt32), .val (.int (3 : Int32)), .val (.int (0 : Int32)), .val (.int (1 : Int32)), .unset, .unset, .unset, .unset, .unset, .unset, .unset, .unset] [] := by
  refine s_iload H at_42 rfl (pc' := 44) rfl ?_
  refine s_iload H at_44 rfl (pc' := 46) rfl ?_
  refine s_iadd H at_46 (pc' := 47) rfl ?_
  refine s_i2l H at_47 (pc' := 48) rfl ?_
  refine s_lloadn H at_48 rfl (pc' := 49) rfl ?_
  refine s_ldc2 H at_49 (mem (i := 4) rfl) (pc' := 52) rfl ?_
  refine s_land H at_52 (pc' := 53) rfl ?_
  refine s_ladd H at_53 (pc' := 54) rfl ?_
  refine s_lstore H at_54 (L' := fun z => #[.val (.int i0), .val (.long i1), .second, .val (.long i2), .second, .val (.int cN.toInt32), .val (.int (3 : Int32)), .val (.int (0 : Int32)), .val (.int (1 : Int32)), .val (.long z), .second, .unset, .unset, .unset, .unset, .unset, .unset]) (fun _ => rfl) (pc' := 56) rfl (fun lim h_lim => ?_)
  have hl : 4 ≤ lim.toInt := by
    have m := c_maskL i2 4611686018427387903 62 (by decide) (by decide)
    have s := c_ladd ((((3 : Int32) + (1 : Int32)).toInt64)) (i2 &&& 4611686018427387903)
    rw [← h_lim, show ((((3 : Int32) + (1 : Int32)).toInt64)).toInt = 4 from by decide] at s
    have rl := rng64 lim
    omega
  refine s_new H (C := "com/example/mangrove/mangrove/MemorySlidingWindowLog$KeyLog") [("com/example/mangrove/mangrove/MemorySlidingWindowLog$KeyLog", "entries", "[J", .null), ("com/example/mangrove/mangrove/MemorySlidingWindowLog$KeyLog", "size", "I", (.int (0 : Int32))), ("com/example/mangrove/mangrove/MemorySlidingWindowLog$KeyLog", "first", "I", (.int (0 : Int32)))] at_56 (mem (i := 5) rfl) (mem (i := 6) rfl) (mem (i := 7) rfl) (allC ⟨Or.inl (mem (i := 16) rfl), (.array .long), by decide, rfl⟩ (allC ⟨Or.inl (mem (i := 23) rfl), .int, by decide, rfl⟩ (allC ⟨Or.inl (mem (i := 25) rfl), .int, by decide, rfl⟩ allN))) (by decide) (cn' := 1) (sn' := 3) rfl rfl (by decide) (by decide) (pc' := 59) rfl (fun a1 => ?_)
  refine s_dup H at_59 rfl (pc' := 60) rfl ?_
  refine s_iload H at_60 rfl (pc' := 62) rfl ?_
  refine s_init H (met_ki H.tb a1 cN hc) at_62 rfl (mem (i := 8) rfl) (mem (i := 9) rfl) (mem (i := 7) rfl) (mem (i := 10) rfl) (by decide) pd_2 rfl (rest := [(.ref a1)]) rfl rfl (by decide) (Nat.le_of_ble_eq_true rfl) (cn' := 2) (sn' := 6) rfl rfl (by decide) (by decide) (pc' := 65) rfl (fun _ _ hq => ?_)
  obtain ⟨ea, rfl, rfl⟩ := hq
  show Go Z k 2 6 ((ea, ArL Z (List.replicate cN 0)) :: (a1, Obj Z "com/example/mangrove/mangrove/MemorySlidingWindowLog$KeyLog" [("com/example/mangrove/mangrove/MemorySlidingWindowLog$KeyLog", "entries", "[J", (.ref ea)), ("com/example/mangrove/mangrove/MemorySlidingWindowLog$KeyLog", "size", "I", (.int (0 : Nat).toInt32)), ("com/example/mangrove/mangrove/MemorySlidingWindowLog$KeyLog", "first", "I", (.int (0 : Nat).toInt32))]) :: []) 65 #[.val (.int i0), .val (.long i1), .second, .val (.long i2), .second, .val (.int cN.toInt32), .val (.int (3 : Int32)), .val (.int (0 : Int32)), .val (.int (1 : Int32)), .val (.long lim), .second, .unset, .unset, .unset, .unset, .unset, .unset] [(.ref a1)]
  obtain ⟨es2, he, les2, Kes2⟩ : ∃ es : List Int64, es = List.replicate cN 0 ∧ es.length = cN ∧ KL es 0 0 [] := ⟨_, rfl, by simp, KL.new (by omega) (by omega)⟩
  rw [← he]
  clear he
  show Go Z k 2 6 ((ea, ArL Z es2) :: (a1, Obj Z "com/example/mangrove/mangrove/MemorySlidingWindowLog$KeyLog" [("com/example/mangrove/mangrove/MemorySlidingWindowLog$KeyLog", "entries", "[J", (.ref ea)), ("com/example/mangrove/mangrove/MemorySlidingWindowLog$KeyLog", "size", "I", (.int (0 : Nat).toInt32)), ("com/example/mangrove/mangrove/MemorySlidingWindowLog$KeyLog", "first", "I", (.int (0 : Nat).toInt32))]) :: []) 65 #[.val (.int i0), .val (.long i1), .second, .val (.long i2), .second, .val (.int cN.toInt32), .val (.int (3 : Int32)), .val (.int (0 : Int32)), .val (.int (1 : Int32)), .val (.long lim), .second, .unset, .unset, .unset, .unset, .unset, .unset] [(.ref a1)]
  refine s_astore H at_65 (L' := #[.val (.int i0), .val (.long i1), .second, .val (.long i2), .second, .val (.int cN.toInt32), .val (.int (3 : Int32)), .val (.int (0 : Int32)), .val (.int (1 : Int32)), .val (.long lim), .second, .val (.ref a1), .unset, .unset, .unset, .unset, .unset]) rfl rfl (pc' := 67) rfl ?_
  refine s_aload H at_67 rfl rfl (pc' := 69) rfl ?_
  refine s_lloadn H at_69 rfl (pc' := 70) rfl ?_
  refine s_lload H at_70 rfl (pc' := 72) rfl ?_
  refine s_virtual H (met_ka H.tb a1 ea es2 ([] : List Int64) (0 : Nat) 0 i1 lim Kes2 (by decide) (by omega)) at_72 (i := 1) rfl (mem (i := 17) rfl) (mem (i := 18) rfl) (mem (i := 20) rfl) (mem (i := 19) rfl) (mem (i := 7) rfl) (mem (i := 21) rfl) (by decide) pd_4 rfl (rest := []) rfl rfl (by decide) (Nat.le_of_ble_eq_true rfl) (cn' := 3) (sn' := 16) rfl rfl (by decide) (by decide) (pc' := 75) rfl (fun _ _ hq => ?_)
  obtain ⟨ea3, es3, f3, F3, Kes3', rfl, rfl⟩ := hq
  show Go Z k 3 16 ((ea3, ArL Z es3) :: (a1, Obj Z "com/example/mangrove/mangrove/MemorySlidingWindowLog$KeyLog" [("com/example/mangrove/mangrove/MemorySlidingWindowLog$KeyLog", "entries", "[J", (.ref ea3)), ("com/example/mangrove/mangrove/MemorySlidingWindowLog$KeyLog", "size", "I", (.int (1 : Nat).toInt32)), ("com/example/mangrove/mangrove/MemorySlidingWindowLog$KeyLog", "first", "I", (.int f3.toInt32))]) :: F3) 75 #[.val (.int i0), .val (.long i1), .second, .val (.long i2), .second, .val (.int cN.toInt32), .val (.int (3 : Int32)), .val (.int (0 : Int32)), .val (.int (1 : Int32)), .val (.long lim), .second, .val (.ref a1), .unset, .unset, .unset, .unset, .unset] []
  have Kes3 : KL es3 f3 1 ([i1] : List Int64) := Kes3'
  refine s_iload H at_75 rfl (pc' := 77) rfl ?_
  refine s_iconst H at_77 (z := (1 : Int32)) (by decide) (pc' := 78) rfl ?_
  refine s_icmp H at_78 (py := 91) (pc' := 81) q_le (by decide) rfl (fun c78 => ?_) (fun c78 => ?_)
  · exact absurd c78 (by decide)
  · refine s_aload H at_81 rfl rfl (pc' := 83) rfl ?_
    refine s_lloadn H at_83 rfl (pc' := 84) rfl ?_
    refine s_lconst H at_84 (z := (1 : Int64)) (by decide) (pc' := 85) rfl ?_
    refine s_ladd H at_85 (pc' := 86) rfl ?_
    refine s_lload H at_86 rfl (pc' := 88) rfl ?_
    refine s_virtual H (met_ka H.tb a1 ea3 es3 ([i1] : List Int64) f3 1 (i1 + (1 : Int64)) lim Kes3 (by decide) (by omega)) at_88 (i := 1) rfl (mem (i := 17) rfl) (mem (i := 18) rfl) (mem (i := 20) rfl) (mem (i := 19) rfl) (mem (i := 7) rfl) (mem (i := 21) rfl) (by decide) pd_4 rfl (rest := []) rfl rfl (by decide) (Nat.le_of_ble_eq_true rfl) (cn' := 4) (sn' := 26) rfl rfl (by decide) (by decide) (pc' := 91) rfl (fun _ _ hq => ?_)
    obtain ⟨ea4, es4, f4, F4, Kes4', rfl, rfl⟩ := hq
    show Go Z k 4 26 ((ea4, ArL Z es4) :: (a1, Obj Z "com/example/mangrove/mangrove/MemorySlidingWindowLog$KeyLog" [("com/example/mangrove/mangrove/MemorySlidingWindowLog$KeyLog", "entries", "[J", (.ref ea4)), ("com/example/mangrove/mangrove/MemorySlidingWindowLog$KeyLog", "size", "I", (.int (2 : Nat).toInt32)), ("com/example/mangrove/mangrove/MemorySlidingWindowLog$KeyLog", "first", "I", (.int f4.toInt32))]) :: F4) 91 #[.val (.int i0), .val (.long i1), .second, .val (.long i2), .second, .val (.int cN.toInt32), .val (.int (3 : Int32)), .val (.int (0 : Int32)), .val (.int (1 : Int32)), .val (.long lim), .second, .val (.ref a1), .unset, .unset, .unset, .unset, .unset] []
    have Kes4 : KL es4 f4 2 ([i1, (i1 + (1 : Int64))] : List Int64) := Kes4'
    refine s_iload H at_91 rfl (pc' := 93) rfl ?_
    refine s_iconst H at_93 (z := (2 : Int32)) (by decide) (pc' := 94) rfl ?_
    refine s_icmp H at_94 (py := 109) (pc' := 97) q_le (by decide) rfl (fun c94 => ?_) (fun c94 => ?_)
    · exact absurd c94 (by decide)
    · refine s_aload H at_97 rfl rfl (pc' := 99) rfl ?_
      refine s_lloadn H at_99 rfl (pc' := 100) rfl ?_
      refine s_ldc2 H at_100 (mem (i := 49) rfl) (pc' := 103) rfl ?_
      refine s_ladd H at_103 (pc' := 104) rfl ?_
      refine s_lload H at_104 rfl (pc' := 106) rfl ?_
      refine s_virtual H (met_ka H.tb a1 ea4 es4 ([i1, (i1 + (1 : Int64))] : List Int64) f4 2 (i1 + (2 : Int64)) lim Kes4 (by decide) (by omega)) at_106 (i := 1) rfl (mem (i := 17) rfl) (mem (i := 18) rfl) (mem (i := 20) rfl) (mem (i := 19) rfl) (mem (i := 7) rfl) (mem (i := 21) rfl) (by decide) pd_4 rfl (rest := []) rfl rfl (by decide) (Nat.le_of_ble_eq_true rfl) (cn' := 5) (sn' := 36) rfl rfl (by decide) (by decide) (pc' := 109) rfl (fun _ _ hq => ?_)
      obtain ⟨ea5, es5, f5, F5, Kes5', rfl, rfl⟩ := hq
      show Go Z k 5 36 ((ea5, ArL Z es5) :: (a1, Obj Z "com/example/mangrove/mangrove/MemorySlidingWindowLog$KeyLog" [("com/example/mangrove/mangrove/MemorySlidingWindowLog$KeyLog", "entries", "[J", (.ref ea5)), ("com/example/mangrove/mangrove/MemorySlidingWindowLog$KeyLog", "size", "I", (.int (3 : Nat).toInt32)), ("com/example/mangrove/mangrove/MemorySlidingWindowLog$KeyLog", "first", "I", (.int f5.toInt32))]) :: F5) 109 #[.val (.int i0), .val (.long i1), .second, .val (.long i2), .second, .val (.int cN.toInt32), .val (.int (3 : Int32)), .val (.int (0 : Int32)), .val (.int (1 : Int32)), .val (.long lim), .second, .val (.ref a1), .unset, .unset, .unset, .unset, .unset] []
      have Kes5 : KL es5 f5 3 ([i1, (i1 + (1 : Int64)), (i1 + (2 : Int64))] : List Int64) := Kes5'
      refine s_lloadn H at_109 rfl (pc' := 110) rfl ?_
      refine s_iload H at_110 rfl (pc' := 112) rfl ?_
      refine s_iconst H at_112 (z := (1 : Int32)) (by decide) (pc' := 113) rfl ?_
      refine s_isub H at_113 (pc' := 114) rfl ?_
      refine s_i2l H at_114 (pc' := 115) rfl ?_
      refine s_ladd H at_115 (pc' := 116) rfl ?_
      refine s_lstore H at_116 (L' := fun z => #[.val (.int i0), .val (.long i1), .second, .val (.long i2), .second, .val (.int cN.toInt32), .val (.int (3 : Int32)), .val (.int (0 : Int32)), .val (.int (1 : Int32)), .val (.long lim), .second, .val (.ref a1), .val (.long z), .second, .unset, .unset, .unset]) (fun _ => rfl) (pc' := 118) rfl (fun af h_af => ?_)
      refine s_aload H at_118 rfl rfl (pc' := 120) rfl ?_
      refine s_virtual H (met_kn H.tb a1 ea5 es5 ([i1, (i1 + (1 : Int64))] : List Int64) f5 3 (i1 + (2 : Int64)) Kes5) at_120 (i := 1) rfl (mem (i := 26) rfl) (mem (i := 27) rfl) (mem (i := 29) rfl) (mem (i := 28) rfl) (mem (i := 7) rfl) (mem (i := 30) rfl) (by decide) pd_5 rfl (rest := []) rfl rfl (by decide) (Nat.le_of_ble_eq_true rfl) (cn' := 5) (sn' := 36) rfl rfl (by decide) (by decide) (pc' := 123) rfl (fun _ _ hq => ?_)
      obtain ⟨rfl, rfl⟩ := hq
      show Go Z k 5 36 ((ea5, ArL Z es5) :: (a1, Obj Z "com/example/mangrove/mangrove/MemorySlidingWindowLog$KeyLog" [("com/example/mangrove/mangrove/MemorySlidingWindowLog$KeyLog", "entries", "[J", (.ref ea5)), ("com/example/mangrove/mangrove/MemorySlidingWindowLog$KeyLog", "size", "I", (.int (3 : Nat).toInt32)), ("com/example/mangrove/mangrove/MemorySlidingWindowLog$KeyLog", "first", "I", (.int f5.toInt32))]) :: F5) 123 #[.val (.int i0), .val (.long i1), .second, .val (.long i2), .second, .val (.int cN.toInt32), .val (.int (3 : Int32)), .val (.int (0 : Int32)), .val (.int (1 : Int32)), .val (.long lim), .second, .val (.ref a1), .val (.long af), .second, .unset, .unset, .unset] [(.long (i1 + (2 : Int64)))]
      refine s_lload H at_123 rfl (pc' := 125) rfl ?_
      refine s_lcmp H at_125 (pc' := 126) rfl ?_
      refine s_if H at_126 (py := 133) (pc' := 129) l_ne (by decide) rfl (fun c126 => ?_) (fun c126 => ?_)
      · exact absurd (by rw [h_af, show (((3 : Int32) - (1 : Int32)).toInt64) = 2 from by decide]) c126
      · refine s_iconst H at_129 (z := (1 : Int32)) (by decide) (pc' := 130) rfl ?_
        refine s_goto H at_130 (pc' := 134) (by decide) ?_
        refine s_istore H at_134 (L' := fun z => #[.val (.int i0), .val (.long i1), .second, .val (.long i2), .second, .val (.int cN.toInt32), .val (.int (3 : Int32)), .val (.int (0 : Int32)), .val (.int (1 : Int32)), .val (.long lim), .second, .val (.ref a1), .val (.long af), .second, .val (.int z), .unset, .unset]) (fun _ => rfl) (pc' := 136) rfl (fun z0 hz => ?_)
        subst z0
        refine s_iload H at_136 rfl (pc' := 138) rfl ?_
        refine s_if H at_138 (py := 146) (pc' := 141) z_le (by decide) rfl (fun c138 => ?_) (fun c138 => ?_)
        · refine s_iload H at_146 rfl (pc' := 148) rfl ?_
          refine s_iconst H at_148 (z := (1 : Int32)) (by decide) (pc' := 149) rfl ?_
          refine s_icmp H at_149 (py := 157) (pc' := 152) q_le (by decide) rfl (fun c149 => ?_) (fun c149 => ?_)
          · refine s_iload H at_157 rfl (pc' := 159) rfl ?_
            refine s_if H at_159 (py := 177) (pc' := 162) z_eq (by decide) rfl (fun c159 => ?_) (fun c159 => ?_)
            · exact absurd c159 (by decide)
            · refine s_aload H at_162 rfl rfl (pc' := 164) rfl ?_
              refine s_virtual H (met_kn H.tb a1 ea5 es5 ([i1, (i1 + (1 : Int64))] : List Int64) f5 3 (i1 + (2 : Int64)) Kes5) at_164 (i := 1) rfl (mem (i := 26) rfl) (mem (i := 27) rfl) (mem (i := 29) rfl) (mem (i := 28) rfl) (mem (i := 7) rfl) (mem (i := 30) rfl) (by decide) pd_5 rfl (rest := []) rfl rfl (by decide) (Nat.le_of_ble_eq_true rfl) (cn' := 5) (sn' := 36) rfl rfl (by decide) (by decide) (pc' := 167) rfl (fun _ _ hq => ?_)
              obtain ⟨rfl, rfl⟩ := hq
              show Go Z k 5 36 ((ea5, ArL Z es5) :: (a1, Obj Z "com/example/mangrove/mangrove/MemorySlidingWindowLog$KeyLog" [("com/example/mangrove/mangrove/MemorySlidingWindowLog$KeyLog", "entries", "[J", (.ref ea5)), ("com/example/mangrove/mangrove/MemorySlidingWindowLog$KeyLog", "size", "I", (.int (3 : Nat).toInt32)), ("com/example/mangrove/mangrove/MemorySlidingWindowLog$KeyLog", "first", "I", (.int f5.toInt32))]) :: F5) 167 #[.val (.int i0), .val (.long i1), .second, .val (.long i2), .second, .val (.int cN.toInt32), .val (.int (3 : Int32)), .val (.int (0 : Int32)), .val (.int (1 : Int32)), .val (.long lim), .second, .val (.ref a1), .val (.long af), .second, .val (.int (1 : Int32)), .unset, .unset] [(.long (i1 + (2 : Int64)))]
              refine s_lload H at_167 rfl (pc' := 169) rfl ?_
              refine s_lcmp H at_169 (pc' := 170) rfl ?_
              refine s_if H at_170 (py := 177) (pc' := 173) l_ne (by decide) rfl (fun c170 => ?_) (fun c170 => ?_)
              · exact absurd (by rw [h_af, show (((3 : Int32) - (1 : Int32)).toInt64) = 2 from by decide]) c170
              · refine s_iconst H at_173 (z := (1 : Int32)) (by decide) (pc' := 174) rfl ?_
                refine s_goto H at_174 (pc' := 178) (by decide) ?_
                refine s_istore H at_178 (L' := fun z => #[.val (.int i0), .val (.long i1), .second, .val (.long i2), .second, .val (.int cN.toInt32), .val (.int (3 : Int32)), .val (.int (0 : Int32)), .val (.int (1 : Int32)), .val (.long lim), .second, .val (.ref a1), .val (.long af), .second, .val (.int z), .unset, .unset]) (fun _ => rfl) (pc' := 180) rfl (fun z0 hz => ?_)
                subst z0
                refine s_iload H at_180 rfl (pc' := 182) rfl ?_
                refine s_if H at_182 (py := 197) (pc' := 185) z_le (by decide) rfl (fun c182 => ?_) (fun c182 => ?_)
                · exact absurd c182 (by decide)
                · refine s_aload H at_185 rfl rfl (pc' := 187) rfl ?_
                  refine s_lloadn H at_187 rfl (pc' := 188) rfl ?_
                  refine s_ldc2 H at_188 (mem (i := 46) rfl) (pc' := 191) rfl ?_
                  refine s_ladd H at_191 (pc' := 192) rfl ?_
                  refine s_lload H at_192 rfl (pc' := 194) rfl ?_
                  refine s_virtual H (met_ka H.tb a1 ea5 es5 ([i1, (i1 + (1 : Int64)), (i1 + (2 : Int64))] : List Int64) f5 3 (i1 + (3 : Int64)) lim Kes5 (by decide) (by omega)) at_194 (i := 1) rfl (mem (i := 17) rfl) (mem (i := 18) rfl) (mem (i := 20) rfl) (mem (i := 19) rfl) (mem (i := 7) rfl) (mem (i := 21) rfl) (by decide) pd_4 rfl (rest := []) rfl rfl (by decide) (Nat.le_of_ble_eq_true rfl) (cn' := 6) (sn' := 46) rfl rfl (by decide) (by decide) (pc' := 197) rfl (fun _ _ hq => ?_)
                  obtain ⟨ea6, es6, f6, F6, Kes6', rfl, rfl⟩ := hq
                  show Go Z k 6 46 ((ea6, ArL Z es6) :: (a1, Obj Z "com/example/mangrove/mangrove/MemorySlidingWindowLog$KeyLog" [("com/example/mangrove/mangrove/MemorySlidingWindowLog$KeyLog", "entries", "[J", (.ref ea6)), ("com/example/mangrove/mangrove/MemorySlidingWindowLog$KeyLog", "size", "I", (.int (4 : Nat).toInt32)), ("com/example/mangrove/mangrove/MemorySlidingWindowLog$KeyLog", "first", "I", (.int f6.toInt32))]) :: F6) 197 #[.val (.int i0), .val (.long i1), .second, .val (.long i2), .second, .val (.int cN.toInt32), .val (.int (3 : Int32)), .val (.int (0 : Int32)), .val (.int (1 : Int32)), .val (.long lim), .second, .val (.ref a1), .val (.long af), .second, .val (.int (1 : Int32)), .unset, .unset] []
                  have Kes6 : KL es6 f6 4 ([i1, (i1 + (1 : Int64)), (i1 + (2 : Int64)), (i1 + (3 : Int64))] : List Int64) := Kes6'
                  refine s_iload H at_197 rfl (pc' := 199) rfl ?_
                  refine s_iconst H at_199 (z := (1 : Int32)) (by decide) (pc' := 200) rfl ?_
                  refine s_icmp H at_200 (py := 215) (pc' := 203) q_le (by decide) rfl (fun c200 => ?_) (fun c200 => ?_)
                  · refine s_iload H at_215 rfl (pc' := 217) rfl ?_
                    refine s_iconst H at_217 (z := (2 : Int32)) (by decide) (pc' := 218) rfl ?_
                    refine s_icmp H at_218 (py := 233) (pc' := 221) q_le (by decide) rfl (fun c218 => ?_) (fun c218 => ?_)
                    · refine s_iload H at_233 rfl (pc' := 235) rfl ?_
                      refine s_if H at_235 (py := 243) (pc' := 238) z_ne (by decide) rfl (fun c235 => ?_) (fun c235 => ?_)
                      · refine s_lloadn H at_243 rfl (pc' := 244) rfl ?_
                        refine s_iconst H at_244 (z := (2 : Int32)) (by decide) (pc' := 245) rfl ?_
                        refine s_iload H at_245 rfl (pc' := 247) rfl ?_
                        refine s_iadd H at_247 (pc' := 248) rfl ?_
                        refine s_i2l H at_248 (pc' := 249) rfl ?_
                        refine s_ladd H at_249 (pc' := 250) rfl ?_
                        refine s_lstore H at_250 (L' := fun z => #[.val (.int i0), .val (.long i1), .second, .val (.long i2), .second, .val (.int cN.toInt32), .val (.int (3 : Int32)), .val (.int (0 : Int32)), .val (.int (1 : Int32)), .val (.long lim), .second, .val (.ref a1), .val (.long af), .second, .val (.int (1 : Int32)), .val (.long z), .second]) (fun _ => rfl) (pc' := 252) rfl (fun la h_la => ?_)
                        refine s_iload H at_252 rfl (pc' := 254) rfl ?_
                        refine s_if H at_254 (py := 272) (pc' := 257) z_eq (by decide) rfl (fun c254 => ?_) (fun c254 => ?_)
                        · exact absurd c254 (by decide)
                        · refine s_aload H at_257 rfl rfl (pc' := 259) rfl ?_
                          refine s_virtual H (met_kn H.tb a1 ea6 es6 ([i1, (i1 + (1 : Int64)), (i1 + (2 : Int64))] : List Int64) f6 4 (i1 + (3 : Int64)) Kes6) at_259 (i := 1) rfl (mem (i := 26) rfl) (mem (i := 27) rfl) (mem (i := 29) rfl) (mem (i := 28) rfl) (mem (i := 7) rfl) (mem (i := 30) rfl) (by decide) pd_5 rfl (rest := []) rfl rfl (by decide) (Nat.le_of_ble_eq_true rfl) (cn' := 6) (sn' := 46) rfl rfl (by decide) (by decide) (pc' := 262) rfl (fun _ _ hq => ?_)
                          obtain ⟨rfl, rfl⟩ := hq
                          show Go Z k 6 46 ((ea6, ArL Z es6) :: (a1, Obj Z "com/example/mangrove/mangrove/MemorySlidingWindowLog$KeyLog" [("com/example/mangrove/mangrove/MemorySlidingWindowLog$KeyLog", "entries", "[J", (.ref ea6)), ("com/example/mangrove/mangrove/MemorySlidingWindowLog$KeyLog", "size", "I", (.int (4 : Nat).toInt32)), ("com/example/mangrove/mangrove/MemorySlidingWindowLog$KeyLog", "first", "I", (.int f6.toInt32))]) :: F6) 262 #[.val (.int i0), .val (.long i1), .second, .val (.long i2), .second, .val (.int cN.toInt32), .val (.int (3 : Int32)), .val (.int (0 : Int32)), .val (.int (1 : Int32)), .val (.long lim), .second, .val (.ref a1), .val (.long af), .second, .val (.int (1 : Int32)), .val (.long la), .second] [(.long (i1 + (3 : Int64)))]
                          refine s_lload H at_262 rfl (pc' := 264) rfl ?_
                          refine s_lcmp H at_264 (pc' := 265) rfl ?_
                          refine s_if H at_265 (py := 272) (pc' := 268) l_ne (by decide) rfl (fun c265 => ?_) (fun c265 => ?_)
                          · exact absurd (by rw [h_la, show (((2 : Int32) + (1 : Int32)).toInt64) = 3 from by decide]) c265
                          · refine s_iconst H at_268 (z := (1 : Int32)) (by decide) (pc' := 269) rfl ?_
                            refine s_goto H at_269 (pc' := 273) (by decide) ?_
                            exact s_iret H at_273 rfl (by simp) (by decide) (by decide) (rfl)
                      · exact absurd c235 (by decide)
                    · exact absurd c218 (by decide)
                  · exact absurd c200 (by decide)
          · exact absurd c149 (by decide)
        · exact absurd c138 (by decide)
set_option maxRecDepth 65536 in
set_option maxHeartbeats 40000000 in
theorem s42_3_0_2 {Z : State} {k : Cx} {i0 : Int32} {i1 i2 : Int64} (cN : Nat) (H : Ok Z k room_1 (LQ) x code maxLocals ret) (h0 : 0 < cN) (hc : cN ≤ 3) : Go Z k 0 0 ([] : Hp) 42 #[.val (.int i0), .val (.long i1), .second, .val (.long i2), .second, .val (.int cN.toInt32), .val (.int (3 : Int32)), .val (.int (0 : Int32)), .val (.int (2 : Int32)), .unset, .unset, .unset, .unset, .unset, .unset, .unset, .unset] [] := by
  refine s_iload H at_42 rfl (pc' := 44) rfl ?_
  refine s_iload H at_44 rfl (pc' := 46) rfl ?_
  refine s_iadd H at_46 (pc' := 47) rfl ?_
  refine s_i2l H at_47 (pc' := 48) rfl ?_
  refine s_lloadn H at_48 rfl (pc' := 49) rfl ?_
  refine s_ldc2 H at_49 (mem (i := 4) rfl) (pc' := 52) rfl ?_
  refine s_land H at_52 (pc' := 53) rfl ?_
  refine s_ladd H at_53 (pc' := 54) rfl ?_
  refine s_lstore H at_54 (L' := fun z => #[.val (.int i0), .val (.long i1), .second, .val (.long i2), .second, .val (.int cN.toInt32), .val (.int (3 : Int32)), .val (.int (0 : Int32)), .val (.int (2 : Int32)), .val (.long z), .second, .unset, .unset, .unset, .unset, .unset, .unset]) (fun _ => rfl) (pc' := 56) rfl (fun lim h_lim => ?_)
  have hl : 5 ≤ lim.toInt := by
    have m := c_maskL i2 4611686018427387903 62 (by decide) (by decide)
    have s := c_ladd ((((3 : Int32) + (2 : Int32)).toInt64)) (i2 &&& 4611686018427387903)
    rw [← h_lim, show ((((3 : Int32) + (2 : Int32)).toInt64)).toInt = 5 from by decide] at s
    have rl := rng64 lim
    omega
  refine s_new H (C := "com/example/mangrove/mangrove/MemorySlidingWindowLog$KeyLog") [("com/example/mangrove/mangrove/MemorySlidingWindowLog$KeyLog", "entries", "[J", .null), ("com/example/mangrove/mangrove/MemorySlidingWindowLog$KeyLog", "size", "I", (.int (0 : Int32))), ("com/example/mangrove/mangrove/MemorySlidingWindowLog$KeyLog", "first", "I", (.int (0 : Int32)))] at_56 (mem (i := 5) rfl) (mem (i := 6) rfl) (mem (i := 7) rfl) (allC ⟨Or.inl (mem (i := 16) rfl), (.array .long), by decide, rfl⟩ (allC ⟨Or.inl (mem (i := 23) rfl), .int, by decide, rfl⟩ (allC ⟨Or.inl (mem (i := 25) rfl), .int, by decide, rfl⟩ allN))) (by decide) (cn' := 1) (sn' := 3) rfl rfl (by decide) (by decide) (pc' := 59) rfl (fun a1 => ?_)
  refine s_dup H at_59 rfl (pc' := 60) rfl ?_
  refine s_iload H at_60 rfl (pc' := 62) rfl ?_
  refine s_init H (met_ki H.tb a1 cN hc) at_62 rfl (mem (i := 8) rfl) (mem (i := 9) rfl) (mem (i := 7) rfl) (mem (i := 10) rfl) (by decide) pd_2 rfl (rest := [(.ref a1)]) rfl rfl (by decide) (Nat.le_of_ble_eq_true rfl) (cn' := 2) (sn' := 6) rfl rfl (by decide) (by decide) (pc' := 65) rfl (fun _ _ hq => ?_)
  obtain ⟨ea, rfl, rfl⟩ := hq
  show Go Z k 2 6 ((ea, ArL Z (List.replicate cN 0)) :: (a1, Obj Z "com/example/mangrove/mangrove/MemorySlidingWindowLog$KeyLog" [("com/example/mangrove/mangrove/MemorySlidingWindowLog$KeyLog", "entries", "[J", (.ref ea)), ("com/example/mangrove/mangrove/MemorySlidingWindowLog$KeyLog", "size", "I", (.int (0 : Nat).toInt32)), ("com/example/mangrove/mangrove/MemorySlidingWindowLog$KeyLog", "first", "I", (.int (0 : Nat).toInt32))]) :: []) 65 #[.val (.int i0), .val (.long i1), .second, .val (.long i2), .second, .val (.int cN.toInt32), .val (.int (3 : Int32)), .val (.int (0 : Int32)), .val (.int (2 : Int32)), .val (.long lim), .second, .unset, .unset, .unset, .unset, .unset, .unset] [(.ref a1)]
  obtain ⟨es2, he, les2, Kes2⟩ : ∃ es : List Int64, es = List.replicate cN 0 ∧ es.length = cN ∧ KL es 0 0 [] := ⟨_, rfl, by simp, KL.new (by omega) (by omega)⟩
  rw [← he]
  clear he
  show Go Z k 2 6 ((ea, ArL Z es2) :: (a1, Obj Z "com/example/mangrove/mangrove/MemorySlidingWindowLog$KeyLog" [("com/example/mangrove/mangrove/MemorySlidingWindowLog$KeyLog", "entries", "[J", (.ref ea)), ("com/example/mangrove/mangrove/MemorySlidingWindowLog$KeyLog", "size", "I", (.int (0 : Nat).toInt32)), ("com/example/mangrove/mangrove/MemorySlidingWindowLog$KeyLog", "first", "I", (.int (0 : Nat).toInt32))]) :: []) 65 #[.val (.int i0), .val (.long i1), .second, .val (.long i2), .second, .val (.int cN.toInt32), .val (.int (3 : Int32)), .val (.int (0 : Int32)), .val (.int (2 : Int32)), .val (.long lim), .second, .unset, .unset, .unset, .unset, .unset, .unset] [(.ref a1)]
  refine s_astore H at_65 (L' := #[.val (.int i0), .val (.long i1), .second, .val (.long i2), .second, .val (.int cN.toInt32), .val (.int (3 : Int32)), .val (.int (0 : Int32)), .val (.int (2 : Int32)), .val (.long lim), .second, .val (.ref a1), .unset, .unset, .unset, .unset, .unset]) rfl rfl (pc' := 67) rfl ?_
  refine s_aload H at_67 rfl rfl (pc' := 69) rfl ?_
  refine s_lloadn H at_69 rfl (pc' := 70) rfl ?_
  refine s_lload H at_70 rfl (pc' := 72) rfl ?_
  refine s_virtual H (met_ka H.tb a1 ea es2 ([] : List Int64) (0 : Nat) 0 i1 lim Kes2 (by decide) (by omega)) at_72 (i := 1) rfl (mem (i := 17) rfl) (mem (i := 18) rfl) (mem (i := 20) rfl) (mem (i := 19) rfl) (mem (i := 7) rfl) (mem (i := 21) rfl) (by decide) pd_4 rfl (rest := []) rfl rfl (by decide) (Nat.le_of_ble_eq_true rfl) (cn' := 3) (sn' := 16) rfl rfl (by decide) (by decide) (pc' := 75) rfl (fun _ _ hq => ?_)
  obtain ⟨ea3, es3, f3, F3, Kes3', rfl, rfl⟩ := hq
  show Go Z k 3 16 ((ea3, ArL Z es3) :: (a1, Obj Z "com/example/mangrove/mangrove/MemorySlidingWindowLog$KeyLog" [("com/example/mangrove/mangrove/MemorySlidingWindowLog$KeyLog", "entries", "[J", (.ref ea3)), ("com/example/mangrove/mangrove/MemorySlidingWindowLog$KeyLog", "size", "I", (.int (1 : Nat).toInt32)), ("com/example/mangrove/mangrove/MemorySlidingWindowLog$KeyLog", "first", "I", (.int f3.toInt32))]) :: F3) 75 #[.val (.int i0), .val (.long i1), .second, .val (.long i2), .second, .val (.int cN.toInt32), .val (.int (3 : Int32)), .val (.int (0 : Int32)), .val (.int (2 : Int32)), .val (.long lim), .second, .val (.ref a1), .unset, .unset, .unset, .unset, .unset] []
  have Kes3 : KL es3 f3 1 ([i1] : List Int64) := Kes3'
  refine s_iload H at_75 rfl (pc' := 77) rfl ?_
  refine s_iconst H at_77 (z := (1 : Int32)) (by decide) (pc' := 78) rfl ?_
  refine s_icmp H at_78 (py := 91) (pc' := 81) q_le (by decide) rfl (fun c78 => ?_) (fun c78 => ?_)
  · exact absurd c78 (by decide)
  · refine s_aload H at_81 rfl rfl (pc' := 83) rfl ?_
    refine s_lloadn H at_83 rfl (pc' := 84) rfl ?_
    refine s_lconst H at_84 (z := (1 : Int64)) (by decide) (pc' := 85) rfl ?_
    refine s_ladd H at_85 (pc' := 86) rfl ?_
    refine s_lload H at_86 rfl (pc' := 88) rfl ?_
    refine s_virtual H (met_ka H.tb a1 ea3 es3 ([i1] : List Int64) f3 1 (i1 + (1 : Int64)) lim Kes3 (by decide) (by omega)) at_88 (i := 1) rfl (mem (i := 17) rfl) (mem (i := 18) rfl) (mem (i := 20) rfl) (mem (i := 19) rfl) (mem (i := 7) rfl) (mem (i := 21) rfl) (by decide) pd_4 rfl (rest := []) rfl rfl (by decide) (Nat.le_of_ble_eq_true rfl) (cn' := 4) (sn' := 26) rfl rfl (by decide) (by decide) (pc' := 91) rfl (fun _ _ hq => ?_)
    obtain ⟨ea4, es4, f4, F4, Kes4', rfl, rfl⟩ := hq
    show Go Z k 4 26 ((ea4, ArL Z es4) :: (a1, Obj Z "com/example/mangrove/mangrove/MemorySlidingWindowLog$KeyLog" [("com/example/mangrove/mangrove/MemorySlidingWindowLog$KeyLog", "entries", "[J", (.ref ea4)), ("com/example/mangrove/mangrove/MemorySlidingWindowLog$KeyLog", "size", "I", (.int (2 : Nat).toInt32)), ("com/example/mangrove/mangrove/MemorySlidingWindowLog$KeyLog", "first", "I", (.int f4.toInt32))]) :: F4) 91 #[.val (.int i0), .val (.long i1), .second, .val (.long i2), .second, .val (.int cN.toInt32), .val (.int (3 : Int32)), .val (.int (0 : Int32)), .val (.int (2 : Int32)), .val (.long lim), .second, .val (.ref a1), .unset, .unset, .unset, .unset, .unset] []
    have Kes4 : KL es4 f4 2 ([i1, (i1 + (1 : Int64))] : List Int64) := Kes4'
    refine s_iload H at_91 rfl (pc' := 93) rfl ?_
    refine s_iconst H at_93 (z := (2 : Int32)) (by decide) (pc' := 94) rfl ?_
    refine s_icmp H at_94 (py := 109) (pc' := 97) q_le (by decide) rfl (fun c94 => ?_) (fun c94 => ?_)
    · exact absurd c94 (by decide)
    · refine s_aload H at_97 rfl rfl (pc' := 99) rfl ?_
      refine s_lloadn H at_99 rfl (pc' := 100) rfl ?_
      refine s_ldc2 H at_100 (mem (i := 49) rfl) (pc' := 103) rfl ?_
      refine s_ladd H at_103 (pc' := 104) rfl ?_
      refine s_lload H at_104 rfl (pc' := 106) rfl ?_
      refine s_virtual H (met_ka H.tb a1 ea4 es4 ([i1, (i1 + (1 : Int64))] : List Int64) f4 2 (i1 + (2 : Int64)) lim Kes4 (by decide) (by omega)) at_106 (i := 1) rfl (mem (i := 17) rfl) (mem (i := 18) rfl) (mem (i := 20) rfl) (mem (i := 19) rfl) (mem (i := 7) rfl) (mem (i := 21) rfl) (by decide) pd_4 rfl (rest := []) rfl rfl (by decide) (Nat.le_of_ble_eq_true rfl) (cn' := 5) (sn' := 36) rfl rfl (by decide) (by decide) (pc' := 109) rfl (fun _ _ hq => ?_)
      obtain ⟨ea5, es5, f5, F5, Kes5', rfl, rfl⟩ := hq
      show Go Z k 5 36 ((ea5, ArL Z es5) :: (a1, Obj Z "com/example/mangrove/mangrove/MemorySlidingWindowLog$KeyLog" [("com/example/mangrove/mangrove/MemorySlidingWindowLog$KeyLog", "entries", "[J", (.ref ea5)), ("com/example/mangrove/mangrove/MemorySlidingWindowLog$KeyLog", "size", "I", (.int (3 : Nat).toInt32)), ("com/example/mangrove/mangrove/MemorySlidingWindowLog$KeyLog", "first", "I", (.int f5.toInt32))]) :: F5) 109 #[.val (.int i0), .val (.long i1), .second, .val (.long i2), .second, .val (.int cN.toInt32), .val (.int (3 : Int32)), .val (.int (0 : Int32)), .val (.int (2 : Int32)), .val (.long lim), .second, .val (.ref a1), .unset, .unset, .unset, .unset, .unset] []
      have Kes5 : KL es5 f5 3 ([i1, (i1 + (1 : Int64)), (i1 + (2 : Int64))] : List Int64) := Kes5'
      refine s_lloadn H at_109 rfl (pc' := 110) rfl ?_
      refine s_iload H at_110 rfl (pc' := 112) rfl ?_
      refine s_iconst H at_112 (z := (1 : Int32)) (by decide) (pc' := 113) rfl ?_
      refine s_isub H at_113 (pc' := 114) rfl ?_
      refine s_i2l H at_114 (pc' := 115) rfl ?_
      refine s_ladd H at_115 (pc' := 116) rfl ?_
      refine s_lstore H at_116 (L' := fun z => #[.val (.int i0), .val (.long i1), .second, .val (.long i2), .second, .val (.int cN.toInt32), .val (.int (3 : Int32)), .val (.int (0 : Int32)), .val (.int (2 : Int32)), .val (.long lim), .second, .val (.ref a1), .val (.long z), .second, .unset, .unset, .unset]) (fun _ => rfl) (pc' := 118) rfl (fun af h_af => ?_)
      refine s_aload H at_118 rfl rfl (pc' := 120) rfl ?_
      refine s_virtual H (met_kn H.tb a1 ea5 es5 ([i1, (i1 + (1 : Int64))] : List Int64) f5 3 (i1 + (2 : Int64)) Kes5) at_120 (i := 1) rfl (mem (i := 26) rfl) (mem (i := 27) rfl) (mem (i := 29) rfl) (mem (i := 28) rfl) (mem (i := 7) rfl) (mem (i := 30) rfl) (by decide) pd_5 rfl (rest := []) rfl rfl (by decide) (Nat.le_of_ble_eq_true rfl) (cn' := 5) (sn' := 36) rfl rfl (by decide) (by decide) (pc' := 123) rfl (fun _ _ hq => ?_)
      obtain ⟨rfl, rfl⟩ := hq
      show Go Z k 5 36 ((ea5, ArL Z es5) :: (a1, Obj Z "com/example/mangrove/mangrove/MemorySlidingWindowLog$KeyLog" [("com/example/mangrove/mangrove/MemorySlidingWindowLog$KeyLog", "entries", "[J", (.ref ea5)), ("com/example/mangrove/mangrove/MemorySlidingWindowLog$KeyLog", "size", "I", (.int (3 : Nat).toInt32)), ("com/example/mangrove/mangrove/MemorySlidingWindowLog$KeyLog", "first", "I", (.int f5.toInt32))]) :: F5) 123 #[.val (.int i0), .val (.long i1), .second, .val (.long i2), .second, .val (.int cN.toInt32), .val (.int (3 : Int32)), .val (.int (0 : Int32)), .val (.int (2 : Int32)), .val (.long lim), .second, .val (.ref a1), .val (.long af), .second, .unset, .unset, .unset] [(.long (i1 + (2 : Int64)))]
      refine s_lload H at_123 rfl (pc' := 125) rfl ?_
      refine s_lcmp H at_125 (pc' := 126) rfl ?_
      refine s_if H at_126 (py := 133) (pc' := 129) l_ne (by decide) rfl (fun c126 => ?_) (fun c126 => ?_)
      · exact absurd (by rw [h_af, show (((3 : Int32) - (1 : Int32)).toInt64) = 2 from by decide]) c126
      · refine s_iconst H at_129 (z := (1 : Int32)) (by decide) (pc' := 130) rfl ?_
        refine s_goto H at_130 (pc' := 134) (by decide) ?_
        refine s_istore H at_134 (L' := fun z => #[.val (.int i0), .val (.long i1), .second, .val (.long i2), .second, .val (.int cN.toInt32), .val (.int (3 : Int32)), .val (.int (0 : Int32)), .val (.int (2 : Int32)), .val (.long lim), .second, .val (.ref a1), .val (.long af), .second, .val (.int z), .unset, .unset]) (fun _ => rfl) (pc' := 136) rfl (fun z0 hz => ?_)
        subst z0
        refine s_iload H at_136 rfl (pc' := 138) rfl ?_
        refine s_if H at_138 (py := 146) (pc' := 141) z_le (by decide) rfl (fun c138 => ?_) (fun c138 => ?_)
        · refine s_iload H at_146 rfl (pc' := 148) rfl ?_
          refine s_iconst H at_148 (z := (1 : Int32)) (by decide) (pc' := 149) rfl ?_
          refine s_icmp H at_149 (py := 157) (pc' := 152) q_le (by decide) rfl (fun c149 => ?_) (fun c149 => ?_)
          · refine s_iload H at_157 rfl (pc' := 159) rfl ?_
            refine s_if H at_159 (py := 177) (pc' := 162) z_eq (by decide) rfl (fun c159 => ?_) (fun c159 => ?_)
            · exact absurd c159 (by decide)
            · refine s_aload H at_162 rfl rfl (pc' := 164) rfl ?_
              refine s_virtual H (met_kn H.tb a1 ea5 es5 ([i1, (i1 + (1 : Int64))] : List Int64) f5 3 (i1 + (2 : Int64)) Kes5) at_164 (i := 1) rfl (mem (i := 26) rfl) (mem (i := 27) rfl) (mem (i := 29) rfl) (mem (i := 28) rfl) (mem (i := 7) rfl) (mem (i := 30) rfl) (by decide) pd_5 rfl (rest := []) rfl rfl (by decide) (Nat.le_of_ble_eq_true rfl) (cn' := 5) (sn' := 36) rfl rfl (by decide) (by decide) (pc' := 167) rfl (fun _ _ hq => ?_)
              obtain ⟨rfl, rfl⟩ := hq
              show Go Z k 5 36 ((ea5, ArL Z es5) :: (a1, Obj Z "com/example/mangrove/mangrove/MemorySlidingWindowLog$KeyLog" [("com/example/mangrove/mangrove/MemorySlidingWindowLog$KeyLog", "entries", "[J", (.ref ea5)), ("com/example/mangrove/mangrove/MemorySlidingWindowLog$KeyLog", "size", "I", (.int (3 : Nat).toInt32)), ("com/example/mangrove/mangrove/MemorySlidingWindowLog$KeyLog", "first", "I", (.int f5.toInt32))]) :: F5) 167 #[.val (.int i0), .val (.long i1), .second, .val (.long i2), .second, .val (.int cN.toInt32), .val (.int (3 : Int32)), .val (.int (0 : Int32)), .val (.int (2 : Int32)), .val (.long lim), .second, .val (.ref a1), .val (.long af), .second, .val (.int (1 : Int32)), .unset, .unset] [(.long (i1 + (2 : Int64)))]
              refine s_lload H at_167 rfl (pc' := 169) rfl ?_
              refine s_lcmp H at_169 (pc' := 170) rfl ?_
              refine s_if H at_170 (py := 177) (pc' := 173) l_ne (by decide) rfl (fun c170 => ?_) (fun c170 => ?_)
              · exact absurd (by rw [h_af, show (((3 : Int32) - (1 : Int32)).toInt64) = 2 from by decide]) c170
              · refine s_iconst H at_173 (z := (1 : Int32)) (by decide) (pc' := 174) rfl ?_
                refine s_goto H at_174 (pc' := 178) (by decide) ?_
                refine s_istore H at_178 (L' := fun z => #[.val (.int i0), .val (.long i1), .second, .val (.long i2), .second, .val (.int cN.toInt32), .val (.int (3 : Int32)), .val (.int (0 : Int32)), .val (.int (2 : Int32)), .val (.long lim), .second, .val (.ref a1), .val (.long af), .second, .val (.int z), .unset, .unset]) (fun _ => rfl) (pc' := 180) rfl (fun z0 hz => ?_)
                subst z0
                refine s_iload H at_180 rfl (pc' := 182) rfl ?_
                refine s_if H at_182 (py := 197) (pc' := 185) z_le (by decide) rfl (fun c182 => ?_) (fun c182 => ?_)
                · exact absurd c182 (by decide)
                · refine s_aload H at_185 rfl rfl (pc' := 187) rfl ?_
                  refine s_lloadn H at_187 rfl (pc' := 188) rfl ?_
                  refine s_ldc2 H at_188 (mem (i := 46) rfl) (pc' := 191) rfl ?_
                  refine s_ladd H at_191 (pc' := 192) rfl ?_
                  refine s_lload H at_192 rfl (pc' := 194) rfl ?_
                  refine s_virtual H (met_ka H.tb a1 ea5 es5 ([i1, (i1 + (1 : Int64)), (i1 + (2 : Int64))] : List Int64) f5 3 (i1 + (3 : Int64)) lim Kes5 (by decide) (by omega)) at_194 (i := 1) rfl (mem (i := 17) rfl) (mem (i := 18) rfl) (mem (i := 20) rfl) (mem (i := 19) rfl) (mem (i := 7) rfl) (mem (i := 21) rfl) (by decide) pd_4 rfl (rest := []) rfl rfl (by decide) (Nat.le_of_ble_eq_true rfl) (cn' := 6) (sn' := 46) rfl rfl (by decide) (by decide) (pc' := 197) rfl (fun _ _ hq => ?_)
                  obtain ⟨ea6, es6, f6, F6, Kes6', rfl, rfl⟩ := hq
                  show Go Z k 6 46 ((ea6, ArL Z es6) :: (a1, Obj Z "com/example/mangrove/mangrove/MemorySlidingWindowLog$KeyLog" [("com/example/mangrove/mangrove/MemorySlidingWindowLog$KeyLog", "entries", "[J", (.ref ea6)), ("com/example/mangrove/mangrove/MemorySlidingWindowLog$KeyLog", "size", "I", (.int (4 : Nat).toInt32)), ("com/example/mangrove/mangrove/MemorySlidingWindowLog$KeyLog", "first", "I", (.int f6.toInt32))]) :: F6) 197 #[.val (.int i0), .val (.long i1), .second, .val (.long i2), .second, .val (.int cN.toInt32), .val (.int (3 : Int32)), .val (.int (0 : Int32)), .val (.int (2 : Int32)), .val (.long lim), .second, .val (.ref a1), .val (.long af), .second, .val (.int (1 : Int32)), .unset, .unset] []
                  have Kes6 : KL es6 f6 4 ([i1, (i1 + (1 : Int64)), (i1 + (2 : Int64)), (i1 + (3 : Int64))] : List Int64) := Kes6'
                  refine s_iload H at_197 rfl (pc' := 199) rfl ?_
                  refine s_iconst H at_199 (z := (1 : Int32)) (by decide) (pc' := 200) rfl ?_
                  refine s_icmp H at_200 (py := 215) (pc' := 203) q_le (by decide) rfl (fun c200 => ?_) (fun c200 => ?_)
                  · exact absurd c200 (by decide)
                  · refine s_aload H at_203 rfl rfl (pc' := 205) rfl ?_
                    refine s_lloadn H at_205 rfl (pc' := 206) rfl ?_
                    refine s_ldc2 H at_206 (mem (i := 47) rfl) (pc' := 209) rfl ?_
                    refine s_ladd H at_209 (pc' := 210) rfl ?_
                    refine s_lload H at_210 rfl (pc' := 212) rfl ?_
                    refine s_virtual H (met_ka H.tb a1 ea6 es6 ([i1, (i1 + (1 : Int64)), (i1 + (2 : Int64)), (i1 + (3 : Int64))] : List Int64) f6 4 (i1 + (4 : Int64)) lim Kes6 (by decide) (by omega)) at_212 (i := 1) rfl (mem (i := 17) rfl) (mem (i := 18) rfl) (mem (i := 20) rfl) (mem (i := 19) rfl) (mem (i := 7) rfl) (mem (i := 21) rfl) (by decide) pd_4 rfl (rest := []) rfl rfl (by decide) (Nat.le_of_ble_eq_true rfl) (cn' := 7) (sn' := 56) rfl rfl (by decide) (by decide) (pc' := 215) rfl (fun _ _ hq => ?_)
                    obtain ⟨ea7, es7, f7, F7, Kes7', rfl, rfl⟩ := hq
                    show Go Z k 7 56 ((ea7, ArL Z es7) :: (a1, Obj Z "com/example/mangrove/mangrove/MemorySlidingWindowLog$KeyLog" [("com/example/mangrove/mangrove/MemorySlidingWindowLog$KeyLog", "entries", "[J", (.ref ea7)), ("com/example/mangrove/mangrove/MemorySlidingWindowLog$KeyLog", "size", "I", (.int (5 : Nat).toInt32)), ("com/example/mangrove/mangrove/MemorySlidingWindowLog$KeyLog", "first", "I", (.int f7.toInt32))]) :: F7) 215 #[.val (.int i0), .val (.long i1), .second, .val (.long i2), .second, .val (.int cN.toInt32), .val (.int (3 : Int32)), .val (.int (0 : Int32)), .val (.int (2 : Int32)), .val (.long lim), .second, .val (.ref a1), .val (.long af), .second, .val (.int (1 : Int32)), .unset, .unset] []
                    have Kes7 : KL es7 f7 5 ([i1, (i1 + (1 : Int64)), (i1 + (2 : Int64)), (i1 + (3 : Int64)), (i1 + (4 : Int64))] : List Int64) := Kes7'
                    refine s_iload H at_215 rfl (pc' := 217) rfl ?_
                    refine s_iconst H at_217 (z := (2 : Int32)) (by decide) (pc' := 218) rfl ?_
                    refine s_icmp H at_218 (py := 233) (pc' := 221) q_le (by decide) rfl (fun c218 => ?_) (fun c218 => ?_)
                    · refine s_iload H at_233 rfl (pc' := 235) rfl ?_
                      refine s_if H at_235 (py := 243) (pc' := 238) z_ne (by decide) rfl (fun c235 => ?_) (fun c235 => ?_)
                      · refine s_lloadn H at_243 rfl (pc' := 244) rfl ?_
                        refine s_iconst H at_244 (z := (2 : Int32)) (by decide) (pc' := 245) rfl ?_
                        refine s_iload H at_245 rfl (pc' := 247) rfl ?_
                        refine s_iadd H at_247 (pc' := 248) rfl ?_
                        refine s_i2l H at_248 (pc' := 249) rfl ?_
                        refine s_ladd H at_249 (pc' := 250) rfl ?_
                        refine s_lstore H at_250 (L' := fun z => #[.val (.int i0), .val (.long i1), .second, .val (.long i2), .second, .val (.int cN.toInt32), .val (.int (3 : Int32)), .val (.int (0 : Int32)), .val (.int (2 : Int32)), .val (.long lim), .second, .val (.ref a1), .val (.long af), .second, .val (.int (1 : Int32)), .val (.long z), .second]) (fun _ => rfl) (pc' := 252) rfl (fun la h_la => ?_)
                        refine s_iload H at_252 rfl (pc' := 254) rfl ?_
                        refine s_if H at_254 (py := 272) (pc' := 257) z_eq (by decide) rfl (fun c254 => ?_) (fun c254 => ?_)
                        · exact absurd c254 (by decide)
                        · refine s_aload H at_257 rfl rfl (pc' := 259) rfl ?_
                          refine s_virtual H (met_kn H.tb a1 ea7 es7 ([i1, (i1 + (1 : Int64)), (i1 + (2 : Int64)), (i1 + (3 : Int64))] : List Int64) f7 5 (i1 + (4 : Int64)) Kes7) at_259 (i := 1) rfl (mem (i := 26) rfl) (mem (i := 27) rfl) (mem (i := 29) rfl) (mem (i := 28) rfl) (mem (i := 7) rfl) (mem (i := 30) rfl) (by decide) pd_5 rfl (rest := []) rfl rfl (by decide) (Nat.le_of_ble_eq_true rfl) (cn' := 7) (sn' := 56) rfl rfl (by decide) (by decide) (pc' := 262) rfl (fun _ _ hq => ?_)
                          obtain ⟨rfl, rfl⟩ := hq
                          show Go Z k 7 56 ((ea7, ArL Z es7) :: (a1, Obj Z "com/example/mangrove/mangrove/MemorySlidingWindowLog$KeyLog" [("com/example/mangrove/mangrove/MemorySlidingWindowLog$KeyLog", "entries", "[J", (.ref ea7)), ("com/example/mangrove/mangrove/MemorySlidingWindowLog$KeyLog", "size", "I", (.int (5 : Nat).toInt32)), ("com/example/mangrove/mangrove/MemorySlidingWindowLog$KeyLog", "first", "I", (.int f7.toInt32))]) :: F7) 262 #[.val (.int i0), .val (.long i1), .second, .val (.long i2), .second, .val (.int cN.toInt32), .val (.int (3 : Int32)), .val (.int (0 : Int32)), .val (.int (2 : Int32)), .val (.long lim), .second, .val (.ref a1), .val (.long af), .second, .val (.int (1 : Int32)), .val (.long la), .second] [(.long (i1 + (4 : Int64)))]
                          refine s_lload H at_262 rfl (pc' := 264) rfl ?_
                          refine s_lcmp H at_264 (pc' := 265) rfl ?_
                          refine s_if H at_265 (py := 272) (pc' := 268) l_ne (by decide) rfl (fun c265 => ?_) (fun c265 => ?_)
                          · exact absurd (by rw [h_la, show (((2 : Int32) + (2 : Int32)).toInt64) = 4 from by decide]) c265
                          · refine s_iconst H at_268 (z := (1 : Int32)) (by decide) (pc' := 269) rfl ?_
                            refine s_goto H at_269 (pc' := 273) (by decide) ?_
                            exact s_iret H at_273 rfl (by simp) (by decide) (by decide) (rfl)
                      · exact absurd c235 (by decide)
                    · exact absurd c218 (by decide)
          · exact absurd c149 (by decide)
        · exact absurd c138 (by decide)
set_option maxRecDepth 65536 in
set_option maxHeartbeats 40000000 in
theorem s42_3_0_3 {Z : State} {k : Cx} {i0 : Int32} {i1 i2 : Int64} (cN : Nat) (H : Ok Z k room_1 (LQ) x code maxLocals ret) (h0 : 0 < cN) (hc : cN ≤ 3) : Go Z k 0 0 ([] : Hp) 42 #[.val (.int i0), .val (.long i1), .second, .val (.long i2), .second, .val (.int cN.toInt32), .val (.int (3 : Int32)), .val (.int (0 : Int32)), .val (.int (3 : Int32)), .unset, .unset, .unset, .unset, .unset, .unset, .unset, .unset] [] := by
  refine s_iload H at_42 rfl (pc' := 44) rfl ?_
  refine s_iload H at_44 rfl (pc' := 46) rfl ?_
  refine s_iadd H at_46 (pc' := 47) rfl ?_
  refine s_i2l H at_47 (pc' := 48) rfl ?_
  refine s_lloadn H at_48 rfl (pc' := 49) rfl ?_
  refine s_ldc2 H at_49 (mem (i := 4) rfl) (pc' := 52) rfl ?_
  refine s_land H at_52 (pc' := 53) rfl ?_
  refine s_ladd H at_53 (pc' := 54) rfl ?_
  refine s_lstore H at_54 (L' := fun z => #[.val (.int i0), .val (.long i1), .second, .val (.long i2), .second, .val (.int cN.toInt32), .val (.int (3 : Int32)), .val (.int (0 : Int32)), .val (.int (3 : Int32)), .val (.long z), .second, .unset, .unset, .unset, .unset, .unset, .unset]) (fun _ => rfl) (pc' := 56) rfl (fun lim h_lim => ?_)
  have hl : 6 ≤ lim.toInt := by
    have m := c_maskL i2 4611686018427387903 62 (by decide) (by decide)
    have s := c_ladd ((((3 : Int32) + (3 : Int32)).toInt64)) (i2 &&& 4611686018427387903)
    rw [← h_lim, show ((((3 : Int32) + (3 : Int32)).toInt64)).toInt = 6 from by decide] at s
    have rl := rng64 lim
    omega
  refine s_new H (C := "com/example/mangrove/mangrove/MemorySlidingWindowLog$KeyLog") [("com/example/mangrove/mangrove/MemorySlidingWindowLog$KeyLog", "entries", "[J", .null), ("com/example/mangrove/mangrove/MemorySlidingWindowLog$KeyLog", "size", "I", (.int (0 : Int32))), ("com/example/mangrove/mangrove/MemorySlidingWindowLog$KeyLog", "first", "I", (.int (0 : Int32)))] at_56 (mem (i := 5) rfl) (mem (i := 6) rfl) (mem (i := 7) rfl) (allC ⟨Or.inl (mem (i := 16) rfl), (.array .long), by decide, rfl⟩ (allC ⟨Or.inl (mem (i := 23) rfl), .int, by decide, rfl⟩ (allC ⟨Or.inl (mem (i := 25) rfl), .int, by decide, rfl⟩ allN))) (by decide) (cn' := 1) (sn' := 3) rfl rfl (by decide) (by decide) (pc' := 59) rfl (fun a1 => ?_)
  refine s_dup H at_59 rfl (pc' := 60) rfl ?_
  refine s_iload H at_60 rfl (pc' := 62) rfl ?_
  refine s_init H (met_ki H.tb a1 cN hc) at_62 rfl (mem (i := 8) rfl) (mem (i := 9) rfl) (mem (i := 7) rfl) (mem (i := 10) rfl) (by decide) pd_2 rfl (rest := [(.ref a1)]) rfl rfl (by decide) (Nat.le_of_ble_eq_true rfl) (cn' := 2) (sn' := 6) rfl rfl (by decide) (by decide) (pc' := 65) rfl (fun _ _ hq => ?_)
  obtain ⟨ea, rfl, rfl⟩ := hq
  show Go Z k 2 6 ((ea, ArL Z (List.replicate cN 0)) :: (a1, Obj Z "com/example/mangrove/mangrove/MemorySlidingWindowLog$KeyLog" [("com/example/mangrove/mangrove/MemorySlidingWindowLog$KeyLog", "entries", "[J", (.ref ea)), ("com/example/mangrove/mangrove/MemorySlidingWindowLog$KeyLog", "size", "I", (.int (0 : Nat).toInt32)), ("com/example/mangrove/mangrove/MemorySlidingWindowLog$KeyLog", "first", "I", (.int (0 : Nat).toInt32))]) :: []) 65 #[.val (.int i0), .val (.long i1), .second, .val (.long i2), .second, .val (.int cN.toInt32), .val (.int (3 : Int32)), .val (.int (0 : Int32)), .val (.int (3 : Int32)), .val (.long lim), .second, .unset, .unset, .unset, .unset, .unset, .unset] [(.ref a1)]
  obtain ⟨es2, he, les2, Kes2⟩ : ∃ es : List Int64, es = List.replicate cN 0 ∧ es.length = cN ∧ KL es 0 0 [] := ⟨_, rfl, by simp, KL.new (by omega) (by omega)⟩
  rw [← he]
  clear he
  show Go Z k 2 6 ((ea, ArL Z es2) :: (a1, Obj Z "com/example/mangrove/mangrove/MemorySlidingWindowLog$KeyLog" [("com/example/mangrove/mangrove/MemorySlidingWindowLog$KeyLog", "entries", "[J", (.ref ea)), ("com/example/mangrove/mangrove/MemorySlidingWindowLog$KeyLog", "size", "I", (.int (0 : Nat).toInt32)), ("com/example/mangrove/mangrove/MemorySlidingWindowLog$KeyLog", "first", "I", (.int (0 : Nat).toInt32))]) :: []) 65 #[.val (.int i0), .val (.long i1), .second, .val (.long i2), .second, .val (.int cN.toInt32), .val (.int (3 : Int32)), .val (.int (0 : Int32)), .val (.int (3 : Int32)), .val (.long lim), .second, .unset, .unset, .unset, .unset, .unset, .unset] [(.ref a1)]
  refine s_astore H at_65 (L' := #[.val (.int i0), .val (.long i1), .second, .val (.long i2), .second, .val (.int cN.toInt32), .val (.int (3 : Int32)), .val (.int (0 : Int32)), .val (.int (3 : Int32)), .val (.long lim), .second, .val (.ref a1), .unset, .unset, .unset, .unset, .unset]) rfl rfl (pc' := 67) rfl ?_
  refine s_aload H at_67 rfl rfl (pc' := 69) rfl ?_
  refine s_lloadn H at_69 rfl (pc' := 70) rfl ?_
  refine s_lload H at_70 rfl (pc' := 72) rfl ?_
  refine s_virtual H (met_ka H.tb a1 ea es2 ([] : List Int64) (0 : Nat) 0 i1 lim Kes2 (by decide) (by omega)) at_72 (i := 1) rfl (mem (i := 17) rfl) (mem (i := 18) rfl) (mem (i := 20) rfl) (mem (i := 19) rfl) (mem (i := 7) rfl) (mem (i := 21) rfl) (by decide) pd_4 rfl (rest := []) rfl rfl (by decide) (Nat.le_of_ble_eq_true rfl) (cn' := 3) (sn' := 16) rfl rfl (by decide) (by decide) (pc' := 75) rfl (fun _ _ hq => ?_)
  obtain ⟨ea3, es3, f3, F3, Kes3', rfl, rfl⟩ := hq
  show Go Z k 3 16 ((ea3, ArL Z es3) :: (a1, Obj Z "com/example/mangrove/mangrove/MemorySlidingWindowLog$KeyLog" [("com/example/mangrove/mangrove/MemorySlidingWindowLog$KeyLog", "entries", "[J", (.ref ea3)), ("com/example/mangrove/mangrove/MemorySlidingWindowLog$KeyLog", "size", "I", (.int (1 : Nat).toInt32)), ("com/example/mangrove/mangrove/MemorySlidingWindowLog$KeyLog", "first", "I", (.int f3.toInt32))]) :: F3) 75 #[.val (.int i0), .val (.long i1), .second, .val (.long i2), .second, .val (.int cN.toInt32), .val (.int (3 : Int32)), .val (.int (0 : Int32)), .val (.int (3 : Int32)), .val (.long lim), .second, .val (.ref a1), .unset, .unset, .unset, .unset, .unset] []
  have Kes3 : KL es3 f3 1 ([i1] : List Int64) := Kes3'
  refine s_iload H at_75 rfl (pc' := 77) rfl ?_
  refine s_iconst H at_77 (z := (1 : Int32)) (by decide) (pc' := 78) rfl ?_
  refine s_icmp H at_78 (py := 91) (pc' := 81) q_le (by decide) rfl (fun c78 => ?_) (fun c78 => ?_)
  · exact absurd c78 (by decide)
  · refine s_aload H at_81 rfl rfl (pc' := 83) rfl ?_
    refine s_lloadn H at_83 rfl (pc' := 84) rfl ?_
    refine s_lconst H at_84 (z := (1 : Int64)) (by decide) (pc' := 85) rfl ?_
    refine s_ladd H at_85 (pc' := 86) rfl ?_
    refine s_lload H at_86 rfl (pc' := 88) rfl ?_
    refine s_virtual H (met_ka H.tb a1 ea3 es3 ([i1] : List Int64) f3 1 (i1 + (1 : Int64)) lim Kes3 (by decide) (by omega)) at_88 (i := 1) rfl (mem (i := 17) rfl) (mem (i := 18) rfl) (mem (i := 20) rfl) (mem (i := 19) rfl) (mem (i := 7) rfl) (mem (i := 21) rfl) (by decide) pd_4 rfl (rest := []) rfl rfl (by decide) (Nat.le_of_ble_eq_true rfl) (cn' := 4) (sn' := 26) rfl rfl (by decide) (by decide) (pc' := 91) rfl (fun _ _ hq => ?_)
    obtain ⟨ea4, es4, f4, F4, Kes4', rfl, rfl⟩ := hq
    show Go Z k 4 26 ((ea4, ArL Z es4) :: (a1, Obj Z "com/example/mangrove/mangrove/MemorySlidingWindowLog$KeyLog" [("com/example/mangrove/mangrove/MemorySlidingWindowLog$KeyLog", "entries", "[J", (.ref ea4)), ("com/example/mangrove/mangrove/MemorySlidingWindowLog$KeyLog", "size", "I", (.int (2 : Nat).toInt32)), ("com/example/mangrove/mangrove/MemorySlidingWindowLog$KeyLog", "first", "I", (.int f4.toInt32))]) :: F4) 91 #[.val (.int i0), .val (.long i1), .second, .val (.long i2), .second, .val (.int cN.toInt32), .val (.int (3 : Int32)), .val (.int (0 : Int32)), .val (.int (3 : Int32)), .val (.long lim), .second, .val (.ref a1), .unset, .unset, .unset, .unset, .unset] []
    have Kes4 : KL es4 f4 2 ([i1, (i1 + (1 : Int64))] : List Int64) := Kes4'
    refine s_iload H at_91 rfl (pc' := 93) rfl ?_
    refine s_iconst H at_93 (z := (2 : Int32)) (by decide) (pc' := 94) rfl ?_
    refine s_icmp H at_94 (py := 109) (pc' := 97) q_le (by decide) rfl (fun c94 => ?_) (fun c94 => ?_)
    · exact absurd c94 (by decide)
    · refine s_aload H at_97 rfl rfl (pc' := 99) rfl ?_
      refine s_lloadn H at_99 rfl (pc' := 100) rfl ?_
      refine s_ldc2 H at_100 (mem (i := 49) rfl) (pc' := 103) rfl ?_
      refine s_ladd H at_103 (pc' := 104) rfl ?_
      refine s_lload H at_104 rfl (pc' := 106) rfl ?_
      refine s_virtual H (met_ka H.tb a1 ea4 es4 ([i1, (i1 + (1 : Int64))] : List Int64) f4 2 (i1 + (2 : Int64)) lim Kes4 (by decide) (by omega)) at_106 (i := 1) rfl (mem (i := 17) rfl) (mem (i := 18) rfl) (mem (i := 20) rfl) (mem (i := 19) rfl) (mem (i := 7) rfl) (mem (i := 21) rfl) (by decide) pd_4 rfl (rest := []) rfl rfl (by decide) (Nat.le_of_ble_eq_true rfl) (cn' := 5) (sn' := 36) rfl rfl (by decide) (by decide) (pc' := 109) rfl (fun _ _ hq => ?_)
      obtain ⟨ea5, es5, f5, F5, Kes5', rfl, rfl⟩ := hq
      show Go Z k 5 36 ((ea5, ArL Z es5) :: (a1, Obj Z "com/example/mangrove/mangrove/MemorySlidingWindowLog$KeyLog" [("com/example/mangrove/mangrove/MemorySlidingWindowLog$KeyLog", "entries", "[J", (.ref ea5)), ("com/example/mangrove/mangrove/MemorySlidingWindowLog$KeyLog", "size", "I", (.int (3 : Nat).toInt32)), ("com/example/mangrove/mangrove/MemorySlidingWindowLog$KeyLog", "first", "I", (.int f5.toInt32))]) :: F5) 109 #[.val (.int i0), .val (.long i1), .second, .val (.long i2), .second, .val (.int cN.toInt32), .val (.int (3 : Int32)), .val (.int (0 : Int32)), .val (.int (3 : Int32)), .val (.long lim), .second, .val (.ref a1), .unset, .unset, .unset, .unset, .unset] []
      have Kes5 : KL es5 f5 3 ([i1, (i1 + (1 : Int64)), (i1 + (2 : Int64))] : List Int64) := Kes5'
      refine s_lloadn H at_109 rfl (pc' := 110) rfl ?_
      refine s_iload H at_110 rfl (pc' := 112) rfl ?_
      refine s_iconst H at_112 (z := (1 : Int32)) (by decide) (pc' := 113) rfl ?_
      refine s_isub H at_113 (pc' := 114) rfl ?_
      refine s_i2l H at_114 (pc' := 115) rfl ?_
      refine s_ladd H at_115 (pc' := 116) rfl ?_
      refine s_lstore H at_116 (L' := fun z => #[.val (.int i0), .val (.long i1), .second, .val (.long i2), .second, .val (.int cN.toInt32), .val (.int (3 : Int32)), .val (.int (0 : Int32)), .val (.int (3 : Int32)), .val (.long lim), .second, .val (.ref a1), .val (.long z), .second, .unset, .unset, .unset]) (fun _ => rfl) (pc' := 118) rfl (fun af h_af => ?_)
      refine s_aload H at_118 rfl rfl (pc' := 120) rfl ?_
      refine s_virtual H (met_kn H.tb a1 ea5 es5 ([i1, (i1 + (1 : Int64))] : List Int64) f5 3 (i1 + (2 : Int64)) Kes5) at_120 (i := 1) rfl (mem (i := 26) rfl) (mem (i := 27) rfl) (mem (i := 29) rfl) (mem (i := 28) rfl) (mem (i := 7) rfl) (mem (i := 30) rfl) (by decide) pd_5 rfl (rest := []) rfl rfl (by decide) (Nat.le_of_ble_eq_true rfl) (cn' := 5) (sn' := 36) rfl rfl (by decide) (by decide) (pc' := 123) rfl (fun _ _ hq => ?_)
      obtain ⟨rfl, rfl⟩ := hq
      show Go Z k 5 36 ((ea5, ArL Z es5) :: (a1, Obj Z "com/example/mangrove/mangrove/MemorySlidingWindowLog$KeyLog" [("com/example/mangrove/mangrove/MemorySlidingWindowLog$KeyLog", "entries", "[J", (.ref ea5)), ("com/example/mangrove/mangrove/MemorySlidingWindowLog$KeyLog", "size", "I", (.int (3 : Nat).toInt32)), ("com/example/mangrove/mangrove/MemorySlidingWindowLog$KeyLog", "first", "I", (.int f5.toInt32))]) :: F5) 123 #[.val (.int i0), .val (.long i1), .second, .val (.long i2), .second, .val (.int cN.toInt32), .val (.int (3 : Int32)), .val (.int (0 : Int32)), .val (.int (3 : Int32)), .val (.long lim), .second, .val (.ref a1), .val (.long af), .second, .unset, .unset, .unset] [(.long (i1 + (2 : Int64)))]
      refine s_lload H at_123 rfl (pc' := 125) rfl ?_
      refine s_lcmp H at_125 (pc' := 126) rfl ?_
      refine s_if H at_126 (py := 133) (pc' := 129) l_ne (by decide) rfl (fun c126 => ?_) (fun c126 => ?_)
      · exact absurd (by rw [h_af, show (((3 : Int32) - (1 : Int32)).toInt64) = 2 from by decide]) c126
      · refine s_iconst H at_129 (z := (1 : Int32)) (by decide) (pc' := 130) rfl ?_
        refine s_goto H at_130 (pc' := 134) (by decide) ?_
        refine s_istore H at_134 (L' := fun z => #[.val (.int i0), .val (.long i1), .second, .val (.long i2), .second, .val (.int cN.toInt32), .val (.int (3 : Int32)), .val (.int (0 : Int32)), .val (.int (3 : Int32)), .val (.long lim), .second, .val (.ref a1), .val (.long af), .second, .val (.int z), .unset, .unset]) (fun _ => rfl) (pc' := 136) rfl (fun z0 hz => ?_)
        subst z0
        refine s_iload H at_136 rfl (pc' := 138) rfl ?_
        refine s_if H at_138 (py := 146) (pc' := 141) z_le (by decide) rfl (fun c138 => ?_) (fun c138 => ?_)
        · refine s_iload H at_146 rfl (pc' := 148) rfl ?_
          refine s_iconst H at_148 (z := (1 : Int32)) (by decide) (pc' := 149) rfl ?_
          refine s_icmp H at_149 (py := 157) (pc' := 152) q_le (by decide) rfl (fun c149 => ?_) (fun c149 => ?_)
          · refine s_iload H at_157 rfl (pc' := 159) rfl ?_
            refine s_if H at_159 (py := 177) (pc' := 162) z_eq (by decide) rfl (fun c159 => ?_) (fun c159 => ?_)
            · exact absurd c159 (by decide)
            · refine s_aload H at_162 rfl rfl (pc' := 164) rfl ?_
              refine s_virtual H (met_kn H.tb a1 ea5 es5 ([i1, (i1 + (1 : Int64))] : List Int64) f5 3 (i1 + (2 : Int64)) Kes5) at_164 (i := 1) rfl (mem (i := 26) rfl) (mem (i := 27) rfl) (mem (i := 29) rfl) (mem (i := 28) rfl) (mem (i := 7) rfl) (mem (i := 30) rfl) (by decide) pd_5 rfl (rest := []) rfl rfl (by decide) (Nat.le_of_ble_eq_true rfl) (cn' := 5) (sn' := 36) rfl rfl (by decide) (by decide) (pc' := 167) rfl (fun _ _ hq => ?_)
              obtain ⟨rfl, rfl⟩ := hq
              show Go Z k 5 36 ((ea5, ArL Z es5) :: (a1, Obj Z "com/example/mangrove/mangrove/MemorySlidingWindowLog$KeyLog" [("com/example/mangrove/mangrove/MemorySlidingWindowLog$KeyLog", "entries", "[J", (.ref ea5)), ("com/example/mangrove/mangrove/MemorySlidingWindowLog$KeyLog", "size", "I", (.int (3 : Nat).toInt32)), ("com/example/mangrove/mangrove/MemorySlidingWindowLog$KeyLog", "first", "I", (.int f5.toInt32))]) :: F5) 167 #[.val (.int i0), .val (.long i1), .second, .val (.long i2), .second, .val (.int cN.toInt32), .val (.int (3 : Int32)), .val (.int (0 : Int32)), .val (.int (3 : Int32)), .val (.long lim), .second, .val (.ref a1), .val (.long af), .second, .val (.int (1 : Int32)), .unset, .unset] [(.long (i1 + (2 : Int64)))]
              refine s_lload H at_167 rfl (pc' := 169) rfl ?_
              refine s_lcmp H at_169 (pc' := 170) rfl ?_
              refine s_if H at_170 (py := 177) (pc' := 173) l_ne (by decide) rfl (fun c170 => ?_) (fun c170 => ?_)
              · exact absurd (by rw [h_af, show (((3 : Int32) - (1 : Int32)).toInt64) = 2 from by decide]) c170
              · refine s_iconst H at_173 (z := (1 : Int32)) (by decide) (pc' := 174) rfl ?_
                refine s_goto H at_174 (pc' := 178) (by decide) ?_
                refine s_istore H at_178 (L' := fun z => #[.val (.int i0), .val (.long i1), .second, .val (.long i2), .second, .val (.int cN.toInt32), .val (.int (3 : Int32)), .val (.int (0 : Int32)), .val (.int (3 : Int32)), .val (.long lim), .second, .val (.ref a1), .val (.long af), .second, .val (.int z), .unset, .unset]) (fun _ => rfl) (pc' := 180) rfl (fun z0 hz => ?_)
                subst z0
                refine s_iload H at_180 rfl (pc' := 182) rfl ?_
                refine s_if H at_182 (py := 197) (pc' := 185) z_le (by decide) rfl (fun c182 => ?_) (fun c182 => ?_)
                · exact absurd c182 (by decide)
                · refine s_aload H at_185 rfl rfl (pc' := 187) rfl ?_
                  refine s_lloadn H at_187 rfl (pc' := 188) rfl ?_
                  refine s_ldc2 H at_188 (mem (i := 46) rfl) (pc' := 191) rfl ?_
                  refine s_ladd H at_191 (pc' := 192) rfl ?_
                  refine s_lload H at_192 rfl (pc' := 194) rfl ?_
                  refine s_virtual H (met_ka H.tb a1 ea5 es5 ([i1, (i1 + (1 : Int64)), (i1 + (2 : Int64))] : List Int64) f5 3 (i1 + (3 : Int64)) lim Kes5 (by decide) (by omega)) at_194 (i := 1) rfl (mem (i := 17) rfl) (mem (i := 18) rfl) (mem (i := 20) rfl) (mem (i := 19) rfl) (mem (i := 7) rfl) (mem (i := 21) rfl) (by decide) pd_4 rfl (rest := []) rfl rfl (by decide) (Nat.le_of_ble_eq_true rfl) (cn' := 6) (sn' := 46) rfl rfl (by decide) (by decide) (pc' := 197) rfl (fun _ _ hq => ?_)
                  obtain ⟨ea6, es6, f6, F6, Kes6', rfl, rfl⟩ := hq
                  show Go Z k 6 46 ((ea6, ArL Z es6) :: (a1, Obj Z "com/example/mangrove/mangrove/MemorySlidingWindowLog$KeyLog" [("com/example/mangrove/mangrove/MemorySlidingWindowLog$KeyLog", "entries", "[J", (.ref ea6)), ("com/example/mangrove/mangrove/MemorySlidingWindowLog$KeyLog", "size", "I", (.int (4 : Nat).toInt32)), ("com/example/mangrove/mangrove/MemorySlidingWindowLog$KeyLog", "first", "I", (.int f6.toInt32))]) :: F6) 197 #[.val (.int i0), .val (.long i1), .second, .val (.long i2), .second, .val (.int cN.toInt32), .val (.int (3 : Int32)), .val (.int (0 : Int32)), .val (.int (3 : Int32)), .val (.long lim), .second, .val (.ref a1), .val (.long af), .second, .val (.int (1 : Int32)), .unset, .unset] []
                  have Kes6 : KL es6 f6 4 ([i1, (i1 + (1 : Int64)), (i1 + (2 : Int64)), (i1 + (3 : Int64))] : List Int64) := Kes6'
                  refine s_iload H at_197 rfl (pc' := 199) rfl ?_
                  refine s_iconst H at_199 (z := (1 : Int32)) (by decide) (pc' := 200) rfl ?_
                  refine s_icmp H at_200 (py := 215) (pc' := 203) q_le (by decide) rfl (fun c200 => ?_) (fun c200 => ?_)
                  · exact absurd c200 (by decide)
                  · refine s_aload H at_203 rfl rfl (pc' := 205) rfl ?_
                    refine s_lloadn H at_205 rfl (pc' := 206) rfl ?_
                    refine s_ldc2 H at_206 (mem (i := 47) rfl) (pc' := 209) rfl ?_
                    refine s_ladd H at_209 (pc' := 210) rfl ?_
                    refine s_lload H at_210 rfl (pc' := 212) rfl ?_
                    refine s_virtual H (met_ka H.tb a1 ea6 es6 ([i1, (i1 + (1 : Int64)), (i1 + (2 : Int64)), (i1 + (3 : Int64))] : List Int64) f6 4 (i1 + (4 : Int64)) lim Kes6 (by decide) (by omega)) at_212 (i := 1) rfl (mem (i := 17) rfl) (mem (i := 18) rfl) (mem (i := 20) rfl) (mem (i := 19) rfl) (mem (i := 7) rfl) (mem (i := 21) rfl) (by decide) pd_4 rfl (rest := []) rfl rfl (by decide) (Nat.le_of_ble_eq_true rfl) (cn' := 7) (sn' := 56) rfl rfl (by decide) (by decide) (pc' := 215) rfl (fun _ _ hq => ?_)
                    obtain ⟨ea7, es7, f7, F7, Kes7', rfl, rfl⟩ := hq
                    show Go Z k 7 56 ((ea7, ArL Z es7) :: (a1, Obj Z "com/example/mangrove/mangrove/MemorySlidingWindowLog$KeyLog" [("com/example/mangrove/mangrove/MemorySlidingWindowLog$KeyLog", "entries", "[J", (.ref ea7)), ("com/example/mangrove/mangrove/MemorySlidingWindowLog$KeyLog", "size", "I", (.int (5 : Nat).toInt32)), ("com/example/mangrove/mangrove/MemorySlidingWindowLog$KeyLog", "first", "I", (.int f7.toInt32))]) :: F7) 215 #[.val (.int i0), .val (.long i1), .second, .val (.long i2), .second, .val (.int cN.toInt32), .val (.int (3 : Int32)), .val (.int (0 : Int32)), .val (.int (3 : Int32)), .val (.long lim), .second, .val (.ref a1), .val (.long af), .second, .val (.int (1 : Int32)), .unset, .unset] []
                    have Kes7 : KL es7 f7 5 ([i1, (i1 + (1 : Int64)), (i1 + (2 : Int64)), (i1 + (3 : Int64)), (i1 + (4 : Int64))] : List Int64) := Kes7'
                    refine s_iload H at_215 rfl (pc' := 217) rfl ?_
                    refine s_iconst H at_217 (z := (2 : Int32)) (by decide) (pc' := 218) rfl ?_
                    refine s_icmp H at_218 (py := 233) (pc' := 221) q_le (by decide) rfl (fun c218 => ?_) (fun c218 => ?_)
                    · exact absurd c218 (by decide)
                    · refine s_aload H at_221 rfl rfl (pc' := 223) rfl ?_
                      refine s_lloadn H at_223 rfl (pc' := 224) rfl ?_
                      refine s_ldc2 H at_224 (mem (i := 48) rfl) (pc' := 227) rfl ?_
                      refine s_ladd H at_227 (pc' := 228) rfl ?_
                      refine s_lload H at_228 rfl (pc' := 230) rfl ?_
                      refine s_virtual H (met_ka H.tb a1 ea7 es7 ([i1, (i1 + (1 : Int64)), (i1 + (2 : Int64)), (i1 + (3 : Int64)), (i1 + (4 : Int64))] : List Int64) f7 5 (i1 + (5 : Int64)) lim Kes7 (by decide) (by omega)) at_230 (i := 1) rfl (mem (i := 17) rfl) (mem (i := 18) rfl) (mem (i := 20) rfl) (mem (i := 19) rfl) (mem (i := 7) rfl) (mem (i := 21) rfl) (by decide) pd_4 rfl (rest := []) rfl rfl (by decide) (Nat.le_of_ble_eq_true rfl) (cn' := 8) (sn' := 66) rfl rfl (by decide) (by decide) (pc' := 233) rfl (fun _ _ hq => ?_)
                      obtain ⟨ea8, es8, f8, F8, Kes8', rfl, rfl⟩ := hq
                      show Go Z k 8 66 ((ea8, ArL Z es8) :: (a1, Obj Z "com/example/mangrove/mangrove/MemorySlidingWindowLog$KeyLog" [("com/example/mangrove/mangrove/MemorySlidingWindowLog$KeyLog", "entries", "[J", (.ref ea8)), ("com/example/mangrove/mangrove/MemorySlidingWindowLog$KeyLog", "size", "I", (.int (6 : Nat).toInt32)), ("com/example/mangrove/mangrove/MemorySlidingWindowLog$KeyLog", "first", "I", (.int f8.toInt32))]) :: F8) 233 #[.val (.int i0), .val (.long i1), .second, .val (.long i2), .second, .val (.int cN.toInt32), .val (.int (3 : Int32)), .val (.int (0 : Int32)), .val (.int (3 : Int32)), .val (.long lim), .second, .val (.ref a1), .val (.long af), .second, .val (.int (1 : Int32)), .unset, .unset] []
                      have Kes8 : KL es8 f8 6 ([i1, (i1 + (1 : Int64)), (i1 + (2 : Int64)), (i1 + (3 : Int64)), (i1 + (4 : Int64)), (i1 + (5 : Int64))] : List Int64) := Kes8'
                      refine s_iload H at_233 rfl (pc' := 235) rfl ?_
                      refine s_if H at_235 (py := 243) (pc' := 238) z_ne (by decide) rfl (fun c235 => ?_) (fun c235 => ?_)
                      · refine s_lloadn H at_243 rfl (pc' := 244) rfl ?_
                        refine s_iconst H at_244 (z := (2 : Int32)) (by decide) (pc' := 245) rfl ?_
                        refine s_iload H at_245 rfl (pc' := 247) rfl ?_
                        refine s_iadd H at_247 (pc' := 248) rfl ?_
                        refine s_i2l H at_248 (pc' := 249) rfl ?_
                        refine s_ladd H at_249 (pc' := 250) rfl ?_
                        refine s_lstore H at_250 (L' := fun z => #[.val (.int i0), .val (.long i1), .second, .val (.long i2), .second, .val (.int cN.toInt32), .val (.int (3 : Int32)), .val (.int (0 : Int32)), .val (.int (3 : Int32)), .val (.long lim), .second, .val (.ref a1), .val (.long af), .second, .val (.int (1 : Int32)), .val (.long z), .second]) (fun _ => rfl) (pc' := 252) rfl (fun la h_la => ?_)
                        refine s_iload H at_252 rfl (pc' := 254) rfl ?_
                        refine s_if H at_254 (py := 272) (pc' := 257) z_eq (by decide) rfl (fun c254 => ?_) (fun c254 => ?_)
                        · exact absurd c254 (by decide)
                        · refine s_aload H at_257 rfl rfl (pc' := 259) rfl ?_
                          refine s_virtual H (met_kn H.tb a1 ea8 es8 ([i1, (i1 + (1 : Int64)), (i1 + (2 : Int64)), (i1 + (3 : Int64)), (i1 + (4 : Int64))] : List Int64) f8 6 (i1 + (5 : Int64)) Kes8) at_259 (i := 1) rfl (mem (i := 26) rfl) (mem (i := 27) rfl) (mem (i := 29) rfl) (mem (i := 28) rfl) (mem (i := 7) rfl) (mem (i := 30) rfl) (by decide) pd_5 rfl (rest := []) rfl rfl (by decide) (Nat.le_of_ble_eq_true rfl) (cn' := 8) (sn' := 66) rfl rfl (by decide) (by decide) (pc' := 262) rfl (fun _ _ hq => ?_)
                          obtain ⟨rfl, rfl⟩ := hq
                          show Go Z k 8 66 ((ea8, ArL Z es8) :: (a1, Obj Z "com/example/mangrove/mangrove/MemorySlidingWindowLog$KeyLog" [("com/example/mangrove/mangrove/MemorySlidingWindowLog$KeyLog", "entries", "[J", (.ref ea8)), ("com/example/mangrove/mangrove/MemorySlidingWindowLog$KeyLog", "size", "I", (.int (6 : Nat).toInt32)), ("com/example/mangrove/mangrove/MemorySlidingWindowLog$KeyLog", "first", "I", (.int f8.toInt32))]) :: F8) 262 #[.val (.int i0), .val (.long i1), .second, .val (.long i2), .second, .val (.int cN.toInt32), .val (.int (3 : Int32)), .val (.int (0 : Int32)), .val (.int (3 : Int32)), .val (.long lim), .second, .val (.ref a1), .val (.long af), .second, .val (.int (1 : Int32)), .val (.long la), .second] [(.long (i1 + (5 : Int64)))]
                          refine s_lload H at_262 rfl (pc' := 264) rfl ?_
                          refine s_lcmp H at_264 (pc' := 265) rfl ?_
                          refine s_if H at_265 (py := 272) (pc' := 268) l_ne (by decide) rfl (fun c265 => ?_) (fun c265 => ?_)
                          · exact absurd (by rw [h_la, show (((2 : Int32) + (3 : Int32)).toInt64) = 5 from by decide]) c265
                          · refine s_iconst H at_268 (z := (1 : Int32)) (by decide) (pc' := 269) rfl ?_
                            refine s_goto H at_269 (pc' := 273) (by decide) ?_
                            exact s_iret H at_273 rfl (by simp) (by decide) (by decide) (rfl)
                      · exact absurd c235 (by decide)
          · exact absurd c149 (by decide)
        · exact absurd c138 (by decide)
set_option maxRecDepth 65536 in
set_option maxHeartbeats 40000000 in
theorem s42_3_1_0 {Z : State} {k : Cx} {i0 : Int32} {i1 i2 : Int64} (cN : Nat) (H : Ok Z k room_1 (LQ) x code maxLocals ret) (h0 : 0 < cN) (hc : cN ≤ 3) : Go Z k 0 0 ([] : Hp) 42 #[.val (.int i0), .val (.long i1), .second, .val (.long i2), .second, .val (.int cN.toInt32), .val (.int (3 : Int32)), .val (.int (1 : Int32)), .val (.int (0 : Int32)), .unset, .unset, .unset, .unset, .unset, .unset, .unset, .unset] [] := by
  refine s_iload H at_42 rfl (pc' := 44) rfl ?_
  refine s_iload H at_44 rfl (pc' := 46) rfl ?_
  refine s_iadd H at_46 (pc' := 47) rfl ?_
  refine s_i2l H at_47 (pc' := 48) rfl ?_
  refine s_lloadn H at_48 rfl (pc' := 49) rfl ?_
  refine s_ldc2 H at_49 (mem (i := 4) rfl) (pc' := 52) rfl ?_
  refine s_land H at_52 (pc' := 53) rfl ?_
  refine s_ladd H at_53 (pc' := 54) rfl ?_
  refine s_lstore H at_54 (L' := fun z => #[.val (.int i0), .val (.long i1), .second, .val (.long i2), .second, .val (.int cN.toInt32), .val (.int (3 : Int32)), .val (.int (1 : Int32)), .val (.int (0 : Int32)), .val (.long z), .second, .unset, .unset, .unset, .unset, .unset, .unset]) (fun _ => rfl) (pc' := 56) rfl (fun lim h_lim => ?_)
  have hl : 3 ≤ lim.toInt := by
    have m := c_maskL i2 4611686018427387903 62 (by decide) (by decide)
    have s := c_ladd ((((3 : Int32) + (0 : Int32)).toInt64)) (i2 &&& 4611686018427387903)
    rw [← h_lim, show ((((3 : Int32) + (0 : Int32)).toInt64)).toInt = 3 from by decide] at s
    have rl := rng64 lim
    omega
  refine s_new H (C := "com/example/mangrove/mangrove/MemorySlidingWindowLog$KeyLog") [("com/example/mangrove/mangrove/MemorySlidingWindowLog$KeyLog", "entries", "[J", .null), ("com/example/mangrove/mangrove/MemorySlidingWindowLog$KeyLog", "size", "I", (.int (0 : Int32))), ("com/example/mangrove/mangrove/MemorySlidingWindowLog$KeyLog", "first", "I", (.int (0 : Int32)))] at_56 (mem (i := 5) rfl) (mem (i := 6) rfl) (mem (i := 7) rfl) (allC ⟨Or.inl (mem (i := 16) rfl), (.array .long), by decide, rfl⟩ (allC ⟨Or.inl (mem (i := 23) rfl), .int, by decide, rfl⟩ (allC ⟨Or.inl (mem (i := 25) rfl), .int, by decide, rfl⟩ allN))) (by decide) (cn' := 1) (sn' := 3) rfl rfl (by decide) (by decide) (pc' := 59) rfl (fun a1 => ?_)
  refine s_dup H at_59 rfl (pc' := 60) rfl ?_
  refine s_iload H at_60 rfl (pc' := 62) rfl ?_
  refine s_init H (met_ki H.tb a1 cN hc) at_62 rfl (mem (i := 8) rfl) (mem (i := 9) rfl) (mem (i := 7) rfl) (mem (i := 10) rfl) (by decide) pd_2 rfl (rest := [(.ref a1)]) rfl rfl (by decide) (Nat.le_of_ble_eq_true rfl) (cn' := 2) (sn' := 6) rfl rfl (by decide) (by decide) (pc' := 65) rfl (fun _ _ hq => ?_)
  obtain ⟨ea, rfl, rfl⟩ := hq
  show Go Z k 2 6 ((ea, ArL Z (List.replicate cN 0)) :: (a1, Obj Z "com/example/mangrove/mangrove/MemorySlidingWindowLog$KeyLog" [("com/example/mangrove/mangrove/MemorySlidingWindowLog$KeyLog", "entries", "[J", (.ref ea)), ("com/example/mangrove/mangrove/MemorySlidingWindowLog$KeyLog", "size", "I", (.int (0 : Nat).toInt32)), ("com/example/mangrove/mangrove/MemorySlidingWindowLog$KeyLog", "first", "I", (.int (0 : Nat).toInt32))]) :: []) 65 #[.val (.int i0), .val (.long i1), .second, .val (.long i2), .second, .val (.int cN.toInt32), .val (.int (3 : Int32)), .val (.int (1 : Int32)), .val (.int (0 : Int32)), .val (.long lim), .second, .unset, .unset, .unset, .unset, .unset, .unset] [(.ref a1)]
  obtain ⟨es2, he, les2, Kes2⟩ : ∃ es : List Int64, es = List.replicate cN 0 ∧ es.length = cN ∧ KL es 0 0 [] := ⟨_, rfl, by simp, KL.new (by omega) (by omega)⟩
  rw [← he]
  clear he
  show Go Z k 2 6 ((ea, ArL Z es2) :: (a1, Obj Z "com/example/mangrove/mangrove/MemorySlidingWindowLog$KeyLog" [("com/example/mangrove/mangrove/MemorySlidingWindowLog$KeyLog", "entries", "[J", (.ref ea)), ("com/example/mangrove/mangrove/MemorySlidingWindowLog$KeyLog", "size", "I", (.int (0 : Nat).toInt32)), ("com/example/mangrove/mangrove/MemorySlidingWindowLog$KeyLog", "first", "I", (.int (0 : Nat).toInt32))]) :: []) 65 #[.val (.int i0), .val (.long i1), .second, .val (.long i2), .second, .val (.int cN.toInt32), .val (.int (3 : Int32)), .val (.int (1 : Int32)), .val (.int (0 : Int32)), .val (.long lim), .second, .unset, .unset, .unset, .unset, .unset, .unset] [(.ref a1)]
  refine s_astore H at_65 (L' := #[.val (.int i0), .val (.long i1), .second, .val (.long i2), .second, .val (.int cN.toInt32), .val (.int (3 : Int32)), .val (.int (1 : Int32)), .val (.int (0 : Int32)), .val (.long lim), .second, .val (.ref a1), .unset, .unset, .unset, .unset, .unset]) rfl rfl (pc' := 67) rfl ?_
  refine s_aload H at_67 rfl rfl (pc' := 69) rfl ?_
  refine s_lloadn H at_69 rfl (pc' := 70) rfl ?_
  refine s_lload H at_70 rfl (pc' := 72) rfl ?_
  refine s_virtual H (met_ka H.tb a1 ea es2 ([] : List Int64) (0 : Nat) 0 i1 lim Kes2 (by decide) (by omega)) at_72 (i := 1) rfl (mem (i := 17) rfl) (mem (i := 18) rfl) (mem (i := 20) rfl) (mem (i := 19) rfl) (mem (i := 7) rfl) (mem (i := 21) rfl) (by decide) pd_4 rfl (rest := []) rfl rfl (by decide) (Nat.le_of_ble_eq_true rfl) (cn' := 3) (sn' := 16) rfl rfl (by decide) (by decide) (pc' := 75) rfl (fun _ _ hq => ?_)
  obtain ⟨ea3, es3, f3, F3, Kes3', rfl, rfl⟩ := hq
  show Go Z k 3 16 ((ea3, ArL Z es3) :: (a1, Obj Z "com/example/mangrove/mangrove/MemorySlidingWindowLog$KeyLog" [("com/example/mangrove/mangrove/MemorySlidingWindowLog$KeyLog", "entries", "[J", (.ref ea3)), ("com/example/mangrove/mangrove/MemorySlidingWindowLog$KeyLog", "size", "I", (.int (1 : Nat).toInt32)), ("com/example/mangrove/mangrove/MemorySlidingWindowLog$KeyLog", "first", "I", (.int f3.toInt32))]) :: F3) 75 #[.val (.int i0), .val (.long i1), .second, .val (.long i2), .second, .val (.int cN.toInt32), .val (.int (3 : Int32)), .val (.int (1 : Int32)), .val (.int (0 : Int32)), .val (.long lim), .second, .val (.ref a1), .unset, .unset, .unset, .unset, .unset] []
  have Kes3 : KL es3 f3 1 ([i1] : List Int64) := Kes3'
  refine s_iload H at_75 rfl (pc' := 77) rfl ?_
  refine s_iconst H at_77 (z := (1 : Int32)) (by decide) (pc' := 78) rfl ?_
  refine s_icmp H at_78 (py := 91) (pc' := 81) q_le (by decide) rfl (fun c78 => ?_) (fun c78 => ?_)
  · exact absurd c78 (by decide)
  · refine s_aload H at_81 rfl rfl (pc' := 83) rfl ?_
    refine s_lloadn H at_83 rfl (pc' := 84) rfl ?_
    refine s_lconst H at_84 (z := (1 : Int64)) (by decide) (pc' := 85) rfl ?_
    refine s_ladd H at_85 (pc' := 86) rfl ?_
    refine s_lload H at_86 rfl (pc' := 88) rfl ?_
    refine s_virtual H (met_ka H.tb a1 ea3 es3 ([i1] : List Int64) f3 1 (i1 + (1 : Int64)) lim Kes3 (by decide) (by omega)) at_88 (i := 1) rfl (mem (i := 17) rfl) (mem (i := 18) rfl) (mem (i := 20) rfl) (mem (i := 19) rfl) (mem (i := 7) rfl) (mem (i := 21) rfl) (by decide) pd_4 rfl (rest := []) rfl rfl (by decide) (Nat.le_of_ble_eq_true rfl) (cn' := 4) (sn' := 26) rfl rfl (by decide) (by decide) (pc' := 91) rfl (fun _ _ hq => ?_)
    obtain ⟨ea4, es4, f4, F4, Kes4', rfl, rfl⟩ := hq
    show Go Z k 4 26 ((ea4, ArL Z es4) :: (a1, Obj Z "com/example/mangrove/mangrove/MemorySlidingWindowLog$KeyLog" [("com/example/mangrove/mangrove/MemorySlidingWindowLog$KeyLog", "entries", "[J", (.ref ea4)), ("com/example/mangrove/mangrove/MemorySlidingWindowLog$KeyLog", "size", "I", (.int (2 : Nat).toInt32)), ("com/example/mangrove/mangrove/MemorySlidingWindowLog$KeyLog", "first", "I", (.int f4.toInt32))]) :: F4) 91 #[.val (.int i0), .val (.long i1), .second, .val (.long i2), .second, .val (.int cN.toInt32), .val (.int (3 : Int32)), .val (.int (1 : Int32)), .val (.int (0 : Int32)), .val (.long lim), .second, .val (.ref a1), .unset, .unset, .unset, .unset, .unset] []
    have Kes4 : KL es4 f4 2 ([i1, (i1 + (1 : Int64))] : List Int64) := Kes4'
    refine s_iload H at_91 rfl (pc' := 93) rfl ?_
    refine s_iconst H at_93 (z := (2 : Int32)) (by decide) (pc' := 94) rfl ?_
    refine s_icmp H at_94 (py := 109) (pc' := 97) q_le (by decide) rfl (fun c94 => ?_) (fun c94 => ?_)
    · exact absurd c94 (by decide)
    · refine s_aload H at_97 rfl rfl (pc' := 99) rfl ?_
      refine s_lloadn H at_99 rfl (pc' := 100) rfl ?_
      refine s_ldc2 H at_100 (mem (i := 49) rfl) (pc' := 103) rfl ?_
      refine s_ladd H at_103 (pc' := 104) rfl ?_
      refine s_lload H at_104 rfl (pc' := 106) rfl ?_
      refine s_virtual H (met_ka H.tb a1 ea4 es4 ([i1, (i1 + (1 : Int64))] : List Int64) f4 2 (i1 + (2 : Int64)) lim Kes4 (by decide) (by omega)) at_106 (i := 1) rfl (mem (i := 17) rfl) (mem (i := 18) rfl) (mem (i := 20) rfl) (mem (i := 19) rfl) (mem (i := 7) rfl) (mem (i := 21) rfl) (by decide) pd_4 rfl (rest := []) rfl rfl (by decide) (Nat.le_of_ble_eq_true rfl) (cn' := 5) (sn' := 36) rfl rfl (by decide) (by decide) (pc' := 109) rfl (fun _ _ hq => ?_)
      obtain ⟨ea5, es5, f5, F5, Kes5', rfl, rfl⟩ := hq
      show Go Z k 5 36 ((ea5, ArL Z es5) :: (a1, Obj Z "com/example/mangrove/mangrove/MemorySlidingWindowLog$KeyLog" [("com/example/mangrove/mangrove/MemorySlidingWindowLog$KeyLog", "entries", "[J", (.ref ea5)), ("com/example/mangrove/mangrove/MemorySlidingWindowLog$KeyLog", "size", "I", (.int (3 : Nat).toInt32)), ("com/example/mangrove/mangrove/MemorySlidingWindowLog$KeyLog", "first", "I", (.int f5.toInt32))]) :: F5) 109 #[.val (.int i0), .val (.long i1), .second, .val (.long i2), .second, .val (.int cN.toInt32), .val (.int (3 : Int32)), .val (.int (1 : Int32)), .val (.int (0 : Int32)), .val (.long lim), .second, .val (.ref a1), .unset, .unset, .unset, .unset, .unset] []
      have Kes5 : KL es5 f5 3 ([i1, (i1 + (1 : Int64)), (i1 + (2 : Int64))] : List Int64) := Kes5'
      refine s_lloadn H at_109 rfl (pc' := 110) rfl ?_
      refine s_iload H at_110 rfl (pc' := 112) rfl ?_
      refine s_iconst H at_112 (z := (1 : Int32)) (by decide) (pc' := 113) rfl ?_
      refine s_isub H at_113 (pc' := 114) rfl ?_
      refine s_i2l H at_114 (pc' := 115) rfl ?_
      refine s_ladd H at_115 (pc' := 116) rfl ?_
      refine s_lstore H at_116 (L' := fun z => #[.val (.int i0), .val (.long i1), .second, .val (.long i2), .second, .val (.int cN.toInt32), .val (.int (3 : Int32)), .val (.int (1 : Int32)), .val (.int (0 : Int32)), .val (.long lim), .second, .val (.ref a1), .val (.long z), .second, .unset, .unset, .unset]) (fun _ => rfl) (pc' := 118) rfl (fun af h_af => ?_)
      refine s_aload H at_118 rfl rfl (pc' := 120) rfl ?_
      refine s_virtual H (met_kn H.tb a1 ea5 es5 ([i1, (i1 + (1 : Int64))] : List Int64) f5 3 (i1 + (2 : Int64)) Kes5) at_120 (i := 1) rfl (mem (i := 26) rfl) (mem (i := 27) rfl) (mem (i := 29) rfl) (mem (i := 28) rfl) (mem (i := 7) rfl) (mem (i := 30) rfl) (by decide) pd_5 rfl (rest := []) rfl rfl (by decide) (Nat.le_of_ble_eq_true rfl) (cn' := 5) (sn' := 36) rfl rfl (by decide) (by decide) (pc' := 123) rfl (fun _ _ hq => ?_)
      obtain ⟨rfl, rfl⟩ := hq
      show Go Z k 5 36 ((ea5, ArL Z es5) :: (a1, Obj Z "com/example/mangrove/mangrove/MemorySlidingWindowLog$KeyLog" [("com/example/mangrove/mangrove/MemorySlidingWindowLog$KeyLog", "entries", "[J", (.ref ea5)), ("com/example/mangrove/mangrove/MemorySlidingWindowLog$KeyLog", "size", "I", (.int (3 : Nat).toInt32)), ("com/example/mangrove/mangrove/MemorySlidingWindowLog$KeyLog", "first", "I", (.int f5.toInt32))]) :: F5) 123 #[.val (.int i0), .val (.long i1), .second, .val (.long i2), .second, .val (.int cN.toInt32), .val (.int (3 : Int32)), .val (.int (1 : Int32)), .val (.int (0 : Int32)), .val (.long lim), .second, .val (.ref a1), .val (.long af), .second, .unset, .unset, .unset] [(.long (i1 + (2 : Int64)))]
      refine s_lload H at_123 rfl (pc' := 125) rfl ?_
      refine s_lcmp H at_125 (pc' := 126) rfl ?_
      refine s_if H at_126 (py := 133) (pc' := 129) l_ne (by decide) rfl (fun c126 => ?_) (fun c126 => ?_)
      · exact absurd (by rw [h_af, show (((3 : Int32) - (1 : Int32)).toInt64) = 2 from by decide]) c126
      · refine s_iconst H at_129 (z := (1 : Int32)) (by decide) (pc' := 130) rfl ?_
        refine s_goto H at_130 (pc' := 134) (by decide) ?_
        refine s_istore H at_134 (L' := fun z => #[.val (.int i0), .val (.long i1), .second, .val (.long i2), .second, .val (.int cN.toInt32), .val (.int (3 : Int32)), .val (.int (1 : Int32)), .val (.int (0 : Int32)), .val (.long lim), .second, .val (.ref a1), .val (.long af), .second, .val (.int z), .unset, .unset]) (fun _ => rfl) (pc' := 136) rfl (fun z0 hz => ?_)
        subst z0
        refine s_iload H at_136 rfl (pc' := 138) rfl ?_
        refine s_if H at_138 (py := 146) (pc' := 141) z_le (by decide) rfl (fun c138 => ?_) (fun c138 => ?_)
        · exact absurd c138 (by decide)
        · refine s_aload H at_141 rfl rfl (pc' := 143) rfl ?_
          refine s_virtual H (met_kr H.tb a1 ea5 es5 ([(i1 + (1 : Int64)), (i1 + (2 : Int64))] : List Int64) f5 3 i1 Kes5) at_143 (i := 1) rfl (mem (i := 50) rfl) (mem (i := 51) rfl) (mem (i := 53) rfl) (mem (i := 52) rfl) (mem (i := 7) rfl) (mem (i := 54) rfl) (by decide) pd_9 rfl (rest := []) rfl rfl (by decide) (Nat.le_of_ble_eq_true rfl) (cn' := 5) (sn' := 36) rfl rfl (by decide) (by decide) (pc' := 146) rfl (fun _ _ hq => ?_)
          obtain ⟨f6, Kf6', rfl, rfl⟩ := hq
          show Go Z k 5 36 ((ea5, ArL Z es5) :: (a1, Obj Z "com/example/mangrove/mangrove/MemorySlidingWindowLog$KeyLog" [("com/example/mangrove/mangrove/MemorySlidingWindowLog$KeyLog", "entries", "[J", (.ref ea5)), ("com/example/mangrove/mangrove/MemorySlidingWindowLog$KeyLog", "size", "I", (.int (2 : Nat).toInt32)), ("com/example/mangrove/mangrove/MemorySlidingWindowLog$KeyLog", "first", "I", (.int f6.toInt32))]) :: F5) 146 #[.val (.int i0), .val (.long i1), .second, .val (.long i2), .second, .val (.int cN.toInt32), .val (.int (3 : Int32)), .val (.int (1 : Int32)), .val (.int (0 : Int32)), .val (.long lim), .second, .val (.ref a1), .val (.long af), .second, .val (.int (1 : Int32)), .unset, .unset] []
          have Kf6 : KL es5 f6 2 ([(i1 + (1 : Int64)), (i1 + (2 : Int64))] : List Int64) := Kf6'
          refine s_iload H at_146 rfl (pc' := 148) rfl ?_
          refine s_iconst H at_148 (z := (1 : Int32)) (by decide) (pc' := 149) rfl ?_
          refine s_icmp H at_149 (py := 157) (pc' := 152) q_le (by decide) rfl (fun c149 => ?_) (fun c149 => ?_)
          · refine s_iload H at_157 rfl (pc' := 159) rfl ?_
            refine s_if H at_159 (py := 177) (pc' := 162) z_eq (by decide) rfl (fun c159 => ?_) (fun c159 => ?_)
            · exact absurd c159 (by decide)
            · refine s_aload H at_162 rfl rfl (pc' := 164) rfl ?_
              refine s_virtual H (met_kn H.tb a1 ea5 es5 ([(i1 + (1 : Int64))] : List Int64) f6 2 (i1 + (2 : Int64)) Kf6) at_164 (i := 1) rfl (mem (i := 26) rfl) (mem (i := 27) rfl) (mem (i := 29) rfl) (mem (i := 28) rfl) (mem (i := 7) rfl) (mem (i := 30) rfl) (by decide) pd_5 rfl (rest := []) rfl rfl (by decide) (Nat.le_of_ble_eq_true rfl) (cn' := 5) (sn' := 36) rfl rfl (by decide) (by decide) (pc' := 167) rfl (fun _ _ hq => ?_)
              obtain ⟨rfl, rfl⟩ := hq
              show Go Z k 5 36 ((ea5, ArL Z es5) :: (a1, Obj Z "com/example/mangrove/mangrove/MemorySlidingWindowLog$KeyLog" [("com/example/mangrove/mangrove/MemorySlidingWindowLog$KeyLog", "entries", "[J", (.ref ea5)), ("com/example/mangrove/mangrove/MemorySlidingWindowLog$KeyLog", "size", "I", (.int (2 : Nat).toInt32)), ("com/example/mangrove/mangrove/MemorySlidingWindowLog$KeyLog", "first", "I", (.int f6.toInt32))]) :: F5) 167 #[.val (.int i0), .val (.long i1), .second, .val (.long i2), .second, .val (.int cN.toInt32), .val (.int (3 : Int32)), .val (.int (1 : Int32)), .val (.int (0 : Int32)), .val (.long lim), .second, .val (.ref a1), .val (.long af), .second, .val (.int (1 : Int32)), .unset, .unset] [(.long (i1 + (2 : Int64)))]
              refine s_lload H at_167 rfl (pc' := 169) rfl ?_
              refine s_lcmp H at_169 (pc' := 170) rfl ?_
              refine s_if H at_170 (py := 177) (pc' := 173) l_ne (by decide) rfl (fun c170 => ?_) (fun c170 => ?_)
              · exact absurd (by rw [h_af, show (((3 : Int32) - (1 : Int32)).toInt64) = 2 from by decide]) c170
              · refine s_iconst H at_173 (z := (1 : Int32)) (by decide) (pc' := 174) rfl ?_
                refine s_goto H at_174 (pc' := 178) (by decide) ?_
                refine s_istore H at_178 (L' := fun z => #[.val (.int i0), .val (.long i1), .second, .val (.long i2), .second, .val (.int cN.toInt32), .val (.int (3 : Int32)), .val (.int (1 : Int32)), .val (.int (0 : Int32)), .val (.long lim), .second, .val (.ref a1), .val (.long af), .second, .val (.int z), .unset, .unset]) (fun _ => rfl) (pc' := 180) rfl (fun z0 hz => ?_)
                subst z0
                refine s_iload H at_180 rfl (pc' := 182) rfl ?_
                refine s_if H at_182 (py := 197) (pc' := 185) z_le (by decide) rfl (fun c182 => ?_) (fun c182 => ?_)
                · refine s_iload H at_197 rfl (pc' := 199) rfl ?_
                  refine s_iconst H at_199 (z := (1 : Int32)) (by decide) (pc' := 200) rfl ?_
                  refine s_icmp H at_200 (py := 215) (pc' := 203) q_le (by decide) rfl (fun c200 => ?_) (fun c200 => ?_)
                  · refine s_iload H at_215 rfl (pc' := 217) rfl ?_
                    refine s_iconst H at_217 (z := (2 : Int32)) (by decide) (pc' := 218) rfl ?_
                    refine s_icmp H at_218 (py := 233) (pc' := 221) q_le (by decide) rfl (fun c218 => ?_) (fun c218 => ?_)
                    · refine s_iload H at_233 rfl (pc' := 235) rfl ?_
                      refine s_if H at_235 (py := 243) (pc' := 238) z_ne (by decide) rfl (fun c235 => ?_) (fun c235 => ?_)
                      · exact absurd c235 (by decide)
                      · refine s_lload H at_238 rfl (pc' := 240) rfl ?_
                        refine s_goto H at_240 (pc' := 250) (by decide) ?_
                        refine s_lstore H at_250 (L' := fun z => #[.val (.int i0), .val (.long i1), .second, .val (.long i2), .second, .val (.int cN.toInt32), .val (.int (3 : Int32)), .val (.int (1 : Int32)), .val (.int (0 : Int32)), .val (.long lim), .second, .val (.ref a1), .val (.long af), .second, .val (.int (1 : Int32)), .val (.long z), .second]) (fun _ => rfl) (pc' := 252) rfl (fun z0 hz => ?_)
                        subst z0
                        refine s_iload H at_252 rfl (pc' := 254) rfl ?_
                        refine s_if H at_254 (py := 272) (pc' := 257) z_eq (by decide) rfl (fun c254 => ?_) (fun c254 => ?_)
                        · exact absurd c254 (by decide)
                        · refine s_aload H at_257 rfl rfl (pc' := 259) rfl ?_
                          refine s_virtual H (met_kn H.tb a1 ea5 es5 ([(i1 + (1 : Int64))] : List Int64) f6 2 (i1 + (2 : Int64)) Kf6) at_259 (i := 1) rfl (mem (i := 26) rfl) (mem (i := 27) rfl) (mem (i := 29) rfl) (mem (i := 28) rfl) (mem (i := 7) rfl) (mem (i := 30) rfl) (by decide) pd_5 rfl (rest := []) rfl rfl (by decide) (Nat.le_of_ble_eq_true rfl) (cn' := 5) (sn' := 36) rfl rfl (by decide) (by decide) (pc' := 262) rfl (fun _ _ hq => ?_)
                          obtain ⟨rfl, rfl⟩ := hq
                          show Go Z k 5 36 ((ea5, ArL Z es5) :: (a1, Obj Z "com/example/mangrove/mangrove/MemorySlidingWindowLog$KeyLog" [("com/example/mangrove/mangrove/MemorySlidingWindowLog$KeyLog", "entries", "[J", (.ref ea5)), ("com/example/mangrove/mangrove/MemorySlidingWindowLog$KeyLog", "size", "I", (.int (2 : Nat).toInt32)), ("com/example/mangrove/mangrove/MemorySlidingWindowLog$KeyLog", "first", "I", (.int f6.toInt32))]) :: F5) 262 #[.val (.int i0), .val (.long i1), .second, .val (.long i2), .second, .val (.int cN.toInt32), .val (.int (3 : Int32)), .val (.int (1 : Int32)), .val (.int (0 : Int32)), .val (.long lim), .second, .val (.ref a1), .val (.long af), .second, .val (.int (1 : Int32)), .val (.long af), .second] [(.long (i1 + (2 : Int64)))]
                          refine s_lload H at_262 rfl (pc' := 264) rfl ?_
                          refine s_lcmp H at_264 (pc' := 265) rfl ?_
                          refine s_if H at_265 (py := 272) (pc' := 268) l_ne (by decide) rfl (fun c265 => ?_) (fun c265 => ?_)
                          · exact absurd (by rw [h_af, show (((3 : Int32) - (1 : Int32)).toInt64) = 2 from by decide]) c265
                          · refine s_iconst H at_268 (z := (1 : Int32)) (by decide) (pc' := 269) rfl ?_
                            refine s_goto H at_269 (pc' := 273) (by decide) ?_
                            exact s_iret H at_273 rfl (by simp) (by decide) (by decide) (rfl)
                    · exact absurd c218 (by decide)
                  · exact absurd c200 (by decide)
                · exact absurd c182 (by decide)
          · exact absurd c149 (by decide)
set_option maxRecDepth 65536 in
set_option maxHeartbeats 40000000 in
theorem s42_3_1_1 {Z : State} {k : Cx} {i0 : Int32} {i1 i2 : Int64} (cN : Nat) (H : Ok Z k room_1 (LQ) x code maxLocals ret) (h0 : 0 < cN) (hc : cN ≤ 3) : Go Z k 0 0 ([] : Hp) 42 #[.val (.int i0), .val (.long i1), .second, .val (.long i2), .second, .val (.int cN.toInt32), .val (.int (3 : Int32)), .val (.int (1 : Int32)), .val (.int (1 : Int32)), .unset, .unset, .unset, .unset, .unset, .unset, .unset, .unset] [] := by
  refine s_iload H at_42 rfl (pc' := 44) rfl ?_
  refine s_iload H at_44 rfl (pc' := 46) rfl ?_
  refine s_iadd H at_46 (pc' := 47) rfl ?_
  refine s_i2l H at_47 (pc' := 48) rfl ?_
  refine s_lloadn H at_48 rfl (pc' := 49) rfl ?_
  refine s_ldc2 H at_49 (mem (i := 4) rfl) (pc' := 52) rfl ?_
  refine s_land H at_52 (pc' := 53) rfl ?_
  refine s_ladd H at_53 (pc' := 54) rfl ?_
  refine s_lstore H at_54 (L' := fun z => #[.val (.int i0), .val (.long i1), .second, .val (.long i2), .second, .val (.int cN.toInt32), .val (.int (3 : Int32)), .val (.int (1 : Int32)), .val (.int (1 : Int32)), .val (.long z), .second, .unset, .unset, .unset, .unset, .unset, .unset]) (fun _ => rfl) (pc' := 56) rfl (fun lim h_lim => ?_)
  have hl : 4 ≤ lim.toInt := by
    have m := c_maskL i2 4611686018427387903 62 (by decide) (by decide)
    have s := c_ladd ((((3 : Int32) + (1 : Int32)).toInt64)) (i2 &&& 4611686018427387903)
    rw [← h_lim, show ((((3 : Int32) + (1 : Int32)).toInt64)).toInt = 4 from by decide] at s
    have rl := rng64 lim
    omega
  refine s_new H (C := "com/example/mangrove/mangrove/MemorySlidingWindowLog$KeyLog") [("com/example/mangrove/mangrove/MemorySlidingWindowLog$KeyLog", "entries", "[J", .null), ("com/example/mangrove/mangrove/MemorySlidingWindowLog$KeyLog", "size", "I", (.int (0 : Int32))), ("com/example/mangrove/mangrove/MemorySlidingWindowLog$KeyLog", "first", "I", (.int (0 : Int32)))] at_56 (mem (i := 5) rfl) (mem (i := 6) rfl) (mem (i := 7) rfl) (allC ⟨Or.inl (mem (i := 16) rfl), (.array .long), by decide, rfl⟩ (allC ⟨Or.inl (mem (i := 23) rfl), .int, by decide, rfl⟩ (allC ⟨Or.inl (mem (i := 25) rfl), .int, by decide, rfl⟩ allN))) (by decide) (cn' := 1) (sn' := 3) rfl rfl (by decide) (by decide) (pc' := 59) rfl (fun a1 => ?_)
  refine s_dup H at_59 rfl (pc' := 60) rfl ?_
  refine s_iload H at_60 rfl (pc' := 62) rfl ?_
  refine s_init H (met_ki H.tb a1 cN hc) at_62 rfl (mem (i := 8) rfl) (mem (i := 9) rfl) (mem (i := 7) rfl) (mem (i := 10) rfl) (by decide) pd_2 rfl (rest := [(.ref a1)]) rfl rfl (by decide) (Nat.le_of_ble_eq_true rfl) (cn' := 2) (sn' := 6) rfl rfl (by decide) (by decide) (pc' := 65) rfl (fun _ _ hq => ?_)
  obtain ⟨ea, rfl, rfl⟩ := hq
  show Go Z k 2 6 ((ea, ArL Z (List.replicate cN 0)) :: (a1, Obj Z "com/example/mangrove/mangrove/MemorySlidingWindowLog$KeyLog" [("com/example/mangrove/mangrove/MemorySlidingWindowLog$KeyLog", "entries", "[J", (.ref ea)), ("com/example/mangrove/mangrove/MemorySlidingWindowLog$KeyLog", "size", "I", (.int (0 : Nat).toInt32)), ("com/example/mangrove/mangrove/MemorySlidingWindowLog$KeyLog", "first", "I", (.int (0 : Nat).toInt32))]) :: []) 65 #[.val (.int i0), .val (.long i1), .second, .val (.long i2), .second, .val (.int cN.toInt32), .val (.int (3 : Int32)), .val (.int (1 : Int32)), .val (.int (1 : Int32)), .val (.long lim), .second, .unset, .unset, .unset, .unset, .unset, .unset] [(.ref a1)]
  obtain ⟨es2, he, les2, Kes2⟩ : ∃ es : List Int64, es = List.replicate cN 0 ∧ es.length = cN ∧ KL es 0 0 [] := ⟨_, rfl, by simp, KL.new (by omega) (by omega)⟩
  rw [← he]
  clear he
  show Go Z k 2 6 ((ea, ArL Z es2) :: (a1, Obj Z "com/example/mangrove/mangrove/MemorySlidingWindowLog$KeyLog" [("com/example/mangrove/mangrove/MemorySlidingWindowLog$KeyLog", "entries", "[J", (.ref ea)), ("com/example/mangrove/mangrove/MemorySlidingWindowLog$KeyLog", "size", "I", (.int (0 : Nat).toInt32)), ("com/example/mangrove/mangrove/MemorySlidingWindowLog$KeyLog", "first", "I", (.int (0 : Nat).toInt32))]) :: []) 65 #[.val (.int i0), .val (.long i1), .second, .val (.long i2), .second, .val (.int cN.toInt32), .val (.int (3 : Int32)), .val (.int (1 : Int32)), .val (.int (1 : Int32)), .val (.long lim), .second, .unset, .unset, .unset, .unset, .unset, .unset] [(.ref a1)]
  refine s_astore H at_65 (L' := #[.val (.int i0), .val (.long i1), .second, .val (.long i2), .second, .val (.int cN.toInt32), .val (.int (3 : Int32)), .val (.int (1 : Int32)), .val (.int (1 : Int32)), .val (.long lim), .second, .val (.ref a1), .unset, .unset, .unset, .unset, .unset]) rfl rfl (pc' := 67) rfl ?_
  refine s_aload H at_67 rfl rfl (pc' := 69) rfl ?_
  refine s_lloadn H at_69 rfl (pc' := 70) rfl ?_
  refine s_lload H at_70 rfl (pc' := 72) rfl ?_
  refine s_virtual H (met_ka H.tb a1 ea es2 ([] : List Int64) (0 : Nat) 0 i1 lim Kes2 (by decide) (by omega)) at_72 (i := 1) rfl (mem (i := 17) rfl) (mem (i := 18) rfl) (mem (i := 20) rfl) (mem (i := 19) rfl) (mem (i := 7) rfl) (mem (i := 21) rfl) (by decide) pd_4 rfl (rest := []) rfl rfl (by decide) (Nat.le_of_ble_eq_true rfl) (cn' := 3) (sn' := 16) rfl rfl (by decide) (by decide) (pc' := 75) rfl (fun _ _ hq => ?_)
  obtain ⟨ea3, es3, f3, F3, Kes3', rfl, rfl⟩ := hq
  show Go Z k 3 16 ((ea3, ArL Z es3) :: (a1, Obj Z "com/example/mangrove/mangrove/MemorySlidingWindowLog$KeyLog" [("com/example/mangrove/mangrove/MemorySlidingWindowLog$KeyLog", "entries", "[J", (.ref ea3)), ("com/example/mangrove/mangrove/MemorySlidingWindowLog$KeyLog", "size", "I", (.int (1 : Nat).toInt32)), ("com/example/mangrove/mangrove/MemorySlidingWindowLog$KeyLog", "first", "I", (.int f3.toInt32))]) :: F3) 75 #[.val (.int i0), .val (.long i1), .second, .val (.long i2), .second, .val (.int cN.toInt32), .val (.int (3 : Int32)), .val (.int (1 : Int32)), .val (.int (1 : Int32)), .val (.long lim), .second, .val (.ref a1), .unset, .unset, .unset, .unset, .unset] []
  have Kes3 : KL es3 f3 1 ([i1] : List Int64) := Kes3'
  refine s_iload H at_75 rfl (pc' := 77) rfl ?_
  refine s_iconst H at_77 (z := (1 : Int32)) (by decide) (pc' := 78) rfl ?_
  refine s_icmp H at_78 (py := 91) (pc' := 81) q_le (by decide) rfl (fun c78 => ?_) (fun c78 => ?_)
  · exact absurd c78 (by decide)
  · refine s_aload H at_81 rfl rfl (pc' := 83) rfl ?_
    refine s_lloadn H at_83 rfl (pc' := 84) rfl ?_
    refine s_lconst H at_84 (z := (1 : Int64)) (by decide) (pc' := 85) rfl ?_
    refine s_ladd H at_85 (pc' := 86) rfl ?_
    refine s_lload H at_86 rfl (pc' := 88) rfl ?_
    refine s_virtual H (met_ka H.tb a1 ea3 es3 ([i1] : List Int64) f3 1 (i1 + (1 : Int64)) lim Kes3 (by decide) (by omega)) at_88 (i := 1) rfl (mem (i := 17) rfl) (mem (i := 18) rfl) (mem (i := 20) rfl) (mem (i := 19) rfl) (mem (i := 7) rfl) (mem (i := 21) rfl) (by decide) pd_4 rfl (rest := []) rfl rfl (by decide) (Nat.le_of_ble_eq_true rfl) (cn' := 4) (sn' := 26) rfl rfl (by decide) (by decide) (pc' := 91) rfl (fun _ _ hq => ?_)
    obtain ⟨ea4, es4, f4, F4, Kes4', rfl, rfl⟩ := hq
    show Go Z k 4 26 ((ea4, ArL Z es4) :: (a1, Obj Z "com/example/mangrove/mangrove/MemorySlidingWindowLog$KeyLog" [("com/example/mangrove/mangrove/MemorySlidingWindowLog$KeyLog", "entries", "[J", (.ref ea4)), ("com/example/mangrove/mangrove/MemorySlidingWindowLog$KeyLog", "size", "I", (.int (2 : Nat).toInt32)), ("com/example/mangrove/mangrove/MemorySlidingWindowLog$KeyLog", "first", "I", (.int f4.toInt32))]) :: F4) 91 #[.val (.int i0), .val (.long i1), .second, .val (.long i2), .second, .val (.int cN.toInt32), .val (.int (3 : Int32)), .val (.int (1 : Int32)), .val (.int (1 : Int32)), .val (.long lim), .second, .val (.ref a1), .unset, .unset, .unset, .unset, .unset] []
    have Kes4 : KL es4 f4 2 ([i1, (i1 + (1 : Int64))] : List Int64) := Kes4'
    refine s_iload H at_91 rfl (pc' := 93) rfl ?_
    refine s_iconst H at_93 (z := (2 : Int32)) (by decide) (pc' := 94) rfl ?_
    refine s_icmp H at_94 (py := 109) (pc' := 97) q_le (by decide) rfl (fun c94 => ?_) (fun c94 => ?_)
    · exact absurd c94 (by decide)
    · refine s_aload H at_97 rfl rfl (pc' := 99) rfl ?_
      refine s_lloadn H at_99 rfl (pc' := 100) rfl ?_
      refine s_ldc2 H at_100 (mem (i := 49) rfl) (pc' := 103) rfl ?_
      refine s_ladd H at_103 (pc' := 104) rfl ?_
      refine s_lload H at_104 rfl (pc' := 106) rfl ?_
      refine s_virtual H (met_ka H.tb a1 ea4 es4 ([i1, (i1 + (1 : Int64))] : List Int64) f4 2 (i1 + (2 : Int64)) lim Kes4 (by decide) (by omega)) at_106 (i := 1) rfl (mem (i := 17) rfl) (mem (i := 18) rfl) (mem (i := 20) rfl) (mem (i := 19) rfl) (mem (i := 7) rfl) (mem (i := 21) rfl) (by decide) pd_4 rfl (rest := []) rfl rfl (by decide) (Nat.le_of_ble_eq_true rfl) (cn' := 5) (sn' := 36) rfl rfl (by decide) (by decide) (pc' := 109) rfl (fun _ _ hq => ?_)
      obtain ⟨ea5, es5, f5, F5, Kes5', rfl, rfl⟩ := hq
      show Go Z k 5 36 ((ea5, ArL Z es5) :: (a1, Obj Z "com/example/mangrove/mangrove/MemorySlidingWindowLog$KeyLog" [("com/example/mangrove/mangrove/MemorySlidingWindowLog$KeyLog", "entries", "[J", (.ref ea5)), ("com/example/mangrove/mangrove/MemorySlidingWindowLog$KeyLog", "size", "I", (.int (3 : Nat).toInt32)), ("com/example/mangrove/mangrove/MemorySlidingWindowLog$KeyLog", "first", "I", (.int f5.toInt32))]) :: F5) 109 #[.val (.int i0), .val (.long i1), .second, .val (.long i2), .second, .val (.int cN.toInt32), .val (.int (3 : Int32)), .val (.int (1 : Int32)), .val (.int (1 : Int32)), .val (.long lim), .second, .val (.ref a1), .unset, .unset, .unset, .unset, .unset] []
      have Kes5 : KL es5 f5 3 ([i1, (i1 + (1 : Int64)), (i1 + (2 : Int64))] : List Int64) := Kes5'
      refine s_lloadn H at_109 rfl (pc' := 110) rfl ?_
      refine s_iload H at_110 rfl (pc' := 112) rfl ?_
      refine s_iconst H at_112 (z := (1 : Int32)) (by decide) (pc' := 113) rfl ?_
      refine s_isub H at_113 (pc' := 114) rfl ?_
      refine s_i2l H at_114 (pc' := 115) rfl ?_
      refine s_ladd H at_115 (pc' := 116) rfl ?_
      refine s_lstore H at_116 (L' := fun z => #[.val (.int i0), .val (.long i1), .second, .val (.long i2), .second, .val (.int cN.toInt32), .val (.int (3 : Int32)), .val (.int (1 : Int32)), .val (.int (1 : Int32)), .val (.long lim), .second, .val (.ref a1), .val (.long z), .second, .unset, .unset, .unset]) (fun _ => rfl) (pc' := 118) rfl (fun af h_af => ?_)
      refine s_aload H at_118 rfl rfl (pc' := 120) rfl ?_
      refine s_virtual H (met_kn H.tb a1 ea5 es5 ([i1, (i1 + (1 : Int64))] : List Int64) f5 3 (i1 + (2 : Int64)) Kes5) at_120 (i := 1) rfl (mem (i := 26) rfl) (mem (i := 27) rfl) (mem (i := 29) rfl) (mem (i := 28) rfl) (mem (i := 7) rfl) (mem (i := 30) rfl) (by decide) pd_5 rfl (rest := []) rfl rfl (by decide) (Nat.le_of_ble_eq_true rfl) (cn' := 5) (sn' := 36) rfl rfl (by decide) (by decide) (pc' := 123) rfl (fun _ _ hq => ?_)
      obtain ⟨rfl, rfl⟩ := hq
      show Go Z k 5 36 ((ea5, ArL Z es5) :: (a1, Obj Z "com/example/mangrove/mangrove/MemorySlidingWindowLog$KeyLog" [("com/example/mangrove/mangrove/MemorySlidingWindowLog$KeyLog", "entries", "[J", (.ref ea5)), ("com/example/mangrove/mangrove/MemorySlidingWindowLog$KeyLog", "size", "I", (.int (3 : Nat).toInt32)), ("com/example/mangrove/mangrove/MemorySlidingWindowLog$KeyLog", "first", "I", (.int f5.toInt32))]) :: F5) 123 #[.val (.int i0), .val (.long i1), .second, .val (.long i2), .second, .val (.int cN.toInt32), .val (.int (3 : Int32)), .val (.int (1 : Int32)), .val (.int (1 : Int32)), .val (.long lim), .second, .val (.ref a1), .val (.long af), .second, .unset, .unset, .unset] [(.long (i1 + (2 : Int64)))]
      refine s_lload H at_123 rfl (pc' := 125) rfl ?_
      refine s_lcmp H at_125 (pc' := 126) rfl ?_
      refine s_if H at_126 (py := 133) (pc' := 129) l_ne (by decide) rfl (fun c126 => ?_) (fun c126 => ?_)
      · exact absurd (by rw [h_af, show (((3 : Int32) - (1 : Int32)).toInt64) = 2 from by decide]) c126
      · refine s_iconst H at_129 (z := (1 : Int32)) (by decide) (pc' := 130) rfl ?_
        refine s_goto H at_130 (pc' := 134) (by decide) ?_
        refine s_istore H at_134 (L' := fun z => #[.val (.int i0), .val (.long i1), .second, .val (.long i2), .second, .val (.int cN.toInt32), .val (.int (3 : Int32)), .val (.int (1 : Int32)), .val (.int (1 : Int32)), .val (.long lim), .second, .val (.ref a1), .val (.long af), .second, .val (.int z), .unset, .unset]) (fun _ => rfl) (pc' := 136) rfl (fun z0 hz => ?_)
        subst z0
        refine s_iload H at_136 rfl (pc' := 138) rfl ?_
        refine s_if H at_138 (py := 146) (pc' := 141) z_le (by decide) rfl (fun c138 => ?_) (fun c138 => ?_)
        · exact absurd c138 (by decide)
        · refine s_aload H at_141 rfl rfl (pc' := 143) rfl ?_
          refine s_virtual H (met_kr H.tb a1 ea5 es5 ([(i1 + (1 : Int64)), (i1 + (2 : Int64))] : List Int64) f5 3 i1 Kes5) at_143 (i := 1) rfl (mem (i := 50) rfl) (mem (i := 51) rfl) (mem (i := 53) rfl) (mem (i := 52) rfl) (mem (i := 7) rfl) (mem (i := 54) rfl) (by decide) pd_9 rfl (rest := []) rfl rfl (by decide) (Nat.le_of_ble_eq_true rfl) (cn' := 5) (sn' := 36) rfl rfl (by decide) (by decide) (pc' := 146) rfl (fun _ _ hq => ?_)
          obtain ⟨f6, Kf6', rfl, rfl⟩ := hq
          show Go Z k 5 36 ((ea5, ArL Z es5) :: (a1, Obj Z "com/example/mangrove/mangrove/MemorySlidingWindowLog$KeyLog" [("com/example/mangrove/mangrove/MemorySlidingWindowLog$KeyLog", "entries", "[J", (.ref ea5)), ("com/example/mangrove/mangrove/MemorySlidingWindowLog$KeyLog", "size", "I", (.int (2 : Nat).toInt32)), ("com/example/mangrove/mangrove/MemorySlidingWindowLog$KeyLog", "first", "I", (.int f6.toInt32))]) :: F5) 146 #[.val (.int i0), .val (.long i1), .second, .val (.long i2), .second, .val (.int cN.toInt32), .val (.int (3 : Int32)), .val (.int (1 : Int32)), .val (.int (1 : Int32)), .val (.long lim), .second, .val (.ref a1), .val (.long af), .second, .val (.int (1 : Int32)), .unset, .unset] []
          have Kf6 : KL es5 f6 2 ([(i1 + (1 : Int64)), (i1 + (2 : Int64))] : List Int64) := Kf6'
          refine s_iload H at_146 rfl (pc' := 148) rfl ?_
          refine s_iconst H at_148 (z := (1 : Int32)) (by decide) (pc' := 149) rfl ?_
          refine s_icmp H at_149 (py := 157) (pc' := 152) q_le (by decide) rfl (fun c149 => ?_) (fun c149 => ?_)
          · refine s_iload H at_157 rfl (pc' := 159) rfl ?_
            refine s_if H at_159 (py := 177) (pc' := 162) z_eq (by decide) rfl (fun c159 => ?_) (fun c159 => ?_)
            · exact absurd c159 (by decide)
            · refine s_aload H at_162 rfl rfl (pc' := 164) rfl ?_
              refine s_virtual H (met_kn H.tb a1 ea5 es5 ([(i1 + (1 : Int64))] : List Int64) f6 2 (i1 + (2 : Int64)) Kf6) at_164 (i := 1) rfl (mem (i := 26) rfl) (mem (i := 27) rfl) (mem (i := 29) rfl) (mem (i := 28) rfl) (mem (i := 7) rfl) (mem (i := 30) rfl) (by decide) pd_5 rfl (rest := []) rfl rfl (by decide) (Nat.le_of_ble_eq_true rfl) (cn' := 5) (sn' := 36) rfl rfl (by decide) (by decide) (pc' := 167) rfl (fun _ _ hq => ?_)
              obtain ⟨rfl, rfl⟩ := hq
              show Go Z k 5 36 ((ea5, ArL Z es5) :: (a1, Obj Z "com/example/mangrove/mangrove/MemorySlidingWindowLog$KeyLog" [("com/example/mangrove/mangrove/MemorySlidingWindowLog$KeyLog", "entries", "[J", (.ref ea5)), ("com/example/mangrove/mangrove/MemorySlidingWindowLog$KeyLog", "size", "I", (.int (2 : Nat).toInt32)), ("com/example/mangrove/mangrove/MemorySlidingWindowLog$KeyLog", "first", "I", (.int f6.toInt32))]) :: F5) 167 #[.val (.int i0), .val (.long i1), .second, .val (.long i2), .second, .val (.int cN.toInt32), .val (.int (3 : Int32)), .val (.int (1 : Int32)), .val (.int (1 : Int32)), .val (.long lim), .second, .val (.ref a1), .val (.long af), .second, .val (.int (1 : Int32)), .unset, .unset] [(.long (i1 + (2 : Int64)))]
              refine s_lload H at_167 rfl (pc' := 169) rfl ?_
              refine s_lcmp H at_169 (pc' := 170) rfl ?_
              refine s_if H at_170 (py := 177) (pc' := 173) l_ne (by decide) rfl (fun c170 => ?_) (fun c170 => ?_)
              · exact absurd (by rw [h_af, show (((3 : Int32) - (1 : Int32)).toInt64) = 2 from by decide]) c170
              · refine s_iconst H at_173 (z := (1 : Int32)) (by decide) (pc' := 174) rfl ?_
                refine s_goto H at_174 (pc' := 178) (by decide) ?_
                refine s_istore H at_178 (L' := fun z => #[.val (.int i0), .val (.long i1), .second, .val (.long i2), .second, .val (.int cN.toInt32), .val (.int (3 : Int32)), .val (.int (1 : Int32)), .val (.int (1 : Int32)), .val (.long lim), .second, .val (.ref a1), .val (.long af), .second, .val (.int z), .unset, .unset]) (fun _ => rfl) (pc' := 180) rfl (fun z0 hz => ?_)
                subst z0
                refine s_iload H at_180 rfl (pc' := 182) rfl ?_
                refine s_if H at_182 (py := 197) (pc' := 185) z_le (by decide) rfl (fun c182 => ?_) (fun c182 => ?_)
                · exact absurd c182 (by decide)
                · refine s_aload H at_185 rfl rfl (pc' := 187) rfl ?_
                  refine s_lloadn H at_187 rfl (pc' := 188) rfl ?_
                  refine s_ldc2 H at_188 (mem (i := 46) rfl) (pc' := 191) rfl ?_
                  refine s_ladd H at_191 (pc' := 192) rfl ?_
                  refine s_lload H at_192 rfl (pc' := 194) rfl ?_
                  refine s_virtual H (met_ka H.tb a1 ea5 es5 ([(i1 + (1 : Int64)), (i1 + (2 : Int64))] : List Int64) f6 2 (i1 + (3 : Int64)) lim Kf6 (by decide) (by omega)) at_194 (i := 1) rfl (mem (i := 17) rfl) (mem (i := 18) rfl) (mem (i := 20) rfl) (mem (i := 19) rfl) (mem (i := 7) rfl) (mem (i := 21) rfl) (by decide) pd_4 rfl (rest := []) rfl rfl (by decide) (Nat.le_of_ble_eq_true rfl) (cn' := 6) (sn' := 46) rfl rfl (by decide) (by decide) (pc' := 197) rfl (fun _ _ hq => ?_)
                  obtain ⟨ea7, es7, f7, F7, Kes7', rfl, rfl⟩ := hq
                  show Go Z k 6 46 ((ea7, ArL Z es7) :: (a1, Obj Z "com/example/mangrove/mangrove/MemorySlidingWindowLog$KeyLog" [("com/example/mangrove/mangrove/MemorySlidingWindowLog$KeyLog", "entries", "[J", (.ref ea7)), ("com/example/mangrove/mangrove/MemorySlidingWindowLog$KeyLog", "size", "I", (.int (3 : Nat).toInt32)), ("com/example/mangrove/mangrove/MemorySlidingWindowLog$KeyLog", "first", "I", (.int f7.toInt32))]) :: F7) 197 #[.val (.int i0), .val (.long i1), .second, .val (.long i2), .second, .val (.int cN.toInt32), .val (.int (3 : Int32)), .val (.int (1 : Int32)), .val (.int (1 : Int32)), .val (.long lim), .second, .val (.ref a1), .val (.long af), .second, .val (.int (1 : Int32)), .unset, .unset] []
                  have Kes7 : KL es7 f7 3 ([(i1 + (1 : Int64)), (i1 + (2 : Int64)), (i1 + (3 : Int64))] : List Int64) := Kes7'
                  refine s_iload H at_197 rfl (pc' := 199) rfl ?_
                  refine s_iconst H at_199 (z := (1 : Int32)) (by decide) (pc' := 200) rfl ?_
                  refine s_icmp H at_200 (py := 215) (pc' := 203) q_le (by decide) rfl (fun c200 => ?_) (fun c200 => ?_)
                  · refine s_iload H at_215 rfl (pc' := 217) rfl ?_
                    refine s_iconst H at_217 (z := (2 : Int32)) (by decide) (pc' := 218) rfl ?_
                    refine s_icmp H at_218 (py := 233) (pc' := 221) q_le (by decide) rfl (fun c218 => ?_) (fun c218 => ?_)
                    · refine s_iload H at_233 rfl (pc' := 235) rfl ?_
                      refine s_if H at_235 (py := 243) (pc' := 238) z_ne (by decide) rfl (fun c235 => ?_) (fun c235 => ?_)
                      · refine s_lloadn H at_243 rfl (pc' := 244) rfl ?_
                        refine s_iconst H at_244 (z := (2 : Int32)) (by decide) (pc' := 245) rfl ?_
                        refine s_iload H at_245 rfl (pc' := 247) rfl ?_
                        refine s_iadd H at_247 (pc' := 248) rfl ?_
                        refine s_i2l H at_248 (pc' := 249) rfl ?_
                        refine s_ladd H at_249 (pc' := 250) rfl ?_
                        refine s_lstore H at_250 (L' := fun z => #[.val (.int i0), .val (.long i1), .second, .val (.long i2), .second, .val (.int cN.toInt32), .val (.int (3 : Int32)), .val (.int (1 : Int32)), .val (.int (1 : Int32)), .val (.long lim), .second, .val (.ref a1), .val (.long af), .second, .val (.int (1 : Int32)), .val (.long z), .second]) (fun _ => rfl) (pc' := 252) rfl (fun la h_la => ?_)
                        refine s_iload H at_252 rfl (pc' := 254) rfl ?_
                        refine s_if H at_254 (py := 272) (pc' := 257) z_eq (by decide) rfl (fun c254 => ?_) (fun c254 => ?_)
                        · exact absurd c254 (by decide)
                        · refine s_aload H at_257 rfl rfl (pc' := 259) rfl ?_
                          refine s_virtual H (met_kn H.tb a1 ea7 es7 ([(i1 + (1 : Int64)), (i1 + (2 : Int64))] : List Int64) f7 3 (i1 + (3 : Int64)) Kes7) at_259 (i := 1) rfl (mem (i := 26) rfl) (mem (i := 27) rfl) (mem (i := 29) rfl) (mem (i := 28) rfl) (mem (i := 7) rfl) (mem (i := 30) rfl) (by decide) pd_5 rfl (rest := []) rfl rfl (by decide) (Nat.le_of_ble_eq_true rfl) (cn' := 6) (sn' := 46) rfl rfl (by decide) (by decide) (pc' := 262) rfl (fun _ _ hq => ?_)
                          obtain ⟨rfl, rfl⟩ := hq
                          show Go Z k 6 46 ((ea7, ArL Z es7) :: (a1, Obj Z "com/example/mangrove/mangrove/MemorySlidingWindowLog$KeyLog" [("com/example/mangrove/mangrove/MemorySlidingWindowLog$KeyLog", "entries", "[J", (.ref ea7)), ("com/example/mangrove/mangrove/MemorySlidingWindowLog$KeyLog", "size", "I", (.int (3 : Nat).toInt32)), ("com/example/mangrove/mangrove/MemorySlidingWindowLog$KeyLog", "first", "I", (.int f7.toInt32))]) :: F7) 262 #[.val (.int i0), .val (.long i1), .second, .val (.long i2), .second, .val (.int cN.toInt32), .val (.int (3 : Int32)), .val (.int (1 : Int32)), .val (.int (1 : Int32)), .val (.long lim), .second, .val (.ref a1), .val (.long af), .second, .val (.int (1 : Int32)), .val (.long la), .second] [(.long (i1 + (3 : Int64)))]
                          refine s_lload H at_262 rfl (pc' := 264) rfl ?_
                          refine s_lcmp H at_264 (pc' := 265) rfl ?_
                          refine s_if H at_265 (py := 272) (pc' := 268) l_ne (by decide) rfl (fun c265 => ?_) (fun c265 => ?_)
                          · exact absurd (by rw [h_la, show (((2 : Int32) + (1 : Int32)).toInt64) = 3 from by decide]) c265
                          · refine s_iconst H at_268 (z := (1 : Int32)) (by decide) (pc' := 269) rfl ?_
                            refine s_goto H at_269 (pc' := 273) (by decide) ?_
                            exact s_iret H at_273 rfl (by simp) (by decide) (by decide) (rfl)
                      · exact absurd c235 (by decide)
                    · exact absurd c218 (by decide)
                  · exact absurd c200 (by decide)
          · exact absurd c149 (by decide)
set_option maxRecDepth 65536 in
set_option maxHeartbeats 40000000 in
theorem s42_3_1_2 {Z : State} {k : Cx} {i0 : Int32} {i1 i2 : Int64} (cN : Nat) (H : Ok Z k room_1 (LQ) x code maxLocals ret) (h0 : 0 < cN) (hc : cN ≤ 3) : Go Z k 0 0 ([] : Hp) 42 #[.val (.int i0), .val (.long i1), .second, .val (.long i2), .second, .val (.int cN.toInt32), .val (.int (3 : Int32)), .val (.int (1 : Int32)), .val (.int (2 : Int32)), .unset, .unset, .unset, .unset, .unset, .unset, .unset, .unset] [] := by
  refine s_iload H at_42 rfl (pc' := 44) rfl ?_
  refine s_iload H at_44 rfl (pc' := 46) rfl ?_
  refine s_iadd H at_46 (pc' := 47) rfl ?_
  refine s_i2l H at_47 (pc' := 48) rfl ?_
  refine s_lloadn H at_48 rfl (pc' := 49) rfl ?_
  refine s_ldc2 H at_49 (mem (i := 4) rfl) (pc' := 52) rfl ?_
  refine s_land H at_52 (pc' := 53) rfl ?_
  refine s_ladd H at_53 (pc' := 54) rfl ?_
  refine s_lstore H at_54 (L' := fun z => #[.val (.int i0), .val (.long i1), .second, .val (.long i2), .second, .val (.int cN.toInt32), .val (.int (3 : Int32)), .val (.int (1 : Int32)), .val (.int (2 : Int32)), .val (.long z), .second, .unset, .unset, .unset, .unset, .unset, .unset]) (fun _ => rfl) (pc' := 56) rfl (fun lim h_lim => ?_)
  have hl : 5 ≤ lim.toInt := by
    have m := c_maskL i2 4611686018427387903 62 (by decide) (by decide)
    have s := c_ladd ((((3 : Int32) + (2 : Int32)).toInt64)) (i2 &&& 4611686018427387903)
    rw [← h_lim, show ((((3 : Int32) + (2 : Int32)).toInt64)).toInt = 5 from by decide] at s
    have rl := rng64 lim
    omega
  refine s_new H (C := "com/example/mangrove/mangrove/MemorySlidingWindowLog$KeyLog") [("com/example/mangrove/mangrove/MemorySlidingWindowLog$KeyLog", "entries", "[J", .null), ("com/example/mangrove/mangrove/MemorySlidingWindowLog$KeyLog", "size", "I", (.int (0 : Int32))), ("com/example/mangrove/mangrove/MemorySlidingWindowLog$KeyLog", "first", "I", (.int (0 : Int32)))] at_56 (mem (i := 5) rfl) (mem (i := 6) rfl) (mem (i := 7) rfl) (allC ⟨Or.inl (mem (i := 16) rfl), (.array .long), by decide, rfl⟩ (allC ⟨Or.inl (mem (i := 23) rfl), .int, by decide, rfl⟩ (allC ⟨Or.inl (mem (i := 25) rfl), .int, by decide, rfl⟩ allN))) (by decide) (cn' := 1) (sn' := 3) rfl rfl (by decide) (by decide) (pc' := 59) rfl (fun a1 => ?_)
  refine s_dup H at_59 rfl (pc' := 60) rfl ?_
  refine s_iload H at_60 rfl (pc' := 62) rfl ?_
  refine s_init H (met_ki H.tb a1 cN hc) at_62 rfl (mem (i := 8) rfl) (mem (i := 9) rfl) (mem (i := 7) rfl) (mem (i := 10) rfl) (by decide) pd_2 rfl (rest := [(.ref a1)]) rfl rfl (by decide) (Nat.le_of_ble_eq_true rfl) (cn' := 2) (sn' := 6) rfl rfl (by decide) (by decide) (pc' := 65) rfl (fun _ _ hq => ?_)
  obtain ⟨ea, rfl, rfl⟩ := hq
  show Go Z k 2 6 ((ea, ArL Z (List.replicate cN 0)) :: (a1, Obj Z "com/example/mangrove/mangrove/MemorySlidingWindowLog$KeyLog" [("com/example/mangrove/mangrove/MemorySlidingWindowLog$KeyLog", "entries", "[J", (.ref ea)), ("com/example/mangrove/mangrove/MemorySlidingWindowLog$KeyLog", "size", "I", (.int (0 : Nat).toInt32)), ("com/example/mangrove/mangrove/MemorySlidingWindowLog$KeyLog", "first", "I", (.int (0 : Nat).toInt32))]) :: []) 65 #[.val (.int i0), .val (.long i1), .second, .val (.long i2), .second, .val (.int cN.toInt32), .val (.int (3 : Int32)), .val (.int (1 : Int32)), .val (.int (2 : Int32)), .val (.long lim), .second, .unset, .unset, .unset, .unset, .unset, .unset] [(.ref a1)]
  obtain ⟨es2, he, les2, Kes2⟩ : ∃ es : List Int64, es = List.replicate cN 0 ∧ es.length = cN ∧ KL es 0 0 [] := ⟨_, rfl, by simp, KL.new (by omega) (by omega)⟩
  rw [← he]
  clear he
  show Go Z k 2 6 ((ea, ArL Z es2) :: (a1, Obj Z "com/example/mangrove/mangrove/MemorySlidingWindowLog$KeyLog" [("com/example/mangrove/mangrove/MemorySlidingWindowLog$KeyLog", "entries", "[J", (.ref ea)), ("com/example/mangrove/mangrove/MemorySlidingWindowLog$KeyLog", "size", "I", (.int (0 : Nat).toInt32)), ("com/example/mangrove/mangrove/MemorySlidingWindowLog$KeyLog", "first", "I", (.int (0 : Nat).toInt32))]) :: []) 65 #[.val (.int i0), .val (.long i1), .second, .val (.long i2), .second, .val (.int cN.toInt32), .val (.int (3 : Int32)), .val (.int (1 : Int32)), .val (.int (2 : Int32)), .val (.long lim), .second, .unset, .unset, .unset, .unset, .unset, .unset] [(.ref a1)]
  refine s_astore H at_65 (L' := #[.val (.int i0), .val (.long i1), .second, .val (.long i2), .second, .val (.int cN.toInt32), .val (.int (3 : Int32)), .val (.int (1 : Int32)), .val (.int (2 : Int32)), .val (.long lim), .second, .val (.ref a1), .unset, .unset, .unset, .unset, .unset]) rfl rfl (pc' := 67) rfl ?_
  refine s_aload H at_67 rfl rfl (pc' := 69) rfl ?_
  refine s_lloadn H at_69 rfl (pc' := 70) rfl ?_
  refine s_lload H at_70 rfl (pc' := 72) rfl ?_
  refine s_virtual H (met_ka H.tb a1 ea es2 ([] : List Int64) (0 : Nat) 0 i1 lim Kes2 (by decide) (by omega)) at_72 (i := 1) rfl (mem (i := 17) rfl) (mem (i := 18) rfl) (mem (i := 20) rfl) (mem (i := 19) rfl) (mem (i := 7) rfl) (mem (i := 21) rfl) (by decide) pd_4 rfl (rest := []) rfl rfl (by decide) (Nat.le_of_ble_eq_true rfl) (cn' := 3) (sn' := 16) rfl rfl (by decide) (by decide) (pc' := 75) rfl (fun _ _ hq => ?_)
  obtain ⟨ea3, es3, f3, F3, Kes3', rfl, rfl⟩ := hq
  show Go Z k 3 16 ((ea3, ArL Z es3) :: (a1, Obj Z "com/example/mangrove/mangrove/MemorySlidingWindowLog$KeyLog" [("com/example/mangrove/mangrove/MemorySlidingWindowLog$KeyLog", "entries", "[J", (.ref ea3)), ("com/example/mangrove/mangrove/MemorySlidingWindowLog$KeyLog", "size", "I", (.int (1 : Nat).toInt32)), ("com/example/mangrove/mangrove/MemorySlidingWindowLog$KeyLog", "first", "I", (.int f3.toInt32))]) :: F3) 75 #[.val (.int i0), .val (.long i1), .second, .val (.long i2), .second, .val (.int cN.toInt32), .val (.int (3 : Int32)), .val (.int (1 : Int32)), .val (.int (2 : Int32)), .val (.long lim), .second, .val (.ref a1), .unset, .unset, .unset, .unset, .unset] []
  have Kes3 : KL es3 f3 1 ([i1] : List Int64) := Kes3'
  refine s_iload H at_75 rfl (pc' := 77) rfl ?_
  refine s_iconst H at_77 (z := (1 : Int32)) (by decide) (pc' := 78) rfl ?_
  refine s_icmp H at_78 (py := 91) (pc' := 81) q_le (by decide) rfl (fun c78 => ?_) (fun c78 => ?_)
  · exact absurd c78 (by decide)
  · refine s_aload H at_81 rfl rfl (pc' := 83) rfl ?_
    refine s_lloadn H at_83 rfl (pc' := 84) rfl ?_
    refine s_lconst H at_84 (z := (1 : Int64)) (by decide) (pc' := 85) rfl ?_
    refine s_ladd H at_85 (pc' := 86) rfl ?_
    refine s_lload H at_86 rfl (pc' := 88) rfl ?_
    refine s_virtual H (met_ka H.tb a1 ea3 es3 ([i1] : List Int64) f3 1 (i1 + (1 : Int64)) lim Kes3 (by decide) (by omega)) at_88 (i := 1) rfl (mem (i := 17) rfl) (mem (i := 18) rfl) (mem (i := 20) rfl) (mem (i := 19) rfl) (mem (i := 7) rfl) (mem (i := 21) rfl) (by decide) pd_4 rfl (rest := []) rfl rfl (by decide) (Nat.le_of_ble_eq_true rfl) (cn' := 4) (sn' := 26) rfl rfl (by decide) (by decide) (pc' := 91) rfl (fun _ _ hq => ?_)
    obtain ⟨ea4, es4, f4, F4, Kes4', rfl, rfl⟩ := hq
    show Go Z k 4 26 ((ea4, ArL Z es4) :: (a1, Obj Z "com/example/mangrove/mangrove/MemorySlidingWindowLog$KeyLog" [("com/example/mangrove/mangrove/MemorySlidingWindowLog$KeyLog", "entries", "[J", (.ref ea4)), ("com/example/mangrove/mangrove/MemorySlidingWindowLog$KeyLog", "size", "I", (.int (2 : Nat).toInt32)), ("com/example/mangrove/mangrove/MemorySlidingWindowLog$KeyLog", "first", "I", (.int f4.toInt32))]) :: F4) 91 #[.val (.int i0), .val (.long i1), .second, .val (.long i2), .second, .val (.int cN.toInt32), .val (.int (3 : Int32)), .val (.int (1 : Int32)), .val (.int (2 : Int32)), .val (.long lim), .second, .val (.ref a1), .unset, .unset, .unset, .unset, .unset] []
    have Kes4 : KL es4 f4 2 ([i1, (i1 + (1 : Int64))] : List Int64) := Kes4'
    refine s_iload H at_91 rfl (pc' := 93) rfl ?_
    refine s_iconst H at_93 (z := (2 : Int32)) (by decide) (pc' := 94) rfl ?_
    refine s_icmp H at_94 (py := 109) (pc' := 97) q_le (by decide) rfl (fun c94 => ?_) (fun c94 => ?_)
    · exact absurd c94 (by decide)
    · refine s_aload H at_97 rfl rfl (pc' := 99) rfl ?_
      refine s_lloadn H at_99 rfl (pc' := 100) rfl ?_
      refine s_ldc2 H at_100 (mem (i := 49) rfl) (pc' := 103) rfl ?_
      refine s_ladd H at_103 (pc' := 104) rfl ?_
      refine s_lload H at_104 rfl (pc' := 106) rfl ?_
      refine s_virtual H (met_ka H.tb a1 ea4 es4 ([i1, (i1 + (1 : Int64))] : List Int64) f4 2 (i1 + (2 : Int64)) lim Kes4 (by decide) (by omega)) at_106 (i := 1) rfl (mem (i := 17) rfl) (mem (i := 18) rfl) (mem (i := 20) rfl) (mem (i := 19) rfl) (mem (i := 7) rfl) (mem (i := 21) rfl) (by decide) pd_4 rfl (rest := []) rfl rfl (by decide) (Nat.le_of_ble_eq_true rfl) (cn' := 5) (sn' := 36) rfl rfl (by decide) (by decide) (pc' := 109) rfl (fun _ _ hq => ?_)
      obtain ⟨ea5, es5, f5, F5, Kes5', rfl, rfl⟩ := hq
      show Go Z k 5 36 ((ea5, ArL Z es5) :: (a1, Obj Z "com/example/mangrove/mangrove/MemorySlidingWindowLog$KeyLog" [("com/example/mangrove/mangrove/MemorySlidingWindowLog$KeyLog", "entries", "[J", (.ref ea5)), ("com/example/mangrove/mangrove/MemorySlidingWindowLog$KeyLog", "size", "I", (.int (3 : Nat).toInt32)), ("com/example/mangrove/mangrove/MemorySlidingWindowLog$KeyLog", "first", "I", (.int f5.toInt32))]) :: F5) 109 #[.val (.int i0), .val (.long i1), .second, .val (.long i2), .second, .val (.int cN.toInt32), .val (.int (3 : Int32)), .val (.int (1 : Int32)), .val (.int (2 : Int32)), .val (.long lim), .second, .val (.ref a1), .unset, .unset, .unset, .unset, .unset] []
      have Kes5 : KL es5 f5 3 ([i1, (i1 + (1 : Int64)), (i1 + (2 : Int64))] : List Int64) := Kes5'
      refine s_lloadn H at_109 rfl (pc' := 110) rfl ?_
      refine s_iload H at_110 rfl (pc' := 112) rfl ?_
      refine s_iconst H at_112 (z := (1 : Int32)) (by decide) (pc' := 113) rfl ?_
      refine s_isub H at_113 (pc' := 114) rfl ?_
      refine s_i2l H at_114 (pc' := 115) rfl ?_
      refine s_ladd H at_115 (pc' := 116) rfl ?_
      refine s_lstore H at_116 (L' := fun z => #[.val (.int i0), .val (.long i1), .second, .val (.long i2), .second, .val (.int cN.toInt32), .val (.int (3 : Int32)), .val (.int (1 : Int32)), .val (.int (2 : Int32)), .val (.long lim), .second, .val (.ref a1), .val (.long z), .second, .unset, .unset, .unset]) (fun _ => rfl) (pc' := 118) rfl (fun af h_af => ?_)
      refine s_aload H at_118 rfl rfl (pc' := 120) rfl ?_
      refine s_virtual H (met_kn H.tb a1 ea5 es5 ([i1, (i1 + (1 : Int64))] : List Int64) f5 3 (i1 + (2 : Int64)) Kes5) at_120 (i := 1) rfl (mem (i := 26) rfl) (mem (i := 27) rfl) (mem (i := 29) rfl) (mem (i := 28) rfl) (mem (i := 7) rfl) (mem (i := 30) rfl) (by decide) pd_5 rfl (rest := []) rfl rfl (by decide) (Nat.le_of_ble_eq_true rfl) (cn' := 5) (sn' := 36) rfl rfl (by decide) (by decide) (pc' := 123) rfl (fun _ _ hq => ?_)
      obtain ⟨rfl, rfl⟩ := hq
      show Go Z k 5 36 ((ea5, ArL Z es5) :: (a1, Obj Z "com/example/mangrove/mangrove/MemorySlidingWindowLog$KeyLog" [("com/example/mangrove/mangrove/MemorySlidingWindowLog$KeyLog", "entries", "[J", (.ref ea5)), ("com/example/mangrove/mangrove/MemorySlidingWindowLog$KeyLog", "size", "I", (.int (3 : Nat).toInt32)), ("com/example/mangrove/mangrove/MemorySlidingWindowLog$KeyLog", "first", "I", (.int f5.toInt32))]) :: F5) 123 #[.val (.int i0), .val (.long i1), .second, .val (.long i2), .second, .val (.int cN.toInt32), .val (.int (3 : Int32)), .val (.int (1 : Int32)), .val (.int (2 : Int32)), .val (.long lim), .second, .val (.ref a1), .val (.long af), .second, .unset, .unset, .unset] [(.long (i1 + (2 : Int64)))]
      refine s_lload H at_123 rfl (pc' := 125) rfl ?_
      refine s_lcmp H at_125 (pc' := 126) rfl ?_
      refine s_if H at_126 (py := 133) (pc' := 129) l_ne (by decide) rfl (fun c126 => ?_) (fun c126 => ?_)
      · exact absurd (by rw [h_af, show (((3 : Int32) - (1 : Int32)).toInt64) = 2 from by decide]) c126
      · refine s_iconst H at_129 (z := (1 : Int32)) (by decide) (pc' := 130) rfl ?_
        refine s_goto H at_130 (pc' := 134) (by decide) ?_
        refine s_istore H at_134 (L' := fun z => #[.val (.int i0), .val (.long i1), .second, .val (.long i2), .second, .val (.int cN.toInt32), .val (.int (3 : Int32)), .val (.int (1 : Int32)), .val (.int (2 : Int32)), .val (.long lim), .second, .val (.ref a1), .val (.long af), .second, .val (.int z), .unset, .unset]) (fun _ => rfl) (pc' := 136) rfl (fun z0 hz => ?_)
        subst z0
        refine s_iload H at_136 rfl (pc' := 138) rfl ?_
        refine s_if H at_138 (py := 146) (pc' := 141) z_le (by decide) rfl (fun c138 => ?_) (fun c138 => ?_)
        · exact absurd c138 (by decide)
        · refine s_aload H at_141 rfl rfl (pc' := 143) rfl ?_
          refine s_virtual H (met_kr H.tb a1 ea5 es5 ([(i1 + (1 : Int64)), (i1 + (2 : Int64))] : List Int64) f5 3 i1 Kes5) at_143 (i := 1) rfl (mem (i := 50) rfl) (mem (i := 51) rfl) (mem (i := 53) rfl) (mem (i := 52) rfl) (mem (i := 7) rfl) (mem (i := 54) rfl) (by decide) pd_9 rfl (rest := []) rfl rfl (by decide) (Nat.le_of_ble_eq_true rfl) (cn' := 5) (sn' := 36) rfl rfl (by decide) (by decide) (pc' := 146) rfl (fun _ _ hq => ?_)
          obtain ⟨f6, Kf6', rfl, rfl⟩ := hq
          show Go Z k 5 36 ((ea5, ArL Z es5) :: (a1, Obj Z "com/example/mangrove/mangrove/MemorySlidingWindowLog$KeyLog" [("com/example/mangrove/mangrove/MemorySlidingWindowLog$KeyLog", "entries", "[J", (.ref ea5)), ("com/example/mangrove/mangrove/MemorySlidingWindowLog$KeyLog", "size", "I", (.int (2 : Nat).toInt32)), ("com/example/mangrove/mangrove/MemorySlidingWindowLog$KeyLog", "first", "I", (.int f6.toInt32))]) :: F5) 146 #[.val (.int i0), .val (.long i1), .second, .val (.long i2), .second, .val (.int cN.toInt32), .val (.int (3 : Int32)), .val (.int (1 : Int32)), .val (.int (2 : Int32)), .val (.long lim), .second, .val (.ref a1), .val (.long af), .second, .val (.int (1 : Int32)), .unset, .unset] []
          have Kf6 : KL es5 f6 2 ([(i1 + (1 : Int64)), (i1 + (2 : Int64))] : List Int64) := Kf6'
          refine s_iload H at_146 rfl (pc' := 148) rfl ?_
          refine s_iconst H at_148 (z := (1 : Int32)) (by decide) (pc' := 149) rfl ?_
          refine s_icmp H at_149 (py := 157) (pc' := 152) q_le (by decide) rfl (fun c149 => ?_) (fun c149 => ?_)
          · refine s_iload H at_157 rfl (pc' := 159) rfl ?_
            refine s_if H at_159 (py := 177) (pc' := 162) z_eq (by decide) rfl (fun c159 => ?_) (fun c159 => ?_)
            · exact absurd c159 (by decide)
            · refine s_aload H at_162 rfl rfl (pc' := 164) rfl ?_
              refine s_virtual H (met_kn H.tb a1 ea5 es5 ([(i1 + (1 : Int64))] : List Int64) f6 2 (i1 + (2 : Int64)) Kf6) at_164 (i := 1) rfl (mem (i := 26) rfl) (mem (i := 27) rfl) (mem (i := 29) rfl) (mem (i := 28) rfl) (mem (i := 7) rfl) (mem (i := 30) rfl) (by decide) pd_5 rfl (rest := []) rfl rfl (by decide) (Nat.le_of_ble_eq_true rfl) (cn' := 5) (sn' := 36) rfl rfl (by decide) (by decide) (pc' := 167) rfl (fun _ _ hq => ?_)
              obtain ⟨rfl, rfl⟩ := hq
              show Go Z k 5 36 ((ea5, ArL Z es5) :: (a1, Obj Z "com/example/mangrove/mangrove/MemorySlidingWindowLog$KeyLog" [("com/example/mangrove/mangrove/MemorySlidingWindowLog$KeyLog", "entries", "[J", (.ref ea5)), ("com/example/mangrove/mangrove/MemorySlidingWindowLog$KeyLog", "size", "I", (.int (2 : Nat).toInt32)), ("com/example/mangrove/mangrove/MemorySlidingWindowLog$KeyLog", "first", "I", (.int f6.toInt32))]) :: F5) 167 #[.val (.int i0), .val (.long i1), .second, .val (.long i2), .second, .val (.int cN.toInt32), .val (.int (3 : Int32)), .val (.int (1 : Int32)), .val (.int (2 : Int32)), .val (.long lim), .second, .val (.ref a1), .val (.long af), .second, .val (.int (1 : Int32)), .unset, .unset] [(.long (i1 + (2 : Int64)))]
              refine s_lload H at_167 rfl (pc' := 169) rfl ?_
              refine s_lcmp H at_169 (pc' := 170) rfl ?_
              refine s_if H at_170 (py := 177) (pc' := 173) l_ne (by decide) rfl (fun c170 => ?_) (fun c170 => ?_)
              · exact absurd (by rw [h_af, show (((3 : Int32) - (1 : Int32)).toInt64) = 2 from by decide]) c170
              · refine s_iconst H at_173 (z := (1 : Int32)) (by decide) (pc' := 174) rfl ?_
                refine s_goto H at_174 (pc' := 178) (by decide) ?_
                refine s_istore H at_178 (L' := fun z => #[.val (.int i0), .val (.long i1), .second, .val (.long i2), .second, .val (.int cN.toInt32), .val (.int (3 : Int32)), .val (.int (1 : Int32)), .val (.int (2 : Int32)), .val (.long lim), .second, .val (.ref a1), .val (.long af), .second, .val (.int z), .unset, .unset]) (fun _ => rfl) (pc' := 180) rfl (fun z0 hz => ?_)
                subst z0
                refine s_iload H at_180 rfl (pc' := 182) rfl ?_
                refine s_if H at_182 (py := 197) (pc' := 185) z_le (by decide) rfl (fun c182 => ?_) (fun c182 => ?_)
                · exact absurd c182 (by decide)
                · refine s_aload H at_185 rfl rfl (pc' := 187) rfl ?_
                  refine s_lloadn H at_187 rfl (pc' := 188) rfl ?_
                  refine s_ldc2 H at_188 (mem (i := 46) rfl) (pc' := 191) rfl ?_
                  refine s_ladd H at_191 (pc' := 192) rfl ?_
                  refine s_lload H at_192 rfl (pc' := 194) rfl ?_
                  refine s_virtual H (met_ka H.tb a1 ea5 es5 ([(i1 + (1 : Int64)), (i1 + (2 : Int64))] : List Int64) f6 2 (i1 + (3 : Int64)) lim Kf6 (by decide) (by omega)) at_194 (i := 1) rfl (mem (i := 17) rfl) (mem (i := 18) rfl) (mem (i := 20) rfl) (mem (i := 19) rfl) (mem (i := 7) rfl) (mem (i := 21) rfl) (by decide) pd_4 rfl (rest := []) rfl rfl (by decide) (Nat.le_of_ble_eq_true rfl) (cn' := 6) (sn' := 46) rfl rfl (by decide) (by decide) (pc' := 197) rfl (fun _ _ hq => ?_)
                  obtain ⟨ea7, es7, f7, F7, Kes7', rfl, rfl⟩ := hq
                  show Go Z k 6 46 ((ea7, ArL Z es7) :: (a1, Obj Z "com/example/mangrove/mangrove/MemorySlidingWindowLog$KeyLog" [("com/example/mangrove/mangrove/MemorySlidingWindowLog$KeyLog", "entries", "[J", (.ref ea7)), ("com/example/mangrove/mangrove/MemorySlidingWindowLog$KeyLog", "size", "I", (.int (3 : Nat).toInt32)), ("com/example/mangrove/mangrove/MemorySlidingWindowLog$KeyLog", "first", "I", (.int f7.toInt32))]) :: F7) 197 #[.val (.int i0), .val (.long i1), .second, .val (.long i2), .second, .val (.int cN.toInt32), .val (.int (3 : Int32)), .val (.int (1 : Int32)), .val (.int (2 : Int32)), .val (.long lim), .second, .val (.ref a1), .val (.long af), .second, .val (.int (1 : Int32)), .unset, .unset] []
                  have Kes7 : KL es7 f7 3 ([(i1 + (1 : Int64)), (i1 + (2 : Int64)), (i1 + (3 : Int64))] : List Int64) := Kes7'
                  refine s_iload H at_197 rfl (pc' := 199) rfl ?_
                  refine s_iconst H at_199 (z := (1 : Int32)) (by decide) (pc' := 200) rfl ?_
                  refine s_icmp H at_200 (py := 215) (pc' := 203) q_le (by decide) rfl (fun c200 => ?_) (fun c200 => ?_)
                  · exact absurd c200 (by decide)
                  · refine s_aload H at_203 rfl rfl (pc' := 205) rfl ?_
                    refine s_lloadn H at_205 rfl (pc' := 206) rfl ?_
                    refine s_ldc2 H at_206 (mem (i := 47) rfl) (pc' := 209) rfl ?_
                    refine s_ladd H at_209 (pc' := 210) rfl ?_
                    refine s_lload H at_210 rfl (pc' := 212) rfl ?_
                    refine s_virtual H (met_ka H.tb a1 ea7 es7 ([(i1 + (1 : Int64)), (i1 + (2 : Int64)), (i1 + (3 : Int64))] : List Int64) f7 3 (i1 + (4 : Int64)) lim Kes7 (by decide) (by omega)) at_212 (i := 1) rfl (mem (i := 17) rfl) (mem (i := 18) rfl) (mem (i := 20) rfl) (mem (i := 19) rfl) (mem (i := 7) rfl) (mem (i := 21) rfl) (by decide) pd_4 rfl (rest := []) rfl rfl (by decide) (Nat.le_of_ble_eq_true rfl) (cn' := 7) (sn' := 56) rfl rfl (by decide) (by decide) (pc' := 215) rfl (fun _ _ hq => ?_)
                    obtain ⟨ea8, es8, f8, F8, Kes8', rfl, rfl⟩ := hq
                    show Go Z k 7 56 ((ea8, ArL Z es8) :: (a1, Obj Z "com/example/mangrove/mangrove/MemorySlidingWindowLog$KeyLog" [("com/example/mangrove/mangrove/MemorySlidingWindowLog$KeyLog", "entries", "[J", (.ref ea8)), ("com/example/mangrove/mangrove/MemorySlidingWindowLog$KeyLog", "size", "I", (.int (4 : Nat).toInt32)), ("com/example/mangrove/mangrove/MemorySlidingWindowLog$KeyLog", "first", "I", (.int f8.toInt32))]) :: F8) 215 #[.val (.int i0), .val (.long i1), .second, .val (.long i2), .second, .val (.int cN.toInt32), .val (.int (3 : Int32)), .val (.int (1 : Int32)), .val (.int (2 : Int32)), .val (.long lim), .second, .val (.ref a1), .val (.long af), .second, .val (.int (1 : Int32)), .unset, .unset] []
                    have Kes8 : KL es8 f8 4 ([(i1 + (1 : Int64)), (i1 + (2 : Int64)), (i1 + (3 : Int64)), (i1 + (4 : Int64))] : List Int64) := Kes8'
                    refine s_iload H at_215 rfl (pc' := 217) rfl ?_
                    refine s_iconst H at_217 (z := (2 : Int32)) (by decide) (pc' := 218) rfl ?_
                    refine s_icmp H at_218 (py := 233) (pc' := 221) q_le (by decide) rfl (fun c218 => ?_) (fun c218 => ?_)
                    · refine s_iload H at_233 rfl (pc' := 235) rfl ?_
                      refine s_if H at_235 (py := 243) (pc' := 238) z_ne (by decide) rfl (fun c235 => ?_) (fun c235 => ?_)
                      · refine s_lloadn H at_243 rfl (pc' := 244) rfl ?_
                        refine s_iconst H at_244 (z := (2 : Int32)) (by decide) (pc' := 245) rfl ?_
                        refine s_iload H at_245 rfl (pc' := 247) rfl ?_
                        refine s_iadd H at_247 (pc' := 248) rfl ?_
                        refine s_i2l H at_248 (pc' := 249) rfl ?_
                        refine s_ladd H at_249 (pc' := 250) rfl ?_
                        refine s_lstore H at_250 (L' := fun z => #[.val (.int i0), .val (.long i1), .second, .val (.long i2), .second, .val (.int cN.toInt32), .val (.int (3 : Int32)), .val (.int (1 : Int32)), .val (.int (2 : Int32)), .val (.long lim), .second, .val (.ref a1), .val (.long af), .second, .val (.int (1 : Int32)), .val (.long z), .second]) (fun _ => rfl) (pc' := 252) rfl (fun la h_la => ?_)
                        refine s_iload H at_252 rfl (pc' := 254) rfl ?_
                        refine s_if H at_254 (py := 272) (pc' := 257) z_eq (by decide) rfl (fun c254 => ?_) (fun c254 => ?_)
                        · exact absurd c254 (by decide)
                        · refine s_aload H at_257 rfl rfl (pc' := 259) rfl ?_
                          refine s_virtual H (met_kn H.tb a1 ea8 es8 ([(i1 + (1 : Int64)), (i1 + (2 : Int64)), (i1 + (3 : Int64))] : List Int64) f8 4 (i1 + (4 : Int64)) Kes8) at_259 (i := 1) rfl (mem (i := 26) rfl) (mem (i := 27) rfl) (mem (i := 29) rfl) (mem (i := 28) rfl) (mem (i := 7) rfl) (mem (i := 30) rfl) (by decide) pd_5 rfl (rest := []) rfl rfl (by decide) (Nat.le_of_ble_eq_true rfl) (cn' := 7) (sn' := 56) rfl rfl (by decide) (by decide) (pc' := 262) rfl (fun _ _ hq => ?_)
                          obtain ⟨rfl, rfl⟩ := hq
                          show Go Z k 7 56 ((ea8, ArL Z es8) :: (a1, Obj Z "com/example/mangrove/mangrove/MemorySlidingWindowLog$KeyLog" [("com/example/mangrove/mangrove/MemorySlidingWindowLog$KeyLog", "entries", "[J", (.ref ea8)), ("com/example/mangrove/mangrove/MemorySlidingWindowLog$KeyLog", "size", "I", (.int (4 : Nat).toInt32)), ("com/example/mangrove/mangrove/MemorySlidingWindowLog$KeyLog", "first", "I", (.int f8.toInt32))]) :: F8) 262 #[.val (.int i0), .val (.long i1), .second, .val (.long i2), .second, .val (.int cN.toInt32), .val (.int (3 : Int32)), .val (.int (1 : Int32)), .val (.int (2 : Int32)), .val (.long lim), .second, .val (.ref a1), .val (.long af), .second, .val (.int (1 : Int32)), .val (.long la), .second] [(.long (i1 + (4 : Int64)))]
                          refine s_lload H at_262 rfl (pc' := 264) rfl ?_
                          refine s_lcmp H at_264 (pc' := 265) rfl ?_
                          refine s_if H at_265 (py := 272) (pc' := 268) l_ne (by decide) rfl (fun c265 => ?_) (fun c265 => ?_)
                          · exact absurd (by rw [h_la, show (((2 : Int32) + (2 : Int32)).toInt64) = 4 from by decide]) c265
                          · refine s_iconst H at_268 (z := (1 : Int32)) (by decide) (pc' := 269) rfl ?_
                            refine s_goto H at_269 (pc' := 273) (by decide) ?_
                            exact s_iret H at_273 rfl (by simp) (by decide) (by decide) (rfl)
                      · exact absurd c235 (by decide)
                    · exact absurd c218 (by decide)
          · exact absurd c149 (by decide)
set_option maxRecDepth 65536 in
set_option maxHeartbeats 40000000 in
theorem s42_3_1_3 {Z : State} {k : Cx} {i0 : Int32} {i1 i2 : Int64} (cN : Nat) (H : Ok Z k room_1 (LQ) x code maxLocals ret) (h0 : 0 < cN) (hc : cN ≤ 3) : Go Z k 0 0 ([] : Hp) 42 #[.val (.int i0), .val (.long i1), .second, .val (.long i2), .second, .val (.int cN.toInt32), .val (.int (3 : Int32)), .val (.int (1 : Int32)), .val (.int (3 : Int32)), .unset, .unset, .unset, .unset, .unset, .unset, .unset, .unset] [] := by
  refine s_iload H at_42 rfl (pc' := 44) rfl ?_
  refine s_iload H at_44 rfl (pc' := 46) rfl ?_
  refine s_iadd H at_46 (pc' := 47) rfl ?_
  refine s_i2l H at_47 (pc' := 48) rfl ?_
  refine s_lloadn H at_48 rfl (pc' := 49) rfl ?_
  refine s_ldc2 H at_49 (mem (i := 4) rfl) (pc' := 52) rfl ?_
  refine s_land H at_52 (pc' := 53) rfl ?_
  refine s_ladd H at_53 (pc' := 54) rfl ?_
  refine s_lstore H at_54 (L' := fun z => #[.val (.int i0), .val (.long i1), .second, .val (.long i2), .second, .val (.int cN.toInt32), .val (.int (3 : Int32)), .val (.int (1 : Int32)), .val (.int (3 : Int32)), .val (.long z), .second, .unset, .unset, .unset, .unset, .unset, .unset]) (fun _ => rfl) (pc' := 56) rfl (fun lim h_lim => ?_)
  have hl : 6 ≤ lim.toInt := by
    have m := c_maskL i2 4611686018427387903 62 (by decide) (by decide)
    have s := c_ladd ((((3 : Int32) + (3 : Int32)).toInt64)) (i2 &&& 4611686018427387903)
    rw [← h_lim, show ((((3 : Int32) + (3 : Int32)).toInt64)).toInt = 6 from by decide] at s
    have rl := rng64 lim
    omega
  refine s_new H (C := "com/example/mangrove/mangrove/MemorySlidingWindowLog$KeyLog") [("com/example/mangrove/mangrove/MemorySlidingWindowLog$KeyLog", "entries", "[J", .null), ("com/example/mangrove/mangrove/MemorySlidingWindowLog$KeyLog", "size", "I", (.int (0 : Int32))), ("com/example/mangrove/mangrove/MemorySlidingWindowLog$KeyLog", "first", "I", (.int (0 : Int32)))] at_56 (mem (i := 5) rfl) (mem (i := 6) rfl) (mem (i := 7) rfl) (allC ⟨Or.inl (mem (i := 16) rfl), (.array .long), by decide, rfl⟩ (allC ⟨Or.inl (mem (i := 23) rfl), .int, by decide, rfl⟩ (allC ⟨Or.inl (mem (i := 25) rfl), .int, by decide, rfl⟩ allN))) (by decide) (cn' := 1) (sn' := 3) rfl rfl (by decide) (by decide) (pc' := 59) rfl (fun a1 => ?_)
  refine s_dup H at_59 rfl (pc' := 60) rfl ?_
  refine s_iload H at_60 rfl (pc' := 62) rfl ?_
  refine s_init H (met_ki H.tb a1 cN hc) at_62 rfl (mem (i := 8) rfl) (mem (i := 9) rfl) (mem (i := 7) rfl) (mem (i := 10) rfl) (by decide) pd_2 rfl (rest := [(.ref a1)]) rfl rfl (by decide) (Nat.le_of_ble_eq_true rfl) (cn' := 2) (sn' := 6) rfl rfl (by decide) (by decide) (pc' := 65) rfl (fun _ _ hq => ?_)
  obtain ⟨ea, rfl, rfl⟩ := hq
  show Go Z k 2 6 ((ea, ArL Z (List.replicate cN 0)) :: (a1, Obj Z "com/example/mangrove/mangrove/MemorySlidingWindowLog$KeyLog" [("com/example/mangrove/mangrove/MemorySlidingWindowLog$KeyLog", "entries", "[J", (.ref ea)), ("com/example/mangrove/mangrove/MemorySlidingWindowLog$KeyLog", "size", "I", (.int (0 : Nat).toInt32)), ("com/example/mangrove/mangrove/MemorySlidingWindowLog$KeyLog", "first", "I", (.int (0 : Nat).toInt32))]) :: []) 65 #[.val (.int i0), .val (.long i1), .second, .val (.long i2), .second, .val (.int cN.toInt32), .val (.int (3 : Int32)), .val (.int (1 : Int32)), .val (.int (3 : Int32)), .val (.long lim), .second, .unset, .unset, .unset, .unset, .unset, .unset] [(.ref a1)]
  obtain ⟨es2, he, les2, Kes2⟩ : ∃ es : List Int64, es = List.replicate cN 0 ∧ es.length = cN ∧ KL es 0 0 [] := ⟨_, rfl, by simp, KL.new (by omega) (by omega)⟩
  rw [← he]
  clear he
  show Go Z k 2 6 ((ea, ArL Z es2) :: (a1, Obj Z "com/example/mangrove/mangrove/MemorySlidingWindowLog$KeyLog" [("com/example/mangrove/mangrove/MemorySlidingWindowLog$KeyLog", "entries", "[J", (.ref ea)), ("com/example/mangrove/mangrove/MemorySlidingWindowLog$KeyLog", "size", "I", (.int (0 : Nat).toInt32)), ("com/example/mangrove/mangrove/MemorySlidingWindowLog$KeyLog", "first", "I", (.int (0 : Nat).toInt32))]) :: []) 65 #[.val (.int i0), .val (.long i1), .second, .val (.long i2), .second, .val (.int cN.toInt32), .val (.int (3 : Int32)), .val (.int (1 : Int32)), .val (.int (3 : Int32)), .val (.long lim), .second, .unset, .unset, .unset, .unset, .unset, .unset] [(.ref a1)]
  refine s_astore H at_65 (L' := #[.val (.int i0), .val (.long i1), .second, .val (.long i2), .second, .val (.int cN.toInt32), .val (.int (3 : Int32)), .val (.int (1 : Int32)), .val (.int (3 : Int32)), .val (.long lim), .second, .val (.ref a1), .unset, .unset, .unset, .unset, .unset]) rfl rfl (pc' := 67) rfl ?_
  refine s_aload H at_67 rfl rfl (pc' := 69) rfl ?_
  refine s_lloadn H at_69 rfl (pc' := 70) rfl ?_
  refine s_lload H at_70 rfl (pc' := 72) rfl ?_
  refine s_virtual H (met_ka H.tb a1 ea es2 ([] : List Int64) (0 : Nat) 0 i1 lim Kes2 (by decide) (by omega)) at_72 (i := 1) rfl (mem (i := 17) rfl) (mem (i := 18) rfl) (mem (i := 20) rfl) (mem (i := 19) rfl) (mem (i := 7) rfl) (mem (i := 21) rfl) (by decide) pd_4 rfl (rest := []) rfl rfl (by decide) (Nat.le_of_ble_eq_true rfl) (cn' := 3) (sn' := 16) rfl rfl (by decide) (by decide) (pc' := 75) rfl (fun _ _ hq => ?_)
  obtain ⟨ea3, es3, f3, F3, Kes3', rfl, rfl⟩ := hq
  show Go Z k 3 16 ((ea3, ArL Z es3) :: (a1, Obj Z "com/example/mangrove/mangrove/MemorySlidingWindowLog$KeyLog" [("com/example/mangrove/mangrove/MemorySlidingWindowLog$KeyLog", "entries", "[J", (.ref ea3)), ("com/example/mangrove/mangrove/MemorySlidingWindowLog$KeyLog", "size", "I", (.int (1 : Nat).toInt32)), ("com/example/mangrove/mangrove/MemorySlidingWindowLog$KeyLog", "first", "I", (.int f3.toInt32))]) :: F3) 75 #[.val (.int i0), .val (.long i1), .second, .val (.long i2), .second, .val (.int cN.toInt32), .val (.int (3 : Int32)), .val (.int (1 : Int32)), .val (.int (3 : Int32)), .val (.long lim), .second, .val (.ref a1), .unset, .unset, .unset, .unset, .unset] []
  have Kes3 : KL es3 f3 1 ([i1] : List Int64) := Kes3'
  refine s_iload H at_75 rfl (pc' := 77) rfl ?_
  refine s_iconst H at_77 (z := (1 : Int32)) (by decide) (pc' := 78) rfl ?_
  refine s_icmp H at_78 (py := 91) (pc' := 81) q_le (by decide) rfl (fun c78 => ?_) (fun c78 => ?_)
  · exact absurd c78 (by decide)
  · refine s_aload H at_81 rfl rfl (pc' := 83) rfl ?_
    refine s_lloadn H at_83 rfl (pc' := 84) rfl ?_
    refine s_lconst H at_84 (z := (1 : Int64)) (by decide) (pc' := 85) rfl ?_
    refine s_ladd H at_85 (pc' := 86) rfl ?_
    refine s_lload H at_86 rfl (pc' := 88) rfl ?_
    refine s_virtual H (met_ka H.tb a1 ea3 es3 ([i1] : List Int64) f3 1 (i1 + (1 : Int64)) lim Kes3 (by decide) (by omega)) at_88 (i := 1) rfl (mem (i := 17) rfl) (mem (i := 18) rfl) (mem (i := 20) rfl) (mem (i := 19) rfl) (mem (i := 7) rfl) (mem (i := 21) rfl) (by decide) pd_4 rfl (rest := []) rfl rfl (by decide) (Nat.le_of_ble_eq_true rfl) (cn' := 4) (sn' := 26) rfl rfl (by decide) (by decide) (pc' := 91) rfl (fun _ _ hq => ?_)
    obtain ⟨ea4, es4, f4, F4, Kes4', rfl, rfl⟩ := hq
    show Go Z k 4 26 ((ea4, ArL Z es4) :: (a1, Obj Z "com/example/mangrove/mangrove/MemorySlidingWindowLog$KeyLog" [("com/example/mangrove/mangrove/MemorySlidingWindowLog$KeyLog", "entries", "[J", (.ref ea4)), ("com/example/mangrove/mangrove/MemorySlidingWindowLog$KeyLog", "size", "I", (.int (2 : Nat).toInt32)), ("com/example/mangrove/mangrove/MemorySlidingWindowLog$KeyLog", "first", "I", (.int f4.toInt32))]) :: F4) 91 #[.val (.int i0), .val (.long i1), .second, .val (.long i2), .second, .val (.int cN.toInt32), .val (.int (3 : Int32)), .val (.int (1 : Int32)), .val (.int (3 : Int32)), .val (.long lim), .second, .val (.ref a1), .unset, .unset, .unset, .unset, .unset] []
    have Kes4 : KL es4 f4 2 ([i1, (i1 + (1 : Int64))] : List Int64) := Kes4'
    refine s_iload H at_91 rfl (pc' := 93) rfl ?_
    refine s_iconst H at_93 (z := (2 : Int32)) (by decide) (pc' := 94) rfl ?_
    refine s_icmp H at_94 (py := 109) (pc' := 97) q_le (by decide) rfl (fun c94 => ?_) (fun c94 => ?_)
    · exact absurd c94 (by decide)
    · refine s_aload H at_97 rfl rfl (pc' := 99) rfl ?_
      refine s_lloadn H at_99 rfl (pc' := 100) rfl ?_
      refine s_ldc2 H at_100 (mem (i := 49) rfl) (pc' := 103) rfl ?_
      refine s_ladd H at_103 (pc' := 104) rfl ?_
      refine s_lload H at_104 rfl (pc' := 106) rfl ?_
      refine s_virtual H (met_ka H.tb a1 ea4 es4 ([i1, (i1 + (1 : Int64))] : List Int64) f4 2 (i1 + (2 : Int64)) lim Kes4 (by decide) (by omega)) at_106 (i := 1) rfl (mem (i := 17) rfl) (mem (i := 18) rfl) (mem (i := 20) rfl) (mem (i := 19) rfl) (mem (i := 7) rfl) (mem (i := 21) rfl) (by decide) pd_4 rfl (rest := []) rfl rfl (by decide) (Nat.le_of_ble_eq_true rfl) (cn' := 5) (sn' := 36) rfl rfl (by decide) (by decide) (pc' := 109) rfl (fun _ _ hq => ?_)
      obtain ⟨ea5, es5, f5, F5, Kes5', rfl, rfl⟩ := hq
      show Go Z k 5 36 ((ea5, ArL Z es5) :: (a1, Obj Z "com/example/mangrove/mangrove/MemorySlidingWindowLog$KeyLog" [("com/example/mangrove/mangrove/MemorySlidingWindowLog$KeyLog", "entries", "[J", (.ref ea5)), ("com/example/mangrove/mangrove/MemorySlidingWindowLog$KeyLog", "size", "I", (.int (3 : Nat).toInt32)), ("com/example/mangrove/mangrove/MemorySlidingWindowLog$KeyLog", "first", "I", (.int f5.toInt32))]) :: F5) 109 #[.val (.int i0), .val (.long i1), .second, .val (.long i2), .second, .val (.int cN.toInt32), .val (.int (3 : Int32)), .val (.int (1 : Int32)), .val (.int (3 : Int32)), .val (.long lim), .second, .val (.ref a1), .unset, .unset, .unset, .unset, .unset] []
      have Kes5 : KL es5 f5 3 ([i1, (i1 + (1 : Int64)), (i1 + (2 : Int64))] : List Int64) := Kes5'
      refine s_lloadn H at_109 rfl (pc' := 110) rfl ?_
      refine s_iload H at_110 rfl (pc' := 112) rfl ?_
      refine s_iconst H at_112 (z := (1 : Int32)) (by decide) (pc' := 113) rfl ?_
      refine s_isub H at_113 (pc' := 114) rfl ?_
      refine s_i2l H at_114 (pc' := 115) rfl ?_
      refine s_ladd H at_115 (pc' := 116) rfl ?_
      refine s_lstore H at_116 (L' := fun z => #[.val (.int i0), .val (.long i1), .second, .val (.long i2), .second, .val (.int cN.toInt32), .val (.int (3 : Int32)), .val (.int (1 : Int32)), .val (.int (3 : Int32)), .val (.long lim), .second, .val (.ref a1), .val (.long z), .second, .unset, .unset, .unset]) (fun _ => rfl) (pc' := 118) rfl (fun af h_af => ?_)
      refine s_aload H at_118 rfl rfl (pc' := 120) rfl ?_
      refine s_virtual H (met_kn H.tb a1 ea5 es5 ([i1, (i1 + (1 : Int64))] : List Int64) f5 3 (i1 + (2 : Int64)) Kes5) at_120 (i := 1) rfl (mem (i := 26) rfl) (mem (i := 27) rfl) (mem (i := 29) rfl) (mem (i := 28) rfl) (mem (i := 7) rfl) (mem (i := 30) rfl) (by decide) pd_5 rfl (rest := []) rfl rfl (by decide) (Nat.le_of_ble_eq_true rfl) (cn' := 5) (sn' := 36) rfl rfl (by decide) (by decide) (pc' := 123) rfl (fun _ _ hq => ?_)
      obtain ⟨rfl, rfl⟩ := hq
      show Go Z k 5 36 ((ea5, ArL Z es5) :: (a1, Obj Z "com/example/mangrove/mangrove/MemorySlidingWindowLog$KeyLog" [("com/example/mangrove/mangrove/MemorySlidingWindowLog$KeyLog", "entries", "[J", (.ref ea5)), ("com/example/mangrove/mangrove/MemorySlidingWindowLog$KeyLog", "size", "I", (.int (3 : Nat).toInt32)), ("com/example/mangrove/mangrove/MemorySlidingWindowLog$KeyLog", "first", "I", (.int f5.toInt32))]) :: F5) 123 #[.val (.int i0), .val (.long i1), .second, .val (.long i2), .second, .val (.int cN.toInt32), .val (.int (3 : Int32)), .val (.int (1 : Int32)), .val (.int (3 : Int32)), .val (.long lim), .second, .val (.ref a1), .val (.long af), .second, .unset, .unset, .unset] [(.long (i1 + (2 : Int64)))]
      refine s_lload H at_123 rfl (pc' := 125) rfl ?_
      refine s_lcmp H at_125 (pc' := 126) rfl ?_
      refine s_if H at_126 (py := 133) (pc' := 129) l_ne (by decide) rfl (fun c126 => ?_) (fun c126 => ?_)
      · exact absurd (by rw [h_af, show (((3 : Int32) - (1 : Int32)).toInt64) = 2 from by decide]) c126
      · refine s_iconst H at_129 (z := (1 : Int32)) (by decide) (pc' := 130) rfl ?_
        refine s_goto H at_130 (pc' := 134) (by decide) ?_
        refine s_istore H at_134 (L' := fun z => #[.val (.int i0), .val (.long i1), .second, .val (.long i2), .second, .val (.int cN.toInt32), .val (.int (3 : Int32)), .val (.int (1 : Int32)), .val (.int (3 : Int32)), .val (.long lim), .second, .val (.ref a1), .val (.long af), .second, .val (.int z), .unset, .unset]) (fun _ => rfl) (pc' := 136) rfl (fun z0 hz => ?_)
        subst z0
        refine s_iload H at_136 rfl (pc' := 138) rfl ?_
        refine s_if H at_138 (py := 146) (pc' := 141) z_le (by decide) rfl (fun c138 => ?_) (fun c138 => ?_)
        · exact absurd c138 (by decide)
        · refine s_aload H at_141 rfl rfl (pc' := 143) rfl ?_
          refine s_virtual H (met_kr H.tb a1 ea5 es5 ([(i1 + (1 : Int64)), (i1 + (2 : Int64))] : List Int64) f5 3 i1 Kes5) at_143 (i := 1) rfl (mem (i := 50) rfl) (mem (i := 51) rfl) (mem (i := 53) rfl) (mem (i := 52) rfl) (mem (i := 7) rfl) (mem (i := 54) rfl) (by decide) pd_9 rfl (rest := []) rfl rfl (by decide) (Nat.le_of_ble_eq_true rfl) (cn' := 5) (sn' := 36) rfl rfl (by decide) (by decide) (pc' := 146) rfl (fun _ _ hq => ?_)
          obtain ⟨f6, Kf6', rfl, rfl⟩ := hq
          show Go Z k 5 36 ((ea5, ArL Z es5) :: (a1, Obj Z "com/example/mangrove/mangrove/MemorySlidingWindowLog$KeyLog" [("com/example/mangrove/mangrove/MemorySlidingWindowLog$KeyLog", "entries", "[J", (.ref ea5)), ("com/example/mangrove/mangrove/MemorySlidingWindowLog$KeyLog", "size", "I", (.int (2 : Nat).toInt32)), ("com/example/mangrove/mangrove/MemorySlidingWindowLog$KeyLog", "first", "I", (.int f6.toInt32))]) :: F5) 146 #[.val (.int i0), .val (.long i1), .second, .val (.long i2), .second, .val (.int cN.toInt32), .val (.int (3 : Int32)), .val (.int (1 : Int32)), .val (.int (3 : Int32)), .val (.long lim), .second, .val (.ref a1), .val (.long af), .second, .val (.int (1 : Int32)), .unset, .unset] []
          have Kf6 : KL es5 f6 2 ([(i1 + (1 : Int64)), (i1 + (2 : Int64))] : List Int64) := Kf6'
          refine s_iload H at_146 rfl (pc' := 148) rfl ?_
          refine s_iconst H at_148 (z := (1 : Int32)) (by decide) (pc' := 149) rfl ?_
          refine s_icmp H at_149 (py := 157) (pc' := 152) q_le (by decide) rfl (fun c149 => ?_) (fun c149 => ?_)
          · refine s_iload H at_157 rfl (pc' := 159) rfl ?_
            refine s_if H at_159 (py := 177) (pc' := 162) z_eq (by decide) rfl (fun c159 => ?_) (fun c159 => ?_)
            · exact absurd c159 (by decide)
            · refine s_aload H at_162 rfl rfl (pc' := 164) rfl ?_
              refine s_virtual H (met_kn H.tb a1 ea5 es5 ([(i1 + (1 : Int64))] : List Int64) f6 2 (i1 + (2 : Int64)) Kf6) at_164 (i := 1) rfl (mem (i := 26) rfl) (mem (i := 27) rfl) (mem (i := 29) rfl) (mem (i := 28) rfl) (mem (i := 7) rfl) (mem (i := 30) rfl) (by decide) pd_5 rfl (rest := []) rfl rfl (by decide) (Nat.le_of_ble_eq_true rfl) (cn' := 5) (sn' := 36) rfl rfl (by decide) (by decide) (pc' := 167) rfl (fun _ _ hq => ?_)
              obtain ⟨rfl, rfl⟩ := hq
              show Go Z k 5 36 ((ea5, ArL Z es5) :: (a1, Obj Z "com/example/mangrove/mangrove/MemorySlidingWindowLog$KeyLog" [("com/example/mangrove/mangrove/MemorySlidingWindowLog$KeyLog", "entries", "[J", (.ref ea5)), ("com/example/mangrove/mangrove/MemorySlidingWindowLog$KeyLog", "size", "I", (.int (2 : Nat).toInt32)), ("com/example/mangrove/mangrove/MemorySlidingWindowLog$KeyLog", "first", "I", (.int f6.toInt32))]) :: F5) 167 #[.val (.int i0), .val (.long i1), .second, .val (.long i2), .second, .val (.int cN.toInt32), .val (.int (3 : Int32)), .val (.int (1 : Int32)), .val (.int (3 : Int32)), .val (.long lim), .second, .val (.ref a1), .val (.long af), .second, .val (.int (1 : Int32)), .unset, .unset] [(.long (i1 + (2 : Int64)))]
              refine s_lload H at_167 rfl (pc' := 169) rfl ?_
              refine s_lcmp H at_169 (pc' := 170) rfl ?_
              refine s_if H at_170 (py := 177) (pc' := 173) l_ne (by decide) rfl (fun c170 => ?_) (fun c170 => ?_)
              · exact absurd (by rw [h_af, show (((3 : Int32) - (1 : Int32)).toInt64) = 2 from by decide]) c170
              · refine s_iconst H at_173 (z := (1 : Int32)) (by decide) (pc' := 174) rfl ?_
                refine s_goto H at_174 (pc' := 178) (by decide) ?_
                refine s_istore H at_178 (L' := fun z => #[.val (.int i0), .val (.long i1), .second, .val (.long i2), .second, .val (.int cN.toInt32), .val (.int (3 : Int32)), .val (.int (1 : Int32)), .val (.int (3 : Int32)), .val (.long lim), .second, .val (.ref a1), .val (.long af), .second, .val (.int z), .unset, .unset]) (fun _ => rfl) (pc' := 180) rfl (fun z0 hz => ?_)
                subst z0
                refine s_iload H at_180 rfl (pc' := 182) rfl ?_
                refine s_if H at_182 (py := 197) (pc' := 185) z_le (by decide) rfl (fun c182 => ?_) (fun c182 => ?_)
                · exact absurd c182 (by decide)
                · refine s_aload H at_185 rfl rfl (pc' := 187) rfl ?_
                  refine s_lloadn H at_187 rfl (pc' := 188) rfl ?_
                  refine s_ldc2 H at_188 (mem (i := 46) rfl) (pc' := 191) rfl ?_
                  refine s_ladd H at_191 (pc' := 192) rfl ?_
                  refine s_lload H at_192 rfl (pc' := 194) rfl ?_
                  refine s_virtual H (met_ka H.tb a1 ea5 es5 ([(i1 + (1 : Int64)), (i1 + (2 : Int64))] : List Int64) f6 2 (i1 + (3 : Int64)) lim Kf6 (by decide) (by omega)) at_194 (i := 1) rfl (mem (i := 17) rfl) (mem (i := 18) rfl) (mem (i := 20) rfl) (mem (i := 19) rfl) (mem (i := 7) rfl) (mem (i := 21) rfl) (by decide) pd_4 rfl (rest := []) rfl rfl (by decide) (Nat.le_of_ble_eq_true rfl) (cn' := 6) (sn' := 46) rfl rfl (by decide) (by decide) (pc' := 197) rfl (fun _ _ hq => ?_)
                  obtain ⟨ea7, es7, f7, F7, Kes7', rfl, rfl⟩ := hq
                  show Go Z k 6 46 ((ea7, ArL Z es7) :: (a1, Obj Z "com/example/mangrove/mangrove/MemorySlidingWindowLog$KeyLog" [("com/example/mangrove/mangrove/MemorySlidingWindowLog$KeyLog", "entries", "[J", (.ref ea7)), ("com/example/mangrove/mangrove/MemorySlidingWindowLog$KeyLog", "size", "I", (.int (3 : Nat).toInt32)), ("com/example/mangrove/mangrove/MemorySlidingWindowLog$KeyLog", "first", "I", (.int f7.toInt32))]) :: F7) 197 #[.val (.int i0), .val (.long i1), .second, .val (.long i2), .second, .val (.int cN.toInt32), .val (.int (3 : Int32)), .val (.int (1 : Int32)), .val (.int (3 : Int32)), .val (.long lim), .second, .val (.ref a1), .val (.long af), .second, .val (.int (1 : Int32)), .unset, .unset] []
                  have Kes7 : KL es7 f7 3 ([(i1 + (1 : Int64)), (i1 + (2 : Int64)), (i1 + (3 : Int64))] : List Int64) := Kes7'
                  refine s_iload H at_197 rfl (pc' := 199) rfl ?_
                  refine s_iconst H at_199 (z := (1 : Int32)) (by decide) (pc' := 200) rfl ?_
                  refine s_icmp H at_200 (py := 215) (pc' := 203) q_le (by decide) rfl (fun c200 => ?_) (fun c200 => ?_)
                  · exact absurd c200 (by decide)
                  · refine s_aload H at_203 rfl rfl (pc' := 205) rfl ?_
                    refine s_lloadn H at_205 rfl (pc' := 206) rfl ?_
                    refine s_ldc2 H at_206 (mem (i := 47) rfl) (pc' := 209) rfl ?_
                    refine s_ladd H at_209 (pc' := 210) rfl ?_
                    refine s_lload H at_210 rfl (pc' := 212) rfl ?_
                    refine s_virtual H (met_ka H.tb a1 ea7 es7 ([(i1 + (1 : Int64)), (i1 + (2 : Int64)), (i1 + (3 : Int64))] : List Int64) f7 3 (i1 + (4 : Int64)) lim Kes7 (by decide) (by omega)) at_212 (i := 1) rfl (mem (i := 17) rfl) (mem (i := 18) rfl) (mem (i := 20) rfl) (mem (i := 19) rfl) (mem (i := 7) rfl) (mem (i := 21) rfl) (by decide) pd_4 rfl (rest := []) rfl rfl (by decide) (Nat.le_of_ble_eq_true rfl) (cn' := 7) (sn' := 56) rfl rfl (by decide) (by decide) (pc' := 215) rfl (fun _ _ hq => ?_)
                    obtain ⟨ea8, es8, f8, F8, Kes8', rfl, rfl⟩ := hq
                    show Go Z k 7 56 ((ea8, ArL Z es8) :: (a1, Obj Z "com/example/mangrove/mangrove/MemorySlidingWindowLog$KeyLog" [("com/example/mangrove/mangrove/MemorySlidingWindowLog$KeyLog", "entries", "[J", (.ref ea8)), ("com/example/mangrove/mangrove/MemorySlidingWindowLog$KeyLog", "size", "I", (.int (4 : Nat).toInt32)), ("com/example/mangrove/mangrove/MemorySlidingWindowLog$KeyLog", "first", "I", (.int f8.toInt32))]) :: F8) 215 #[.val (.int i0), .val (.long i1), .second, .val (.long i2), .second, .val (.int cN.toInt32), .val (.int (3 : Int32)), .val (.int (1 : Int32)), .val (.int (3 : Int32)), .val (.long lim), .second, .val (.ref a1), .val (.long af), .second, .val (.int (1 : Int32)), .unset, .unset] []
                    have Kes8 : KL es8 f8 4 ([(i1 + (1 : Int64)), (i1 + (2 : Int64)), (i1 + (3 : Int64)), (i1 + (4 : Int64))] : List Int64) := Kes8'
                    refine s_iload H at_215 rfl (pc' := 217) rfl ?_
                    refine s_iconst H at_217 (z := (2 : Int32)) (by decide) (pc' := 218) rfl ?_
                    refine s_icmp H at_218 (py := 233) (pc' := 221) q_le (by decide) rfl (fun c218 => ?_) (fun c218 => ?_)
                    · exact absurd c218 (by decide)
                    · refine s_aload H at_221 rfl rfl (pc' := 223) rfl ?_
                      refine s_lloadn H at_223 rfl (pc' := 224) rfl ?_
                      refine s_ldc2 H at_224 (mem (i := 48) rfl) (pc' := 227) rfl ?_
                      refine s_ladd H at_227 (pc' := 228) rfl ?_
                      refine s_lload H at_228 rfl (pc' := 230) rfl ?_
                      refine s_virtual H (met_ka H.tb a1 ea8 es8 ([(i1 + (1 : Int64)), (i1 + (2 : Int64)), (i1 + (3 : Int64)), (i1 + (4 : Int64))] : List Int64) f8 4 (i1 + (5 : Int64)) lim Kes8 (by decide) (by omega)) at_230 (i := 1) rfl (mem (i := 17) rfl) (mem (i := 18) rfl) (mem (i := 20) rfl) (mem (i := 19) rfl) (mem (i := 7) rfl) (mem (i := 21) rfl) (by decide) pd_4 rfl (rest := []) rfl rfl (by decide) (Nat.le_of_ble_eq_true rfl) (cn' := 8) (sn' := 66) rfl rfl (by decide) (by decide) (pc' := 233) rfl (fun _ _ hq => ?_)
                      obtain ⟨ea9, es9, f9, F9, Kes9', rfl, rfl⟩ := hq
                      show Go Z k 8 66 ((ea9, ArL Z es9) :: (a1, Obj Z "com/example/mangrove/mangrove/MemorySlidingWindowLog$KeyLog" [("com/example/mangrove/mangrove/MemorySlidingWindowLog$KeyLog", "entries", "[J", (.ref ea9)), ("com/example/mangrove/mangrove/MemorySlidingWindowLog$KeyLog", "size", "I", (.int (5 : Nat).toInt32)), ("com/example/mangrove/mangrove/MemorySlidingWindowLog$KeyLog", "first", "I", (.int f9.toInt32))]) :: F9) 233 #[.val (.int i0), .val (.long i1), .second, .val (.long i2), .second, .val (.int cN.toInt32), .val (.int (3 : Int32)), .val (.int (1 : Int32)), .val (.int (3 : Int32)), .val (.long lim), .second, .val (.ref a1), .val (.long af), .second, .val (.int (1 : Int32)), .unset, .unset] []
                      have Kes9 : KL es9 f9 5 ([(i1 + (1 : Int64)), (i1 + (2 : Int64)), (i1 + (3 : Int64)), (i1 + (4 : Int64)), (i1 + (5 : Int64))] : List Int64) := Kes9'
                      refine s_iload H at_233 rfl (pc' := 235) rfl ?_
                      refine s_if H at_235 (py := 243) (pc' := 238) z_ne (by decide) rfl (fun c235 => ?_) (fun c235 => ?_)
                      · refine s_lloadn H at_243 rfl (pc' := 244) rfl ?_
                        refine s_iconst H at_244 (z := (2 : Int32)) (by decide) (pc' := 245) rfl ?_
                        refine s_iload H at_245 rfl (pc' := 247) rfl ?_
                        refine s_iadd H at_247 (pc' := 248) rfl ?_
                        refine s_i2l H at_248 (pc' := 249) rfl ?_
                        refine s_ladd H at_249 (pc' := 250) rfl ?_
                        refine s_lstore H at_250 (L' := fun z => #[.val (.int i0), .val (.long i1), .second, .val (.long i2), .second, .val (.int cN.toInt32), .val (.int (3 : Int32)), .val (.int (1 : Int32)), .val (.int (3 : Int32)), .val (.long lim), .second, .val (.ref a1), .val (.long af), .second, .val (.int (1 : Int32)), .val (.long z), .second]) (fun _ => rfl) (pc' := 252) rfl (fun la h_la => ?_)
                        refine s_iload H at_252 rfl (pc' := 254) rfl ?_
                        refine s_if H at_254 (py := 272) (pc' := 257) z_eq (by decide) rfl (fun c254 => ?_) (fun c254 => ?_)
                        · exact absurd c254 (by decide)
                        · refine s_aload H at_257 rfl rfl (pc' := 259) rfl ?_
                          refine s_virtual H (met_kn H.tb a1 ea9 es9 ([(i1 + (1 : Int64)), (i1 + (2 : Int64)), (i1 + (3 : Int64)), (i1 + (4 : Int64))] : List Int64) f9 5 (i1 + (5 : Int64)) Kes9) at_259 (i := 1) rfl (mem (i := 26) rfl) (mem (i := 27) rfl) (mem (i := 29) rfl) (mem (i := 28) rfl) (mem (i := 7) rfl) (mem (i := 30) rfl) (by decide) pd_5 rfl (rest := []) rfl rfl (by decide) (Nat.le_of_ble_eq_true rfl) (cn' := 8) (sn' := 66) rfl rfl (by decide) (by decide) (pc' := 262) rfl (fun _ _ hq => ?_)
                          obtain ⟨rfl, rfl⟩ := hq
                          show Go Z k 8 66 ((ea9, ArL Z es9) :: (a1, Obj Z "com/example/mangrove/mangrove/MemorySlidingWindowLog$KeyLog" [("com/example/mangrove/mangrove/MemorySlidingWindowLog$KeyLog", "entries", "[J", (.ref ea9)), ("com/example/mangrove/mangrove/MemorySlidingWindowLog$KeyLog", "size", "I", (.int (5 : Nat).toInt32)), ("com/example/mangrove/mangrove/MemorySlidingWindowLog$KeyLog", "first", "I", (.int f9.toInt32))]) :: F9) 262 #[.val (.int i0), .val (.long i1), .second, .val (.long i2), .second, .val (.int cN.toInt32), .val (.int (3 : Int32)), .val (.int (1 : Int32)), .val (.int (3 : Int32)), .val (.long lim), .second, .val (.ref a1), .val (.long af), .second, .val (.int (1 : Int32)), .val (.long la), .second] [(.long (i1 + (5 : Int64)))]
                          refine s_lload H at_262 rfl (pc' := 264) rfl ?_
                          refine s_lcmp H at_264 (pc' := 265) rfl ?_
                          refine s_if H at_265 (py := 272) (pc' := 268) l_ne (by decide) rfl (fun c265 => ?_) (fun c265 => ?_)
                          · exact absurd (by rw [h_la, show (((2 : Int32) + (3 : Int32)).toInt64) = 5 from by decide]) c265
                          · refine s_iconst H at_268 (z := (1 : Int32)) (by decide) (pc' := 269) rfl ?_
                            refine s_goto H at_269 (pc' := 273) (by decide) ?_
                            exact s_iret H at_273 rfl (by simp) (by decide) (by decide) (rfl)
                      · exact absurd c235 (by decide)
          · exact absurd c149 (by decide)
set_option maxRecDepth 65536 in
set_option maxHeartbeats 40000000 in
theorem s42_3_2_0 {Z : State} {k : Cx} {i0 : Int32} {i1 i2 : Int64} (cN : Nat) (H : Ok Z k room_1 (LQ) x code maxLocals ret) (h0 : 0 < cN) (hc : cN ≤ 3) : Go Z k 0 0 ([] : Hp) 42 #[.val (.int i0), .val (.long i1), .second, .val (.long i2), .second, .val (.int cN.toInt32), .val (.int (3 : Int32)), .val (.int (2 : Int32)), .val (.int (0 : Int32)), .unset, .unset, .unset, .unset, .unset, .unset, .unset, .unset] [] := by
  refine s_iload H at_42 rfl (pc' := 44) rfl ?_
  refine s_iload H at_44 rfl (pc' := 46) rfl ?_
  refine s_iadd H at_46 (pc' := 47) rfl ?_
  refine s_i2l H at_47 (pc' := 48) rfl ?_
  refine s_lloadn H at_48 rfl (pc' := 49) rfl ?_
  refine s_ldc2 H at_49 (mem (i := 4) rfl) (pc' := 52) rfl ?_
  refine s_land H at_52 (pc' := 53) rfl ?_
  refine s_ladd H at_53 (pc' := 54) rfl ?_
  refine s_lstore H at_54 (L' := fun z => #[.val (.int i0), .val (.long i1), .second, .val (.long i2), .second, .val (.int cN.toInt32), .val (.int (3 : Int32)), .val (.int (2 : Int32)), .val (.int (0 : Int32)), .val (.long z), .second, .unset, .unset, .unset, .unset, .unset, .unset]) (fun _ => rfl) (pc' := 56) rfl (fun lim h_lim => ?_)
  have hl : 3 ≤ lim.toInt := by
    have m := c_maskL i2 4611686018427387903 62 (by decide) (by decide)
    have s := c_ladd ((((3 : Int32) + (0 : Int32)).toInt64)) (i2 &&& 4611686018427387903)
    rw [← h_lim, show ((((3 : Int32) + (0 : Int32)).toInt64)).toInt = 3 from by decide] at s
    have rl := rng64 lim
    omega
  refine s_new H (C := "com/example/mangrove/mangrove/MemorySlidingWindowLog$KeyLog") [("com/example/mangrove/mangrove/MemorySlidingWindowLog$KeyLog", "entries", "[J", .null), ("com/example/mangrove/mangrove/MemorySlidingWindowLog$KeyLog", "size", "I", (.int (0 : Int32))), ("com/example/mangrove/mangrove/MemorySlidingWindowLog$KeyLog", "first", "I", (.int (0 : Int32)))] at_56 (mem (i := 5) rfl) (mem (i := 6) rfl) (mem (i := 7) rfl) (allC ⟨Or.inl (mem (i := 16) rfl), (.array .long), by decide, rfl⟩ (allC ⟨Or.inl (mem (i := 23) rfl), .int, by decide, rfl⟩ (allC ⟨Or.inl (mem (i := 25) rfl), .int, by decide, rfl⟩ allN))) (by decide) (cn' := 1) (sn' := 3) rfl rfl (by decide) (by decide) (pc' := 59) rfl (fun a1 => ?_)
  refine s_dup H at_59 rfl (pc' := 60) rfl ?_
  refine s_iload H at_60 rfl (pc' := 62) rfl ?_
  refine s_init H (met_ki H.tb a1 cN hc) at_62 rfl (mem (i := 8) rfl) (mem (i := 9) rfl) (mem (i := 7) rfl) (mem (i := 10) rfl) (by decide) pd_2 rfl (rest := [(.ref a1)]) rfl rfl (by decide) (Nat.le_of_ble_eq_true rfl) (cn' := 2) (sn' := 6) rfl rfl (by decide) (by decide) (pc' := 65) rfl (fun _ _ hq => ?_)
  obtain ⟨ea, rfl, rfl⟩ := hq
  show Go Z k 2 6 ((ea, ArL Z (List.replicate cN 0)) :: (a1, Obj Z "com/example/mangrove/mangrove/MemorySlidingWindowLog$KeyLog" [("com/example/mangrove/mangrove/MemorySlidingWindowLog$KeyLog", "entries", "[J", (.ref ea)), ("com/example/mangrove/mangrove/MemorySlidingWindowLog$KeyLog", "size", "I", (.int (0 : Nat).toInt32)), ("com/example/mangrove/mangrove/MemorySlidingWindowLog$KeyLog", "first", "I", (.int (0 : Nat).toInt32))]) :: []) 65 #[.val (.int i0), .val (.long i1), .second, .val (.long i2), .second, .val (.int cN.toInt32), .val (.int (3 : Int32)), .val (.int (2 : Int32)), .val (.int (0 : Int32)), .val (.long lim), .second, .unset, .unset, .unset, .unset, .unset, .unset] [(.ref a1)]
  obtain ⟨es2, he, les2, Kes2⟩ : ∃ es : List Int64, es = List.replicate cN 0 ∧ es.length = cN ∧ KL es 0 0 [] := ⟨_, rfl, by simp, KL.new (by omega) (by omega)⟩
  rw [← he]
  clear he
  show Go Z k 2 6 ((ea, ArL Z es2) :: (a1, Obj Z "com/example/mangrove/mangrove/MemorySlidingWindowLog$KeyLog" [("com/example/mangrove/mangrove/MemorySlidingWindowLog$KeyLog", "entries", "[J", (.ref ea)), ("com/example/mangrove/mangrove/MemorySlidingWindowLog$KeyLog", "size", "I", (.int (0 : Nat).toInt32)), ("com/example/mangrove/mangrove/MemorySlidingWindowLog$KeyLog", "first", "I", (.int (0 : Nat).toInt32))]) :: []) 65 #[.val (.int i0), .val (.long i1), .second, .val (.long i2), .second, .val (.int cN.toInt32), .val (.int (3 : Int32)), .val (.int (2 : Int32)), .val (.int (0 : Int32)), .val (.long lim), .second, .unset, .unset, .unset, .unset, .unset, .unset] [(.ref a1)]
  refine s_astore H at_65 (L' := #[.val (.int i0), .val (.long i1), .second, .val (.long i2), .second, .val (.int cN.toInt32), .val (.int (3 : Int32)), .val (.int (2 : Int32)), .val (.int (0 : Int32)), .val (.long lim), .second, .val (.ref a1), .unset, .unset, .unset, .unset, .unset]) rfl rfl (pc' := 67) rfl ?_
  refine s_aload H at_67 rfl rfl (pc' := 69) rfl ?_
  refine s_lloadn H at_69 rfl (pc' := 70) rfl ?_
  refine s_lload H at_70 rfl (pc' := 72) rfl ?_
  refine s_virtual H (met_ka H.tb a1 ea es2 ([] : List Int64) (0 : Nat) 0 i1 lim Kes2 (by decide) (by omega)) at_72 (i := 1) rfl (mem (i := 17) rfl) (mem (i := 18) rfl) (mem (i := 20) rfl) (mem (i := 19) rfl) (mem (i := 7) rfl) (mem (i := 21) rfl) (by decide) pd_4 rfl (rest := []) rfl rfl (by decide) (Nat.le_of_ble_eq_true rfl) (cn' := 3) (sn' := 16) rfl rfl (by decide) (by decide) (pc' := 75) rfl (fun _ _ hq => ?_)
  obtain ⟨ea3, es3, f3, F3, Kes3', rfl, rfl⟩ := hq
  show Go Z k 3 16 ((ea3, ArL Z es3) :: (a1, Obj Z "com/example/mangrove/mangrove/MemorySlidingWindowLog$KeyLog" [("com/example/mangrove/mangrove/MemorySlidingWindowLog$KeyLog", "entries", "[J", (.ref ea3)), ("com/example/mangrove/mangrove/MemorySlidingWindowLog$KeyLog", "size", "I", (.int (1 : Nat).toInt32)), ("com/example/mangrove/mangrove/MemorySlidingWindowLog$KeyLog", "first", "I", (.int f3.toInt32))]) :: F3) 75 #[.val (.int i0), .val (.long i1), .second, .val (.long i2), .second, .val (.int cN.toInt32), .val (.int (3 : Int32)), .val (.int (2 : Int32)), .val (.int (0 : Int32)), .val (.long lim), .second, .val (.ref a1), .unset, .unset, .unset, .unset, .unset] []
  have Kes3 : KL es3 f3 1 ([i1] : List Int64) := Kes3'
  refine s_iload H at_75 rfl (pc' := 77) rfl ?_
  refine s_iconst H at_77 (z := (1 : Int32)) (by decide) (pc' := 78) rfl ?_
  refine s_icmp H at_78 (py := 91) (pc' := 81) q_le (by decide) rfl (fun c78 => ?_) (fun c78 => ?_)
  · exact absurd c78 (by decide)
  · refine s_aload H at_81 rfl rfl (pc' := 83) rfl ?_
    refine s_lloadn H at_83 rfl (pc' := 84) rfl ?_
    refine s_lconst H at_84 (z := (1 : Int64)) (by decide) (pc' := 85) rfl ?_
    refine s_ladd H at_85 (pc' := 86) rfl ?_
    refine s_lload H at_86 rfl (pc' := 88) rfl ?_
    refine s_virtual H (met_ka H.tb a1 ea3 es3 ([i1] : List Int64) f3 1 (i1 + (1 : Int64)) lim Kes3 (by decide) (by omega)) at_88 (i := 1) rfl (mem (i := 17) rfl) (mem (i := 18) rfl) (mem (i := 20) rfl) (mem (i := 19) rfl) (mem (i := 7) rfl) (mem (i := 21) rfl) (by decide) pd_4 rfl (rest := []) rfl rfl (by decide) (Nat.le_of_ble_eq_true rfl) (cn' := 4) (sn' := 26) rfl rfl (by decide) (by decide) (pc' := 91) rfl (fun _ _ hq => ?_)
    obtain ⟨ea4, es4, f4, F4, Kes4', rfl, rfl⟩ := hq
    show Go Z k 4 26 ((ea4, ArL Z es4) :: (a1, Obj Z "com/example/mangrove/mangrove/MemorySlidingWindowLog$KeyLog" [("com/example/mangrove/mangrove/MemorySlidingWindowLog$KeyLog", "entries", "[J", (.ref ea4)), ("com/example/mangrove/mangrove/MemorySlidingWindowLog$KeyLog", "size", "I", (.int (2 : Nat).toInt32)), ("com/example/mangrove/mangrove/MemorySlidingWindowLog$KeyLog", "first", "I", (.int f4.toInt32))]) :: F4) 91 #[.val (.int i0), .val (.long i1), .second, .val (.long i2), .second, .val (.int cN.toInt32), .val (.int (3 : Int32)), .val (.int (2 : Int32)), .val (.int (0 : Int32)), .val (.long lim), .second, .val (.ref a1), .unset, .unset, .unset, .unset, .unset] []
    have Kes4 : KL es4 f4 2 ([i1, (i1 + (1 : Int64))] : List Int64) := Kes4'
    refine s_iload H at_91 rfl (pc' := 93) rfl ?_
    refine s_iconst H at_93 (z := (2 : Int32)) (by decide) (pc' := 94) rfl ?_
    refine s_icmp H at_94 (py := 109) (pc' := 97) q_le (by decide) rfl (fun c94 => ?_) (fun c94 => ?_)
    · exact absurd c94 (by decide)
    · refine s_aload H at_97 rfl rfl (pc' := 99) rfl ?_
      refine s_lloadn H at_99 rfl (pc' := 100) rfl ?_
      refine s_ldc2 H at_100 (mem (i := 49) rfl) (pc' := 103) rfl ?_
      refine s_ladd H at_103 (pc' := 104) rfl ?_
      refine s_lload H at_104 rfl (pc' := 106) rfl ?_
      refine s_virtual H (met_ka H.tb a1 ea4 es4 ([i1, (i1 + (1 : Int64))] : List Int64) f4 2 (i1 + (2 : Int64)) lim Kes4 (by decide) (by omega)) at_106 (i := 1) rfl (mem (i := 17) rfl) (mem (i := 18) rfl) (mem (i := 20) rfl) (mem (i := 19) rfl) (mem (i := 7) rfl) (mem (i := 21) rfl) (by decide) pd_4 rfl (rest := []) rfl rfl (by decide) (Nat.le_of_ble_eq_true rfl) (cn' := 5) (sn' := 36) rfl rfl (by decide) (by decide) (pc' := 109) rfl (fun _ _ hq => ?_)
      obtain ⟨ea5, es5, f5, F5, Kes5', rfl, rfl⟩ := hq
      show Go Z k 5 36 ((ea5, ArL Z es5) :: (a1, Obj Z "com/example/mangrove/mangrove/MemorySlidingWindowLog$KeyLog" [("com/example/mangrove/mangrove/MemorySlidingWindowLog$KeyLog", "entries", "[J", (.ref ea5)), ("com/example/mangrove/mangrove/MemorySlidingWindowLog$KeyLog", "size", "I", (.int (3 : Nat).toInt32)), ("com/example/mangrove/mangrove/MemorySlidingWindowLog$KeyLog", "first", "I", (.int f5.toInt32))]) :: F5) 109 #[.val (.int i0), .val (.long i1), .second, .val (.long i2), .second, .val (.int cN.toInt32), .val (.int (3 : Int32)), .val (.int (2 : Int32)), .val (.int (0 : Int32)), .val (.long lim), .second, .val (.ref a1), .unset, .unset, .unset, .unset, .unset] []
      have Kes5 : KL es5 f5 3 ([i1, (i1 + (1 : Int64)), (i1 + (2 : Int64))] : List Int64) := Kes5'
      refine s_lloadn H at_109 rfl (pc' := 110) rfl ?_
      refine s_iload H at_110 rfl (pc' := 112) rfl ?_
      refine s_iconst H at_112 (z := (1 : Int32)) (by decide) (pc' := 113) rfl ?_
      refine s_isub H at_113 (pc' := 114) rfl ?_
      refine s_i2l H at_114 (pc' := 115) rfl ?_
      refine s_ladd H at_115 (pc' := 116) rfl ?_
      refine s_lstore H at_116 (L' := fun z => #[.val (.int i0), .val (.long i1), .second, .val (.long i2), .second, .val (.int cN.toInt32), .val (.int (3 : Int32)), .val (.int (2 : Int32)), .val (.int (0 : Int32)), .val (.long lim), .second, .val (.ref a1), .val (.long z), .second, .unset, .unset, .unset]) (fun _ => rfl) (pc' := 118) rfl (fun af h_af => ?_)
      refine s_aload H at_118 rfl rfl (pc' := 120) rfl ?_
      refine s_virtual H (met_kn H.tb a1 ea5 es5 ([i1, (i1 + (1 : Int64))] : List Int64) f5 3 (i1 + (2 : Int64)) Kes5) at_120 (i := 1) rfl (mem (i := 26) rfl) (mem (i := 27) rfl) (mem (i := 29) rfl) (mem (i := 28) rfl) (mem (i := 7) rfl) (mem (i := 30) rfl) (by decide) pd_5 rfl (rest := []) rfl rfl (by decide) (Nat.le_of_ble_eq_true rfl) (cn' := 5) (sn' := 36) rfl rfl (by decide) (by decide) (pc' := 123) rfl (fun _ _ hq => ?_)
      obtain ⟨rfl, rfl⟩ := hq
      show Go Z k 5 36 ((ea5, ArL Z es5) :: (a1, Obj Z "com/example/mangrove/mangrove/MemorySlidingWindowLog$KeyLog" [("com/example/mangrove/mangrove/MemorySlidingWindowLog$KeyLog", "entries", "[J", (.ref ea5)), ("com/example/mangrove/mangrove/MemorySlidingWindowLog$KeyLog", "size", "I", (.int (3 : Nat).toInt32)), ("com/example/mangrove/mangrove/MemorySlidingWindowLog$KeyLog", "first", "I", (.int f5.toInt32))]) :: F5) 123 #[.val (.int i0), .val (.long i1), .second, .val (.long i2), .second, .val (.int cN.toInt32), .val (.int (3 : Int32)), .val (.int (2 : Int32)), .val (.int (0 : Int32)), .val (.long lim), .second, .val (.ref a1), .val (.long af), .second, .unset, .unset, .unset] [(.long (i1 + (2 : Int64)))]
      refine s_lload H at_123 rfl (pc' := 125) rfl ?_
      refine s_lcmp H at_125 (pc' := 126) rfl ?_
      refine s_if H at_126 (py := 133) (pc' := 129) l_ne (by decide) rfl (fun c126 => ?_) (fun c126 => ?_)
      · exact absurd (by rw [h_af, show (((3 : Int32) - (1 : Int32)).toInt64) = 2 from by decide]) c126
      · refine s_iconst H at_129 (z := (1 : Int32)) (by decide) (pc' := 130) rfl ?_
        refine s_goto H at_130 (pc' := 134) (by decide) ?_
        refine s_istore H at_134 (L' := fun z => #[.val (.int i0), .val (.long i1), .second, .val (.long i2), .second, .val (.int cN.toInt32), .val (.int (3 : Int32)), .val (.int (2 : Int32)), .val (.int (0 : Int32)), .val (.long lim), .second, .val (.ref a1), .val (.long af), .second, .val (.int z), .unset, .unset]) (fun _ => rfl) (pc' := 136) rfl (fun z0 hz => ?_)
        subst z0
        refine s_iload H at_136 rfl (pc' := 138) rfl ?_
        refine s_if H at_138 (py := 146) (pc' := 141) z_le (by decide) rfl (fun c138 => ?_) (fun c138 => ?_)
        · exact absurd c138 (by decide)
        · refine s_aload H at_141 rfl rfl (pc' := 143) rfl ?_
          refine s_virtual H (met_kr H.tb a1 ea5 es5 ([(i1 + (1 : Int64)), (i1 + (2 : Int64))] : List Int64) f5 3 i1 Kes5) at_143 (i := 1) rfl (mem (i := 50) rfl) (mem (i := 51) rfl) (mem (i := 53) rfl) (mem (i := 52) rfl) (mem (i := 7) rfl) (mem (i := 54) rfl) (by decide) pd_9 rfl (rest := []) rfl rfl (by decide) (Nat.le_of_ble_eq_true rfl) (cn' := 5) (sn' := 36) rfl rfl (by decide) (by decide) (pc' := 146) rfl (fun _ _ hq => ?_)
          obtain ⟨f6, Kf6', rfl, rfl⟩ := hq
          show Go Z k 5 36 ((ea5, ArL Z es5) :: (a1, Obj Z "com/example/mangrove/mangrove/MemorySlidingWindowLog$KeyLog" [("com/example/mangrove/mangrove/MemorySlidingWindowLog$KeyLog", "entries", "[J", (.ref ea5)), ("com/example/mangrove/mangrove/MemorySlidingWindowLog$KeyLog", "size", "I", (.int (2 : Nat).toInt32)), ("com/example/mangrove/mangrove/MemorySlidingWindowLog$KeyLog", "first", "I", (.int f6.toInt32))]) :: F5) 146 #[.val (.int i0), .val (.long i1), .second, .val (.long i2), .second, .val (.int cN.toInt32), .val (.int (3 : Int32)), .val (.int (2 : Int32)), .val (.int (0 : Int32)), .val (.long lim), .second, .val (.ref a1), .val (.long af), .second, .val (.int (1 : Int32)), .unset, .unset] []
          have Kf6 : KL es5 f6 2 ([(i1 + (1 : Int64)), (i1 + (2 : Int64))] : List Int64) := Kf6'
          refine s_iload H at_146 rfl (pc' := 148) rfl ?_
          refine s_iconst H at_148 (z := (1 : Int32)) (by decide) (pc' := 149) rfl ?_
          refine s_icmp H at_149 (py := 157) (pc' := 152) q_le (by decide) rfl (fun c149 => ?_) (fun c149 => ?_)
          · exact absurd c149 (by decide)
          · refine s_aload H at_152 rfl rfl (pc' := 154) rfl ?_
            refine s_virtual H (met_kr H.tb a1 ea5 es5 ([(i1 + (2 : Int64))] : List Int64) f6 2 (i1 + (1 : Int64)) Kf6) at_154 (i := 1) rfl (mem (i := 50) rfl) (mem (i := 51) rfl) (mem (i := 53) rfl) (mem (i := 52) rfl) (mem (i := 7) rfl) (mem (i := 54) rfl) (by decide) pd_9 rfl (rest := []) rfl rfl (by decide) (Nat.le_of_ble_eq_true rfl) (cn' := 5) (sn' := 36) rfl rfl (by decide) (by decide) (pc' := 157) rfl (fun _ _ hq => ?_)
            obtain ⟨f7, Kf7', rfl, rfl⟩ := hq
            show Go Z k 5 36 ((ea5, ArL Z es5) :: (a1, Obj Z "com/example/mangrove/mangrove/MemorySlidingWindowLog$KeyLog" [("com/example/mangrove/mangrove/MemorySlidingWindowLog$KeyLog", "entries", "[J", (.ref ea5)), ("com/example/mangrove/mangrove/MemorySlidingWindowLog$KeyLog", "size", "I", (.int (1 : Nat).toInt32)), ("com/example/mangrove/mangrove/MemorySlidingWindowLog$KeyLog", "first", "I", (.int f7.toInt32))]) :: F5) 157 #[.val (.int i0), .val (.long i1), .second, .val (.long i2), .second, .val (.int cN.toInt32), .val (.int (3 : Int32)), .val (.int (2 : Int32)), .val (.int (0 : Int32)), .val (.long lim), .second, .val (.ref a1), .val (.long af), .second, .val (.int (1 : Int32)), .unset, .unset] []
            have Kf7 : KL es5 f7 1 ([(i1 + (2 : Int64))] : List Int64) := Kf7'
            refine s_iload H at_157 rfl (pc' := 159) rfl ?_
            refine s_if H at_159 (py := 177) (pc' := 162) z_eq (by decide) rfl (fun c159 => ?_) (fun c159 => ?_)
            · exact absurd c159 (by decide)
            · refine s_aload H at_162 rfl rfl (pc' := 164) rfl ?_
              refine s_virtual H (met_kn H.tb a1 ea5 es5 ([] : List Int64) f7 1 (i1 + (2 : Int64)) Kf7) at_164 (i := 1) rfl (mem (i := 26) rfl) (mem (i := 27) rfl) (mem (i := 29) rfl) (mem (i := 28) rfl) (mem (i := 7) rfl) (mem (i := 30) rfl) (by decide) pd_5 rfl (rest := []) rfl rfl (by decide) (Nat.le_of_ble_eq_true rfl) (cn' := 5) (sn' := 36) rfl rfl (by decide) (by decide) (pc' := 167) rfl (fun _ _ hq => ?_)
              obtain ⟨rfl, rfl⟩ := hq
              show Go Z k 5 36 ((ea5, ArL Z es5) :: (a1, Obj Z "com/example/mangrove/mangrove/MemorySlidingWindowLog$KeyLog" [("com/example/mangrove/mangrove/MemorySlidingWindowLog$KeyLog", "entries", "[J", (.ref ea5)), ("com/example/mangrove/mangrove/MemorySlidingWindowLog$KeyLog", "size", "I", (.int (1 : Nat).toInt32)), ("com/example/mangrove/mangrove/MemorySlidingWindowLog$KeyLog", "first", "I", (.int f7.toInt32))]) :: F5) 167 #[.val (.int i0), .val (.long i1), .second, .val (.long i2), .second, .val (.int cN.toInt32), .val (.int (3 : Int32)), .val (.int (2 : Int32)), .val (.int (0 : Int32)), .val (.long lim), .second, .val (.ref a1), .val (.long af), .second, .val (.int (1 : Int32)), .unset, .unset] [(.long (i1 + (2 : Int64)))]
              refine s_lload H at_167 rfl (pc' := 169) rfl ?_
              refine s_lcmp H at_169 (pc' := 170) rfl ?_
              refine s_if H at_170 (py := 177) (pc' := 173) l_ne (by decide) rfl (fun c170 => ?_) (fun c170 => ?_)
              · exact absurd (by rw [h_af, show (((3 : Int32) - (1 : Int32)).toInt64) = 2 from by decide]) c170
              · refine s_iconst H at_173 (z := (1 : Int32)) (by decide) (pc' := 174) rfl ?_
                refine s_goto H at_174 (pc' := 178) (by decide) ?_
                refine s_istore H at_178 (L' := fun z => #[.val (.int i0), .val (.long i1), .second, .val (.long i2), .second, .val (.int cN.toInt32), .val (.int (3 : Int32)), .val (.int (2 : Int32)), .val (.int (0 : Int32)), .val (.long lim), .second, .val (.ref a1), .val (.long af), .second, .val (.int z), .unset, .unset]) (fun _ => rfl) (pc' := 180) rfl (fun z0 hz => ?_)
                subst z0
                refine s_iload H at_180 rfl (pc' := 182) rfl ?_
                refine s_if H at_182 (py := 197) (pc' := 185) z_le (by decide) rfl (fun c182 => ?_) (fun c182 => ?_)
                · refine s_iload H at_197 rfl (pc' := 199) rfl ?_
                  refine s_iconst H at_199 (z := (1 : Int32)) (by decide) (pc' := 200) rfl ?_
                  refine s_icmp H at_200 (py := 215) (pc' := 203) q_le (by decide) rfl (fun c200 => ?_) (fun c200 => ?_)
                  · refine s_iload H at_215 rfl (pc' := 217) rfl ?_
                    refine s_iconst H at_217 (z := (2 : Int32)) (by decide) (pc' := 218) rfl ?_
                    refine s_icmp H at_218 (py := 233) (pc' := 221) q_le (by decide) rfl (fun c218 => ?_) (fun c218 => ?_)
                    · refine s_iload H at_233 rfl (pc' := 235) rfl ?_
                      refine s_if H at_235 (py := 243) (pc' := 238) z_ne (by decide) rfl (fun c235 => ?_) (fun c235 => ?_)
                      · exact absurd c235 (by decide)
                      · refine s_lload H at_238 rfl (pc' := 240) rfl ?_
                        refine s_goto H at_240 (pc' := 250) (by decide) ?_
                        refine s_lstore H at_250 (L' := fun z => #[.val (.int i0), .val (.long i1), .second, .val (.long i2), .second, .val (.int cN.toInt32), .val (.int (3 : Int32)), .val (.int (2 : Int32)), .val (.int (0 : Int32)), .val (.long lim), .second, .val (.ref a1), .val (.long af), .second, .val (.int (1 : Int32)), .val (.long z), .second]) (fun _ => rfl) (pc' := 252) rfl (fun z0 hz => ?_)
                        subst z0
                        refine s_iload H at_252 rfl (pc' := 254) rfl ?_
                        refine s_if H at_254 (py := 272) (pc' := 257) z_eq (by decide) rfl (fun c254 => ?_) (fun c254 => ?_)
                        · exact absurd c254 (by decide)
                        · refine s_aload H at_257 rfl rfl (pc' := 259) rfl ?_
                          refine s_virtual H (met_kn H.tb a1 ea5 es5 ([] : List Int64) f7 1 (i1 + (2 : Int64)) Kf7) at_259 (i := 1) rfl (mem (i := 26) rfl) (mem (i := 27) rfl) (mem (i := 29) rfl) (mem (i := 28) rfl) (mem (i := 7) rfl) (mem (i := 30) rfl) (by decide) pd_5 rfl (rest := []) rfl rfl (by decide) (Nat.le_of_ble_eq_true rfl) (cn' := 5) (sn' := 36) rfl rfl (by decide) (by decide) (pc' := 262) rfl (fun _ _ hq => ?_)
                          obtain ⟨rfl, rfl⟩ := hq
                          show Go Z k 5 36 ((ea5, ArL Z es5) :: (a1, Obj Z "com/example/mangrove/mangrove/MemorySlidingWindowLog$KeyLog" [("com/example/mangrove/mangrove/MemorySlidingWindowLog$KeyLog", "entries", "[J", (.ref ea5)), ("com/example/mangrove/mangrove/MemorySlidingWindowLog$KeyLog", "size", "I", (.int (1 : Nat).toInt32)), ("com/example/mangrove/mangrove/MemorySlidingWindowLog$KeyLog", "first", "I", (.int f7.toInt32))]) :: F5) 262 #[.val (.int i0), .val (.long i1), .second, .val (.long i2), .second, .val (.int cN.toInt32), .val (.int (3 : Int32)), .val (.int (2 : Int32)), .val (.int (0 : Int32)), .val (.long lim), .second, .val (.ref a1), .val (.long af), .second, .val (.int (1 : Int32)), .val (.long af), .second] [(.long (i1 + (2 : Int64)))]
                          refine s_lload H at_262 rfl (pc' := 264) rfl ?_
                          refine s_lcmp H at_264 (pc' := 265) rfl ?_
                          refine s_if H at_265 (py := 272) (pc' := 268) l_ne (by decide) rfl (fun c265 => ?_) (fun c265 => ?_)
                          · exact absurd (by rw [h_af, show (((3 : Int32) - (1 : Int32)).toInt64) = 2 from by decide]) c265
                          · refine s_iconst H at_268 (z := (1 : Int32)) (by decide) (pc' := 269) rfl ?_
                            refine s_goto H at_269 (pc' := 273) (by decide) ?_
                            exact s_iret H at_273 rfl (by simp) (by decide) (by decide) (rfl)
                    · exact absurd c218 (by decide)
                  · exact absurd c200 (by decide)
                · exact absurd c182 (by decide)
set_option maxRecDepth 65536 in
set_option maxHeartbeats 40000000 in
theorem s42_3_2_1 {Z : State} {k : Cx} {i0 : Int32} {i1 i2 : Int64} (cN : Nat) (H : Ok Z k room_1 (LQ) x code maxLocals ret) (h0 : 0 < cN) (hc : cN ≤ 3) : Go Z k 0 0 ([] : Hp) 42 #[.val (.int i0), .val (.long i1), .second, .val (.long i2), .second, .val (.int cN.toInt32), .val (.int (3 : Int32)), .val (.int (2 : Int32)), .val (.int (1 : Int32)), .unset, .unset, .unset, .unset, .unset, .unset, .unset, .unset] [] := by
  refine s_iload H at_42 rfl (pc' := 44) rfl ?_
  refine s_iload H at_44 rfl (pc' := 46) rfl ?_
  refine s_iadd H at_46 (pc' := 47) rfl ?_
  refine s_i2l H at_47 (pc' := 48) rfl ?_
  refine s_lloadn H at_48 rfl (pc' := 49) rfl ?_
  refine s_ldc2 H at_49 (mem (i := 4) rfl) (pc' := 52) rfl ?_
  refine s_land H at_52 (pc' := 53) rfl ?_
  refine s_ladd H at_53 (pc' := 54) rfl ?_
  refine s_lstore H at_54 (L' := fun z => #[.val (.int i0), .val (.long i1), .second, .val (.long i2), .second, .val (.int cN.toInt32), .val (.int (3 : Int32)), .val (.int (2 : Int32)), .val (.int (1 : Int32)), .val (.long z), .second, .unset, .unset, .unset, .unset, .unset, .unset]) (fun _ => rfl) (pc' := 56) rfl (fun lim h_lim => ?_)
  have hl : 4 ≤ lim.toInt := by
    have m := c_maskL i2 4611686018427387903 62 (by decide) (by decide)
    have s := c_ladd ((((3 : Int32) + (1 : Int32)).toInt64)) (i2 &&& 4611686018427387903)
    rw [← h_lim, show ((((3 : Int32) + (1 : Int32)).toInt64)).toInt = 4 from by decide] at s
    have rl := rng64 lim
    omega
  refine s_new H (C := "com/example/mangrove/mangrove/MemorySlidingWindowLog$KeyLog") [("com/example/mangrove/mangrove/MemorySlidingWindowLog$KeyLog", "entries", "[J", .null), ("com/example/mangrove/mangrove/MemorySlidingWindowLog$KeyLog", "size", "I", (.int (0 : Int32))), ("com/example/mangrove/mangrove/MemorySlidingWindowLog$KeyLog", "first", "I", (.int (0 : Int32)))] at_56 (mem (i := 5) rfl) (mem (i := 6) rfl) (mem (i := 7) rfl) (allC ⟨Or.inl (mem (i := 16) rfl), (.array .long), by decide, rfl⟩ (allC ⟨Or.inl (mem (i := 23) rfl), .int, by decide, rfl⟩ (allC ⟨Or.inl (mem (i := 25) rfl), .int, by decide, rfl⟩ allN))) (by decide) (cn' := 1) (sn' := 3) rfl rfl (by decide) (by decide) (pc' := 59) rfl (fun a1 => ?_)
  refine s_dup H at_59 rfl (pc' := 60) rfl ?_
  refine s_iload H at_60 rfl (pc' := 62) rfl ?_
  refine s_init H (met_ki H.tb a1 cN hc) at_62 rfl (mem (i := 8) rfl) (mem (i := 9) rfl) (mem (i := 7) rfl) (mem (i := 10) rfl) (by decide) pd_2 rfl (rest := [(.ref a1)]) rfl rfl (by decide) (Nat.le_of_ble_eq_true rfl) (cn' := 2) (sn' := 6) rfl rfl (by decide) (by decide) (pc' := 65) rfl (fun _ _ hq => ?_)
  obtain ⟨ea, rfl, rfl⟩ := hq
  show Go Z k 2 6 ((ea, ArL Z (List.replicate cN 0)) :: (a1, Obj Z "com/example/mangrove/mangrove/MemorySlidingWindowLog$KeyLog" [("com/example/mangrove/mangrove/MemorySlidingWindowLog$KeyLog", "entries", "[J", (.ref ea)), ("com/example/mangrove/mangrove/MemorySlidingWindowLog$KeyLog", "size", "I", (.int (0 : Nat).toInt32)), ("com/example/mangrove/mangrove/MemorySlidingWindowLog$KeyLog", "first", "I", (.int (0 : Nat).toInt32))]) :: []) 65 #[.val (.int i0), .val (.long i1), .second, .val (.long i2), .second, .val (.int cN.toInt32), .val (.int (3 : Int32)), .val (.int (2 : Int32)), .val (.int (1 : Int32)), .val (.long lim), .second, .unset, .unset, .unset, .unset, .unset, .unset] [(.ref a1)]
  obtain ⟨es2, he, les2, Kes2⟩ : ∃ es : List Int64, es = List.replicate cN 0 ∧ es.length = cN ∧ KL es 0 0 [] := ⟨_, rfl, by simp, KL.new (by omega) (by omega)⟩
  rw [← he]
  clear he
  show Go Z k 2 6 ((ea, ArL Z es2) :: (a1, Obj Z "com/example/mangrove/mangrove/MemorySlidingWindowLog$KeyLog" [("com/example/mangrove/mangrove/MemorySlidingWindowLog$KeyLog", "entries", "[J", (.ref ea)), ("com/example/mangrove/mangrove/MemorySlidingWindowLog$KeyLog", "size", "I", (.int (0 : Nat).toInt32)), ("com/example/mangrove/mangrove/MemorySlidingWindowLog$KeyLog", "first", "I", (.int (0 : Nat).toInt32))]) :: []) 65 #[.val (.int i0), .val (.long i1), .second, .val (.long i2), .second, .val (.int cN.toInt32), .val (.int (3 : Int32)), .val (.int (2 : Int32)), .val (.int (1 : Int32)), .val (.long lim), .second, .unset, .unset, .unset, .unset, .unset, .unset] [(.ref a1)]
  refine s_astore H at_65 (L' := #[.val (.int i0), .val (.long i1), .second, .val (.long i2), .second, .val (.int cN.toInt32), .val (.int (3 : Int32)), .val (.int (2 : Int32)), .val (.int (1 : Int32)), .val (.long lim), .second, .val (.ref a1), .unset, .unset, .unset, .unset, .unset]) rfl rfl (pc' := 67) rfl ?_
  refine s_aload H at_67 rfl rfl (pc' := 69) rfl ?_
  refine s_lloadn H at_69 rfl (pc' := 70) rfl ?_
  refine s_lload H at_70 rfl (pc' := 72) rfl ?_
  refine s_virtual H (met_ka H.tb a1 ea es2 ([] : List Int64) (0 : Nat) 0 i1 lim Kes2 (by decide) (by omega)) at_72 (i := 1) rfl (mem (i := 17) rfl) (mem (i := 18) rfl) (mem (i := 20) rfl) (mem (i := 19) rfl) (mem (i := 7) rfl) (mem (i := 21) rfl) (by decide) pd_4 rfl (rest := []) rfl rfl (by decide) (Nat.le_of_ble_eq_true rfl) (cn' := 3) (sn' := 16) rfl rfl (by decide) (by decide) (pc' := 75) rfl (fun _ _ hq => ?_)
  obtain ⟨ea3, es3, f3, F3, Kes3', rfl, rfl⟩ := hq
  show Go Z k 3 16 ((ea3, ArL Z es3) :: (a1, Obj Z "com/example/mangrove/mangrove/MemorySlidingWindowLog$KeyLog" [("com/example/mangrove/mangrove/MemorySlidingWindowLog$KeyLog", "entries", "[J", (.ref ea3)), ("com/example/mangrove/mangrove/MemorySlidingWindowLog$KeyLog", "size", "I", (.int (1 : Nat).toInt32)), ("com/example/mangrove/mangrove/MemorySlidingWindowLog$KeyLog", "first", "I", (.int f3.toInt32))]) :: F3) 75 #[.val (.int i0), .val (.long i1), .second, .val (.long i2), .second, .val (.int cN.toInt32), .val (.int (3 : Int32)), .val (.int (2 : Int32)), .val (.int (1 : Int32)), .val (.long lim), .second, .val (.ref a1), .unset, .unset, .unset, .unset, .unset] []
  have Kes3 : KL es3 f3 1 ([i1] : List Int64) := Kes3'
  refine s_iload H at_75 rfl (pc' := 77) rfl ?_
  refine s_iconst H at_77 (z := (1 : Int32)) (by decide) (pc' := 78) rfl ?_
  refine s_icmp H at_78 (py := 91) (pc' := 81) q_le (by decide) rfl (fun c78 => ?_) (fun c78 => ?_)
  · exact absurd c78 (by decide)
  · refine s_aload H at_81 rfl rfl (pc' := 83) rfl ?_
    refine s_lloadn H at_83 rfl (pc' := 84) rfl ?_
    refine s_lconst H at_84 (z := (1 : Int64)) (by decide) (pc' := 85) rfl ?_
    refine s_ladd H at_85 (pc' := 86) rfl ?_
    refine s_lload H at_86 rfl (pc' := 88) rfl ?_
    refine s_virtual H (met_ka H.tb a1 ea3 es3 ([i1] : List Int64) f3 1 (i1 + (1 : Int64)) lim Kes3 (by decide) (by omega)) at_88 (i := 1) rfl (mem (i := 17) rfl) (mem (i := 18) rfl) (mem (i := 20) rfl) (mem (i := 19) rfl) (mem (i := 7) rfl) (mem (i := 21) rfl) (by decide) pd_4 rfl (rest := []) rfl rfl (by decide) (Nat.le_of_ble_eq_true rfl) (cn' := 4) (sn' := 26) rfl rfl (by decide) (by decide) (pc' := 91) rfl (fun _ _ hq => ?_)
    obtain ⟨ea4, es4, f4, F4, Kes4', rfl, rfl⟩ := hq
    show Go Z k 4 26 ((ea4, ArL Z es4) :: (a1, Obj Z "com/example/mangrove/mangrove/MemorySlidingWindowLog$KeyLog" [("com/example/mangrove/mangrove/MemorySlidingWindowLog$KeyLog", "entries", "[J", (.ref ea4)), ("com/example/mangrove/mangrove/MemorySlidingWindowLog$KeyLog", "size", "I", (.int (2 : Nat).toInt32)), ("com/example/mangrove/mangrove/MemorySlidingWindowLog$KeyLog", "first", "I", (.int f4.toInt32))]) :: F4) 91 #[.val (.int i0), .val (.long i1), .second, .val (.long i2), .second, .val (.int cN.toInt32), .val (.int (3 : Int32)), .val (.int (2 : Int32)), .val (.int (1 : Int32)), .val (.long lim), .second, .val (.ref a1), .unset, .unset, .unset, .unset, .unset] []
    have Kes4 : KL es4 f4 2 ([i1, (i1 + (1 : Int64))] : List Int64) := Kes4'
    refine s_iload H at_91 rfl (pc' := 93) rfl ?_
    refine s_iconst H at_93 (z := (2 : Int32)) (by decide) (pc' := 94) rfl ?_
    refine s_icmp H at_94 (py := 109) (pc' := 97) q_le (by decide) rfl (fun c94 => ?_) (fun c94 => ?_)
    · exact absurd c94 (by decide)
    · refine s_aload H at_97 rfl rfl (pc' := 99) rfl ?_
      refine s_lloadn H at_99 rfl (pc' := 100) rfl ?_
      refine s_ldc2 H at_100 (mem (i := 49) rfl) (pc' := 103) rfl ?_
      refine s_ladd H at_103 (pc' := 104) rfl ?_
      refine s_lload H at_104 rfl (pc' := 106) rfl ?_
      refine s_virtual H (met_ka H.tb a1 ea4 es4 ([i1, (i1 + (1 : Int64))] : List Int64) f4 2 (i1 + (2 : Int64)) lim Kes4 (by decide) (by omega)) at_106 (i := 1) rfl (mem (i := 17) rfl) (mem (i := 18) rfl) (mem (i := 20) rfl) (mem (i := 19) rfl) (mem (i := 7) rfl) (mem (i := 21) rfl) (by decide) pd_4 rfl (rest := []) rfl rfl (by decide) (Nat.le_of_ble_eq_true rfl) (cn' := 5) (sn' := 36) rfl rfl (by decide) (by decide) (pc' := 109) rfl (fun _ _ hq => ?_)
      obtain ⟨ea5, es5, f5, F5, Kes5', rfl, rfl⟩ := hq
      show Go Z k 5 36 ((ea5, ArL Z es5) :: (a1, Obj Z "com/example/mangrove/mangrove/MemorySlidingWindowLog$KeyLog" [("com/example/mangrove/mangrove/MemorySlidingWindowLog$KeyLog", "entries", "[J", (.ref ea5)), ("com/example/mangrove/mangrove/MemorySlidingWindowLog$KeyLog", "size", "I", (.int (3 : Nat).toInt32)), ("com/example/mangrove/mangrove/MemorySlidingWindowLog$KeyLog", "first", "I", (.int f5.toInt32))]) :: F5) 109 #[.val (.int i0), .val (.long i1), .second, .val (.long i2), .second, .val (.int cN.toInt32), .val (.int (3 : Int32)), .val (.int (2 : Int32)), .val (.int (1 : Int32)), .val (.long lim), .second, .val (.ref a1), .unset, .unset, .unset, .unset, .unset] []
      have Kes5 : KL es5 f5 3 ([i1, (i1 + (1 : Int64)), (i1 + (2 : Int64))] : List Int64) := Kes5'
      refine s_lloadn H at_109 rfl (pc' := 110) rfl ?_
      refine s_iload H at_110 rfl (pc' := 112) rfl ?_
      refine s_iconst H at_112 (z := (1 : Int32)) (by decide) (pc' := 113) rfl ?_
      refine s_isub H at_113 (pc' := 114) rfl ?_
      refine s_i2l H at_114 (pc' := 115) rfl ?_
      refine s_ladd H at_115 (pc' := 116) rfl ?_
      refine s_lstore H at_116 (L' := fun z => #[.val (.int i0), .val (.long i1), .second, .val (.long i2), .second, .val (.int cN.toInt32), .val (.int (3 : Int32)), .val (.int (2 : Int32)), .val (.int (1 : Int32)), .val (.long lim), .second, .val (.ref a1), .val (.long z), .second, .unset, .unset, .unset]) (fun _ => rfl) (pc' := 118) rfl (fun af h_af => ?_)
      refine s_aload H at_118 rfl rfl (pc' := 120) rfl ?_
      refine s_virtual H (met_kn H.tb a1 ea5 es5 ([i1, (i1 + (1 : Int64))] : List Int64) f5 3 (i1 + (2 : Int64)) Kes5) at_120 (i := 1) rfl (mem (i := 26) rfl) (mem (i := 27) rfl) (mem (i := 29) rfl) (mem (i := 28) rfl) (mem (i := 7) rfl) (mem (i := 30) rfl) (by decide) pd_5 rfl (rest := []) rfl rfl (by decide) (Nat.le_of_ble_eq_true rfl) (cn' := 5) (sn' := 36) rfl rfl (by decide) (by decide) (pc' := 123) rfl (fun _ _ hq => ?_)
      obtain ⟨rfl, rfl⟩ := hq
      show Go Z k 5 36 ((ea5, ArL Z es5) :: (a1, Obj Z "com/example/mangrove/mangrove/MemorySlidingWindowLog$KeyLog" [("com/example/mangrove/mangrove/MemorySlidingWindowLog$KeyLog", "entries", "[J", (.ref ea5)), ("com/example/mangrove/mangrove/MemorySlidingWindowLog$KeyLog", "size", "I", (.int (3 : Nat).toInt32)), ("com/example/mangrove/mangrove/MemorySlidingWindowLog$KeyLog", "first", "I", (.int f5.toInt32))]) :: F5) 123 #[.val (.int i0), .val (.long i1), .second, .val (.long i2), .second, .val (.int cN.toInt32), .val (.int (3 : Int32)), .val (.int (2 : Int32)), .val (.int (1 : Int32)), .val (.long lim), .second, .val (.ref a1), .val (.long af), .second, .unset, .unset, .unset] [(.long (i1 + (2 : Int64)))]
      refine s_lload H at_123 rfl (pc' := 125) rfl ?_
      refine s_lcmp H at_125 (pc' := 126) rfl ?_
      refine s_if H at_126 (py := 133) (pc' := 129) l_ne (by decide) rfl (fun c126 => ?_) (fun c126 => ?_)
      · exact absurd (by rw [h_af, show (((3 : Int32) - (1 : Int32)).toInt64) = 2 from by decide]) c126
      · refine s_iconst H at_129 (z := (1 : Int32)) (by decide) (pc' := 130) rfl ?_
        refine s_goto H at_130 (pc' := 134) (by decide) ?_
        refine s_istore H at_134 (L' := fun z => #[.val (.int i0), .val (.long i1), .second, .val (.long i2), .second, .val (.int cN.toInt32), .val (.int (3 : Int32)), .val (.int (2 : Int32)), .val (.int (1 : Int32)), .val (.long lim), .second, .val (.ref a1), .val (.long af), .second, .val (.int z), .unset, .unset]) (fun _ => rfl) (pc' := 136) rfl (fun z0 hz => ?_)
        subst z0
        refine s_iload H at_136 rfl (pc' := 138) rfl ?_
        refine s_if H at_138 (py := 146) (pc' := 141) z_le (by decide) rfl (fun c138 => ?_) (fun c138 => ?_)
        · exact absurd c138 (by decide)
        · refine s_aload H at_141 rfl rfl (pc' := 143) rfl ?_
          refine s_virtual H (met_kr H.tb a1 ea5 es5 ([(i1 + (1 : Int64)), (i1 + (2 : Int64))] : List Int64) f5 3 i1 Kes5) at_143 (i := 1) rfl (mem (i := 50) rfl) (mem (i := 51) rfl) (mem (i := 53) rfl) (mem (i := 52) rfl) (mem (i := 7) rfl) (mem (i := 54) rfl) (by decide) pd_9 rfl (rest := []) rfl rfl (by decide) (Nat.le_of_ble_eq_true rfl) (cn' := 5) (sn' := 36) rfl rfl (by decide) (by decide) (pc' := 146) rfl (fun _ _ hq => ?_)
          obtain ⟨f6, Kf6', rfl, rfl⟩ := hq
          show Go Z k 5 36 ((ea5, ArL Z es5) :: (a1, Obj Z "com/example/mangrove/mangrove/MemorySlidingWindowLog$KeyLog" [("com/example/mangrove/mangrove/MemorySlidingWindowLog$KeyLog", "entries", "[J", (.ref ea5)), ("com/example/mangrove/mangrove/MemorySlidingWindowLog$KeyLog", "size", "I", (.int (2 : Nat).toInt32)), ("com/example/mangrove/mangrove/MemorySlidingWindowLog$KeyLog", "first", "I", (.int f6.toInt32))]) :: F5) 146 #[.val (.int i0), .val (.long i1), .second, .val (.long i2), .second, .val (.int cN.toInt32), .val (.int (3 : Int32)), .val (.int (2 : Int32)), .val (.int (1 : Int32)), .val (.long lim), .second, .val (.ref a1), .val (.long af), .second, .val (.int (1 : Int32)), .unset, .unset] []
          have Kf6 : KL es5 f6 2 ([(i1 + (1 : Int64)), (i1 + (2 : Int64))] : List Int64) := Kf6'
          refine s_iload H at_146 rfl (pc' := 148) rfl ?_
          refine s_iconst H at_148 (z := (1 : Int32)) (by decide) (pc' := 149) rfl ?_
          refine s_icmp H at_149 (py := 157) (pc' := 152) q_le (by decide) rfl (fun c149 => ?_) (fun c149 => ?_)
          · exact absurd c149 (by decide)
          · refine s_aload H at_152 rfl rfl (pc' := 154) rfl ?_
            refine s_virtual H (met_kr H.tb a1 ea5 es5 ([(i1 + (2 : Int64))] : List Int64) f6 2 (i1 + (1 : Int64)) Kf6) at_154 (i := 1) rfl (mem (i := 50) rfl) (mem (i := 51) rfl) (mem (i := 53) rfl) (mem (i := 52) rfl) (mem (i := 7) rfl) (mem (i := 54) rfl) (by decide) pd_9 rfl (rest := []) rfl rfl (by decide) (Nat.le_of_ble_eq_true rfl) (cn' := 5) (sn' := 36) rfl rfl (by decide) (by decide) (pc' := 157) rfl (fun _ _ hq => ?_)
            obtain ⟨f7, Kf7', rfl, rfl⟩ := hq
            show Go Z k 5 36 ((ea5, ArL Z es5) :: (a1, Obj Z "com/example/mangrove/mangrove/MemorySlidingWindowLog$KeyLog" [("com/example/mangrove/mangrove/MemorySlidingWindowLog$KeyLog", "entries", "[J", (.ref ea5)), ("com/example/mangrove/mangrove/MemorySlidingWindowLog$KeyLog", "size", "I", (.int (1 : Nat).toInt32)), ("com/example/mangrove/mangrove/MemorySlidingWindowLog$KeyLog", "first", "I", (.int f7.toInt32))]) :: F5) 157 #[.val (.int i0), .val (.long i1), .second, .val (.long i2), .second, .val (.int cN.toInt32), .val (.int (3 : Int32)), .val (.int (2 : Int32)), .val (.int (1 : Int32)), .val (.long lim), .second, .val (.ref a1), .val (.long af), .second, .val (.int (1 : Int32)), .unset, .unset] []
            have Kf7 : KL es5 f7 1 ([(i1 + (2 : Int64))] : List Int64) := Kf7'
            refine s_iload H at_157 rfl (pc' := 159) rfl ?_
            refine s_if H at_159 (py := 177) (pc' := 162) z_eq (by decide) rfl (fun c159 => ?_) (fun c159 => ?_)
            · exact absurd c159 (by decide)
            · refine s_aload H at_162 rfl rfl (pc' := 164) rfl ?_
              refine s_virtual H (met_kn H.tb a1 ea5 es5 ([] : List Int64) f7 1 (i1 + (2 : Int64)) Kf7) at_164 (i := 1) rfl (mem (i := 26) rfl) (mem (i := 27) rfl) (mem (i := 29) rfl) (mem (i := 28) rfl) (mem (i := 7) rfl) (mem (i := 30) rfl) (by decide) pd_5 rfl (rest := []) rfl rfl (by decide) (Nat.le_of_ble_eq_true rfl) (cn' := 5) (sn' := 36) rfl rfl (by decide) (by decide) (pc' := 167) rfl (fun _ _ hq => ?_)
              obtain ⟨rfl, rfl⟩ := hq
              show Go Z k 5 36 ((ea5, ArL Z es5) :: (a1, Obj Z "com/example/mangrove/mangrove/MemorySlidingWindowLog$KeyLog" [("com/example/mangrove/mangrove/MemorySlidingWindowLog$KeyLog", "entries", "[J", (.ref ea5)), ("com/example/mangrove/mangrove/MemorySlidingWindowLog$KeyLog", "size", "I", (.int (1 : Nat).toInt32)), ("com/example/mangrove/mangrove/MemorySlidingWindowLog$KeyLog", "first", "I", (.int f7.toInt32))]) :: F5) 167 #[.val (.int i0), .val (.long i1), .second, .val (.long i2), .second, .val (.int cN.toInt32), .val (.int (3 : Int32)), .val (.int (2 : Int32)), .val (.int (1 : Int32)), .val (.long lim), .second, .val (.ref a1), .val (.long af), .second, .val (.int (1 : Int32)), .unset, .unset] [(.long (i1 + (2 : Int64)))]
              refine s_lload H at_167 rfl (pc' := 169) rfl ?_
              refine s_lcmp H at_169 (pc' := 170) rfl ?_
              refine s_if H at_170 (py := 177) (pc' := 173) l_ne (by decide) rfl (fun c170 => ?_) (fun c170 => ?_)
              · exact absurd (by rw [h_af, show (((3 : Int32) - (1 : Int32)).toInt64) = 2 from by decide]) c170
              · refine s_iconst H at_173 (z := (1 : Int32)) (by decide) (pc' := 174) rfl ?_
                refine s_goto H at_174 (pc' := 178) (by decide) ?_
                refine s_istore H at_178 (L' := fun z => #[.val (.int i0), .val (.long i1), .second, .val (.long i2), .second, .val (.int cN.toInt32), .val (.int (3 : Int32)), .val (.int (2 : Int32)), .val (.int (1 : Int32)), .val (.long lim), .second, .val (.ref a1), .val (.long af), .second, .val (.int z), .unset, .unset]) (fun _ => rfl) (pc' := 180) rfl (fun z0 hz => ?_)
                subst z0
                refine s_iload H at_180 rfl (pc' := 182) rfl ?_
                refine s_if H at_182 (py := 197) (pc' := 185) z_le (by decide) rfl (fun c182 => ?_) (fun c182 => ?_)
                · exact absurd c182 (by decide)
                · refine s_aload H at_185 rfl rfl (pc' := 187) rfl ?_
                  refine s_lloadn H at_187 rfl (pc' := 188) rfl ?_
                  refine s_ldc2 H at_188 (mem (i := 46) rfl) (pc' := 191) rfl ?_
                  refine s_ladd H at_191 (pc' := 192) rfl ?_
                  refine s_lload H at_192 rfl (pc' := 194) rfl ?_
                  refine s_virtual H (met_ka H.tb a1 ea5 es5 ([(i1 + (2 : Int64))] : List Int64) f7 1 (i1 + (3 : Int64)) lim Kf7 (by decide) (by omega)) at_194 (i := 1) rfl (mem (i := 17) rfl) (mem (i := 18) rfl) (mem (i := 20) rfl) (mem (i := 19) rfl) (mem (i := 7) rfl) (mem (i := 21) rfl) (by decide) pd_4 rfl (rest := []) rfl rfl (by decide) (Nat.le_of_ble_eq_true rfl) (cn' := 6) (sn' := 46) rfl rfl (by decide) (by decide) (pc' := 197) rfl (fun _ _ hq => ?_)
                  obtain ⟨ea8, es8, f8, F8, Kes8', rfl, rfl⟩ := hq
                  show Go Z k 6 46 ((ea8, ArL Z es8) :: (a1, Obj Z "com/example/mangrove/mangrove/MemorySlidingWindowLog$KeyLog" [("com/example/mangrove/mangrove/MemorySlidingWindowLog$KeyLog", "entries", "[J", (.ref ea8)), ("com/example/mangrove/mangrove/MemorySlidingWindowLog$KeyLog", "size", "I", (.int (2 : Nat).toInt32)), ("com/example/mangrove/mangrove/MemorySlidingWindowLog$KeyLog", "first", "I", (.int f8.toInt32))]) :: F8) 197 #[.val (.int i0), .val (.long i1), .second, .val (.long i2), .second, .val (.int cN.toInt32), .val (.int (3 : Int32)), .val (.int (2 : Int32)), .val (.int (1 : Int32)), .val (.long lim), .second, .val (.ref a1), .val (.long af), .second, .val (.int (1 : Int32)), .unset, .unset] []
                  have Kes8 : KL es8 f8 2 ([(i1 + (2 : Int64)), (i1 + (3 : Int64))] : List Int64) := Kes8'
                  refine s_iload H at_197 rfl (pc' := 199) rfl ?_
                  refine s_iconst H at_199 (z := (1 : Int32)) (by decide) (pc' := 200) rfl ?_
                  refine s_icmp H at_200 (py := 215) (pc' := 203) q_le (by decide) rfl (fun c200 => ?_) (fun c200 => ?_)
                  · refine s_iload H at_215 rfl (pc' := 217) rfl ?_
                    refine s_iconst H at_217 (z := (2 : Int32)) (by decide) (pc' := 218) rfl ?_
                    refine s_icmp H at_218 (py := 233) (pc' := 221) q_le (by decide) rfl (fun c218 => ?_) (fun c218 => ?_)
                    · refine s_iload H at_233 rfl (pc' := 235) rfl ?_
                      refine s_if H at_235 (py := 243) (pc' := 238) z_ne (by decide) rfl (fun c235 => ?_) (fun c235 => ?_)
                      · refine s_lloadn H at_243 rfl (pc' := 244) rfl ?_
                        refine s_iconst H at_244 (z := (2 : Int32)) (by decide) (pc' := 245) rfl ?_
                        refine s_iload H at_245 rfl (pc' := 247) rfl ?_
                        refine s_iadd H at_247 (pc' := 248) rfl ?_
                        refine s_i2l H at_248 (pc' := 249) rfl ?_
                        refine s_ladd H at_249 (pc' := 250) rfl ?_
                        refine s_lstore H at_250 (L' := fun z => #[.val (.int i0), .val (.long i1), .second, .val (.long i2), .second, .val (.int cN.toInt32), .val (.int (3 : Int32)), .val (.int (2 : Int32)), .val (.int (1 : Int32)), .val (.long lim), .second, .val (.ref a1), .val (.long af), .second, .val (.int (1 : Int32)), .val (.long z), .second]) (fun _ => rfl) (pc' := 252) rfl (fun la h_la => ?_)
                        refine s_iload H at_252 rfl (pc' := 254) rfl ?_
                        refine s_if H at_254 (py := 272) (pc' := 257) z_eq (by decide) rfl (fun c254 => ?_) (fun c254 => ?_)
                        · exact absurd c254 (by decide)
                        · refine s_aload H at_257 rfl rfl (pc' := 259) rfl ?_
                          refine s_virtual H (met_kn H.tb a1 ea8 es8 ([(i1 + (2 : Int64))] : List Int64) f8 2 (i1 + (3 : Int64)) Kes8) at_259 (i := 1) rfl (mem (i := 26) rfl) (mem (i := 27) rfl) (mem (i := 29) rfl) (mem (i := 28) rfl) (mem (i := 7) rfl) (mem (i := 30) rfl) (by decide) pd_5 rfl (rest := []) rfl rfl (by decide) (Nat.le_of_ble_eq_true rfl) (cn' := 6) (sn' := 46) rfl rfl (by decide) (by decide) (pc' := 262) rfl (fun _ _ hq => ?_)
                          obtain ⟨rfl, rfl⟩ := hq
                          show Go Z k 6 46 ((ea8, ArL Z es8) :: (a1, Obj Z "com/example/mangrove/mangrove/MemorySlidingWindowLog$KeyLog" [("com/example/mangrove/mangrove/MemorySlidingWindowLog$KeyLog", "entries", "[J", (.ref ea8)), ("com/example/mangrove/mangrove/MemorySlidingWindowLog$KeyLog", "size", "I", (.int (2 : Nat).toInt32)), ("com/example/mangrove/mangrove/MemorySlidingWindowLog$KeyLog", "first", "I", (.int f8.toInt32))]) :: F8) 262 #[.val (.int i0), .val (.long i1), .second, .val (.long i2), .second, .val (.int cN.toInt32), .val (.int (3 : Int32)), .val (.int (2 : Int32)), .val (.int (1 : Int32)), .val (.long lim), .second, .val (.ref a1), .val (.long af), .second, .val (.int (1 : Int32)), .val (.long la), .second] [(.long (i1 + (3 : Int64)))]
                          refine s_lload H at_262 rfl (pc' := 264) rfl ?_
                          refine s_lcmp H at_264 (pc' := 265) rfl ?_
                          refine s_if H at_265 (py := 272) (pc' := 268) l_ne (by decide) rfl (fun c265 => ?_) (fun c265 => ?_)
                          · exact absurd (by rw [h_la, show (((2 : Int32) + (1 : Int32)).toInt64) = 3 from by decide]) c265
                          · refine s_iconst H at_268 (z := (1 : Int32)) (by decide) (pc' := 269) rfl ?_
                            refine s_goto H at_269 (pc' := 273) (by decide) ?_
                            exact s_iret H at_273 rfl (by simp) (by decide) (by decide) (rfl)
                      · exact absurd c235 (by decide)
                    · exact absurd c218 (by decide)
                  · exact absurd c200 (by decide)
set_option maxRecDepth 65536 in
set_option maxHeartbeats 40000000 in
theorem s42_3_2_2 {Z : State} {k : Cx} {i0 : Int32} {i1 i2 : Int64} (cN : Nat) (H : Ok Z k room_1 (LQ) x code maxLocals ret) (h0 : 0 < cN) (hc : cN ≤ 3) : Go Z k 0 0 ([] : Hp) 42 #[.val (.int i0), .val (.long i1), .second, .val (.long i2), .second, .val (.int cN.toInt32), .val (.int (3 : Int32)), .val (.int (2 : Int32)), .val (.int (2 : Int32)), .unset, .unset, .unset, .unset, .unset, .unset, .unset, .unset] [] := by
  refine s_iload H at_42 rfl (pc' := 44) rfl ?_
  refine s_iload H at_44 rfl (pc' := 46) rfl ?_
  refine s_iadd H at_46 (pc' := 47) rfl ?_
  refine s_i2l H at_47 (pc' := 48) rfl ?_
  refine s_lloadn H at_48 rfl (pc' := 49) rfl ?_
  refine s_ldc2 H at_49 (mem (i := 4) rfl) (pc' := 52) rfl ?_
  refine s_land H at_52 (pc' := 53) rfl ?_
  refine s_ladd H at_53 (pc' := 54) rfl ?_
  refine s_lstore H at_54 (L' := fun z => #[.val (.int i0), .val (.long i1), .second, .val (.long i2), .second, .val (.int cN.toInt32), .val (.int (3 : Int32)), .val (.int (2 : Int32)), .val (.int (2 : Int32)), .val (.long z), .second, .unset, .unset, .unset, .unset, .unset, .unset]) (fun _ => rfl) (pc' := 56) rfl (fun lim h_lim => ?_)
  have hl : 5 ≤ lim.toInt := by
    have m := c_maskL i2 4611686018427387903 62 (by decide) (by decide)
    have s := c_ladd ((((3 : Int32) + (2 : Int32)).toInt64)) (i2 &&& 4611686018427387903)
    rw [← h_lim, show ((((3 : Int32) + (2 : Int32)).toInt64)).toInt = 5 from by decide] at s
    have rl := rng64 lim
    omega
  refine s_new H (C := "com/example/mangrove/mangrove/MemorySlidingWindowLog$KeyLog") [("com/example/mangrove/mangrove/MemorySlidingWindowLog$KeyLog", "entries", "[J", .null), ("com/example/mangrove/mangrove/MemorySlidingWindowLog$KeyLog", "size", "I", (.int (0 : Int32))), ("com/example/mangrove/mangrove/MemorySlidingWindowLog$KeyLog", "first", "I", (.int (0 : Int32)))] at_56 (mem (i := 5) rfl) (mem (i := 6) rfl) (mem (i := 7) rfl) (allC ⟨Or.inl (mem (i := 16) rfl), (.array .long), by decide, rfl⟩ (allC ⟨Or.inl (mem (i := 23) rfl), .int, by decide, rfl⟩ (allC ⟨Or.inl (mem (i := 25) rfl), .int, by decide, rfl⟩ allN))) (by decide) (cn' := 1) (sn' := 3) rfl rfl (by decide) (by decide) (pc' := 59) rfl (fun a1 => ?_)
  refine s_dup H at_59 rfl (pc' := 60) rfl ?_
  refine s_iload H at_60 rfl (pc' := 62) rfl ?_
  refine s_init H (met_ki H.tb a1 cN hc) at_62 rfl (mem (i := 8) rfl) (mem (i := 9) rfl) (mem (i := 7) rfl) (mem (i := 10) rfl) (by decide) pd_2 rfl (rest := [(.ref a1)]) rfl rfl (by decide) (Nat.le_of_ble_eq_true rfl) (cn' := 2) (sn' := 6) rfl rfl (by decide) (by decide) (pc' := 65) rfl (fun _ _ hq => ?_)
  obtain ⟨ea, rfl, rfl⟩ := hq
  show Go Z k 2 6 ((ea, ArL Z (List.replicate cN 0)) :: (a1, Obj Z "com/example/mangrove/mangrove/MemorySlidingWindowLog$KeyLog" [("com/example/mangrove/mangrove/MemorySlidingWindowLog$KeyLog", "entries", "[J", (.ref ea)), ("com/example/mangrove/mangrove/MemorySlidingWindowLog$KeyLog", "size", "I", (.int (0 : Nat).toInt32)), ("com/example/mangrove/mangrove/MemorySlidingWindowLog$KeyLog", "first", "I", (.int (0 : Nat).toInt32))]) :: []) 65 #[.val (.int i0), .val (.long i1), .second, .val (.long i2), .second, .val (.int cN.toInt32), .val (.int (3 : Int32)), .val (.int (2 : Int32)), .val (.int (2 : Int32)), .val (.long lim), .second, .unset, .unset, .unset, .unset, .unset, .unset] [(.ref a1)]
  obtain ⟨es2, he, les2, Kes2⟩ : ∃ es : List Int64, es = List.replicate cN 0 ∧ es.length = cN ∧ KL es 0 0 [] := ⟨_, rfl, by simp, KL.new (by omega) (by omega)⟩
  rw [← he]
  clear he
  show Go Z k 2 6 ((ea, ArL Z es2) :: (a1, Obj Z "com/example/mangrove/mangrove/MemorySlidingWindowLog$KeyLog" [("com/example/mangrove/mangrove/MemorySlidingWindowLog$KeyLog", "entries", "[J", (.ref ea)), ("com/example/mangrove/mangrove/MemorySlidingWindowLog$KeyLog", "size", "I", (.int (0 : Nat).toInt32)), ("com/example/mangrove/mangrove/MemorySlidingWindowLog$KeyLog", "first", "I", (.int (0 : Nat).toInt32))]) :: []) 65 #[.val (.int i0), .val (.long i1), .second, .val (.long i2), .second, .val (.int cN.toInt32), .val (.int (3 : Int32)), .val (.int (2 : Int32)), .val (.int (2 : Int32)), .val (.long lim), .second, .unset, .unset, .unset, .unset, .unset, .unset] [(.ref a1)]
  refine s_astore H at_65 (L' := #[.val (.int i0), .val (.long i1), .second, .val (.long i2), .second, .val (.int cN.toInt32), .val (.int (3 : Int32)), .val (.int (2 : Int32)), .val (.int (2 : Int32)), .val (.long lim), .second, .val (.ref a1), .unset, .unset, .unset, .unset, .unset]) rfl rfl (pc' := 67) rfl ?_
  refine s_aload H at_67 rfl rfl (pc' := 69) rfl ?_
  refine s_lloadn H at_69 rfl (pc' := 70) rfl ?_
  refine s_lload H at_70 rfl (pc' := 72) rfl ?_
  refine s_virtual H (met_ka H.tb a1 ea es2 ([] : List Int64) (0 : Nat) 0 i1 lim Kes2 (by decide) (by omega)) at_72 (i := 1) rfl (mem (i := 17) rfl) (mem (i := 18) rfl) (mem (i := 20) rfl) (mem (i := 19) rfl) (mem (i := 7) rfl) (mem (i := 21) rfl) (by decide) pd_4 rfl (rest := []) rfl rfl (by decide) (Nat.le_of_ble_eq_true rfl) (cn' := 3) (sn' := 16) rfl rfl (by decide) (by decide) (pc' := 75) rfl (fun _ _ hq => ?_)
  obtain ⟨ea3, es3, f3, F3, Kes3', rfl, rfl⟩ := hq
  show Go Z k 3 16 ((ea3, ArL Z es3) :: (a1, Obj Z "com/example/mangrove/mangrove/MemorySlidingWindowLog$KeyLog" [("com/example/mangrove/mangrove/MemorySlidingWindowLog$KeyLog", "entries", "[J", (.ref ea3)), ("com/example/mangrove/mangrove/MemorySlidingWindowLog$KeyLog", "size", "I", (.int (1 : Nat).toInt32)), ("com/example/mangrove/mangrove/MemorySlidingWindowLog$KeyLog", "first", "I", (.int f3.toInt32))]) :: F3) 75 #[.val (.int i0), .val (.long i1), .second, .val (.long i2), .second, .val (.int cN.toInt32), .val (.int (3 : Int32)), .val (.int (2 : Int32)), .val (.int (2 : Int32)), .val (.long lim), .second, .val (.ref a1), .unset, .unset, .unset, .unset, .unset] []
  have Kes3 : KL es3 f3 1 ([i1] : List Int64) := Kes3'
  refine s_iload H at_75 rfl (pc' := 77) rfl ?_
  refine s_iconst H at_77 (z := (1 : Int32)) (by decide) (pc' := 78) rfl ?_
  refine s_icmp H at_78 (py := 91) (pc' := 81) q_le (by decide) rfl (fun c78 => ?_) (fun c78 => ?_)
  · exact absurd c78 (by decide)
  · refine s_aload H at_81 rfl rfl (pc' := 83) rfl ?_
    refine s_lloadn H at_83 rfl (pc' := 84) rfl ?_
    refine s_lconst H at_84 (z := (1 : Int64)) (by decide) (pc' := 85) rfl ?_
    refine s_ladd H at_85 (pc' := 86) rfl ?_
    refine s_lload H at_86 rfl (pc' := 88) rfl ?_
    refine s_virtual H (met_ka H.tb a1 ea3 es3 ([i1] : List Int64) f3 1 (i1 + (1 : Int64)) lim Kes3 (by decide) (by omega)) at_88 (i := 1) rfl (mem (i := 17) rfl) (mem (i := 18) rfl) (mem (i := 20) rfl) (mem (i := 19) rfl) (mem (i := 7) rfl) (mem (i := 21) rfl) (by decide) pd_4 rfl (rest := []) rfl rfl (by decide) (Nat.le_of_ble_eq_true rfl) (cn' := 4) (sn' := 26) rfl rfl (by decide) (by decide) (pc' := 91) rfl (fun _ _ hq => ?_)
    obtain ⟨ea4, es4, f4, F4, Kes4', rfl, rfl⟩ := hq
    show Go Z k 4 26 ((ea4, ArL Z es4) :: (a1, Obj Z "com/example/mangrove/mangrove/MemorySlidingWindowLog$KeyLog" [("com/example/mangrove/mangrove/MemorySlidingWindowLog$KeyLog", "entries", "[J", (.ref ea4)), ("com/example/mangrove/mangrove/MemorySlidingWindowLog$KeyLog", "size", "I", (.int (2 : Nat).toInt32)), ("com/example/mangrove/mangrove/MemorySlidingWindowLog$KeyLog", "first", "I", (.int f4.toInt32))]) :: F4) 91 #[.val (.int i0), .val (.long i1), .second, .val (.long i2), .second, .val (.int cN.toInt32), .val (.int (3 : Int32)), .val (.int (2 : Int32)), .val (.int (2 : Int32)), .val (.long lim), .second, .val (.ref a1), .unset, .unset, .unset, .unset, .unset] []
    have Kes4 : KL es4 f4 2 ([i1, (i1 + (1 : Int64))] : List Int64) := Kes4'
    refine s_iload H at_91 rfl (pc' := 93) rfl ?_
    refine s_iconst H at_93 (z := (2 : Int32)) (by decide) (pc' := 94) rfl ?_
    refine s_icmp H at_94 (py := 109) (pc' := 97) q_le (by decide) rfl (fun c94 => ?_) (fun c94 => ?_)
    · exact absurd c94 (by decide)
    · refine s_aload H at_97 rfl rfl (pc' := 99) rfl ?_
      refine s_lloadn H at_99 rfl (pc' := 100) rfl ?_
      refine s_ldc2 H at_100 (mem (i := 49) rfl) (pc' := 103) rfl ?_
      refine s_ladd H at_103 (pc' := 104) rfl ?_
      refine s_lload H at_104 rfl (pc' := 106) rfl ?_
      refine s_virtual H (met_ka H.tb a1 ea4 es4 ([i1, (i1 + (1 : Int64))] : List Int64) f4 2 (i1 + (2 : Int64)) lim Kes4 (by decide) (by omega)) at_106 (i := 1) rfl (mem (i := 17) rfl) (mem (i := 18) rfl) (mem (i := 20) rfl) (mem (i := 19) rfl) (mem (i := 7) rfl) (mem (i := 21) rfl) (by decide) pd_4 rfl (rest := []) rfl rfl (by decide) (Nat.le_of_ble_eq_true rfl) (cn' := 5) (sn' := 36) rfl rfl (by decide) (by decide) (pc' := 109) rfl (fun _ _ hq => ?_)
      obtain ⟨ea5, es5, f5, F5, Kes5', rfl, rfl⟩ := hq
      show Go Z k 5 36 ((ea5, ArL Z es5) :: (a1, Obj Z "com/example/mangrove/mangrove/MemorySlidingWindowLog$KeyLog" [("com/example/mangrove/mangrove/MemorySlidingWindowLog$KeyLog", "entries", "[J", (.ref ea5)), ("com/example/mangrove/mangrove/MemorySlidingWindowLog$KeyLog", "size", "I", (.int (3 : Nat).toInt32)), ("com/example/mangrove/mangrove/MemorySlidingWindowLog$KeyLog", "first", "I", (.int f5.toInt32))]) :: F5) 109 #[.val (.int i0), .val (.long i1), .second, .val (.long i2), .second, .val (.int cN.toInt32), .val (.int (3 : Int32)), .val (.int (2 : Int32)), .val (.int (2 : Int32)), .val (.long lim), .second, .val (.ref a1), .unset, .unset, .unset, .unset, .unset] []
      have Kes5 : KL es5 f5 3 ([i1, (i1 + (1 : Int64)), (i1 + (2 : Int64))] : List Int64) := Kes5'
      refine s_lloadn H at_109 rfl (pc' := 110) rfl ?_
      refine s_iload H at_110 rfl (pc' := 112) rfl ?_
      refine s_iconst H at_112 (z := (1 : Int32)) (by decide) (pc' := 113) rfl ?_
      refine s_isub H at_113 (pc' := 114) rfl ?_
      refine s_i2l H at_114 (pc' := 115) rfl ?_
      refine s_ladd H at_115 (pc' := 116) rfl ?_
      refine s_lstore H at_116 (L' := fun z => #[.val (.int i0), .val (.long i1), .second, .val (.long i2), .second, .val (.int cN.toInt32), .val (.int (3 : Int32)), .val (.int (2 : Int32)), .val (.int (2 : Int32)), .val (.long lim), .second, .val (.ref a1), .val (.long z), .second, .unset, .unset, .unset]) (fun _ => rfl) (pc' := 118) rfl (fun af h_af => ?_)
      refine s_aload H at_118 rfl rfl (pc' := 120) rfl ?_
      refine s_virtual H (met_kn H.tb a1 ea5 es5 ([i1, (i1 + (1 : Int64))] : List Int64) f5 3 (i1 + (2 : Int64)) Kes5) at_120 (i := 1) rfl (mem (i := 26) rfl) (mem (i := 27) rfl) (mem (i := 29) rfl) (mem (i := 28) rfl) (mem (i := 7) rfl) (mem (i := 30) rfl) (by decide) pd_5 rfl (rest := []) rfl rfl (by decide) (Nat.le_of_ble_eq_true rfl) (cn' := 5) (sn' := 36) rfl rfl (by decide) (by decide) (pc' := 123) rfl (fun _ _ hq => ?_)
      obtain ⟨rfl, rfl⟩ := hq
      show Go Z k 5 36 ((ea5, ArL Z es5) :: (a1, Obj Z "com/example/mangrove/mangrove/MemorySlidingWindowLog$KeyLog" [("com/example/mangrove/mangrove/MemorySlidingWindowLog$KeyLog", "entries", "[J", (.ref ea5)), ("com/example/mangrove/mangrove/MemorySlidingWindowLog$KeyLog", "size", "I", (.int (3 : Nat).toInt32)), ("com/example/mangrove/mangrove/MemorySlidingWindowLog$KeyLog", "first", "I", (.int f5.toInt32))]) :: F5) 123 #[.val (.int i0), .val (.long i1), .second, .val (.long i2), .second, .val (.int cN.toInt32), .val (.int (3 : Int32)), .val (.int (2 : Int32)), .val (.int (2 : Int32)), .val (.long lim), .second, .val (.ref a1), .val (.long af), .second, .unset, .unset, .unset] [(.long (i1 + (2 : Int64)))]
      refine s_lload H at_123 rfl (pc' := 125) rfl ?_
      refine s_lcmp H at_125 (pc' := 126) rfl ?_
      refine s_if H at_126 (py := 133) (pc' := 129) l_ne (by decide) rfl (fun c126 => ?_) (fun c126 => ?_)
      · exact absurd (by rw [h_af, show (((3 : Int32) - (1 : Int32)).toInt64) = 2 from by decide]) c126
      · refine s_iconst H at_129 (z := (1 : Int32)) (by decide) (pc' := 130) rfl ?_
        refine s_goto H at_130 (pc' := 134) (by decide) ?_
        refine s_istore H at_134 (L' := fun z => #[.val (.int i0), .val (.long i1), .second, .val (.long i2), .second, .val (.int cN.toInt32), .val (.int (3 : Int32)), .val (.int (2 : Int32)), .val (.int (2 : Int32)), .val (.long lim), .second, .val (.ref a1), .val (.long af), .second, .val (.int z), .unset, .unset]) (fun _ => rfl) (pc' := 136) rfl (fun z0 hz => ?_)
        subst z0
        refine s_iload H at_136 rfl (pc' := 138) rfl ?_
        refine s_if H at_138 (py := 146) (pc' := 141) z_le (by decide) rfl (fun c138 => ?_) (fun c138 => ?_)
        · exact absurd c138 (by decide)
        · refine s_aload H at_141 rfl rfl (pc' := 143) rfl ?_
          refine s_virtual H (met_kr H.tb a1 ea5 es5 ([(i1 + (1 : Int64)), (i1 + (2 : Int64))] : List Int64) f5 3 i1 Kes5) at_143 (i := 1) rfl (mem (i := 50) rfl) (mem (i := 51) rfl) (mem (i := 53) rfl) (mem (i := 52) rfl) (mem (i := 7) rfl) (mem (i := 54) rfl) (by decide) pd_9 rfl (rest := []) rfl rfl (by decide) (Nat.le_of_ble_eq_true rfl) (cn' := 5) (sn' := 36) rfl rfl (by decide) (by decide) (pc' := 146) rfl (fun _ _ hq => ?_)
          obtain ⟨f6, Kf6', rfl, rfl⟩ := hq
          show Go Z k 5 36 ((ea5, ArL Z es5) :: (a1, Obj Z "com/example/mangrove/mangrove/MemorySlidingWindowLog$KeyLog" [("com/example/mangrove/mangrove/MemorySlidingWindowLog$KeyLog", "entries", "[J", (.ref ea5)), ("com/example/mangrove/mangrove/MemorySlidingWindowLog$KeyLog", "size", "I", (.int (2 : Nat).toInt32)), ("com/example/mangrove/mangrove/MemorySlidingWindowLog$KeyLog", "first", "I", (.int f6.toInt32))]) :: F5) 146 #[.val (.int i0), .val (.long i1), .second, .val (.long i2), .second, .val (.int cN.toInt32), .val (.int (3 : Int32)), .val (.int (2 : Int32)), .val (.int (2 : Int32)), .val (.long lim), .second, .val (.ref a1), .val (.long af), .second, .val (.int (1 : Int32)), .unset, .unset] []
          have Kf6 : KL es5 f6 2 ([(i1 + (1 : Int64)), (i1 + (2 : Int64))] : List Int64) := Kf6'
          refine s_iload H at_146 rfl (pc' := 148) rfl ?_
          refine s_iconst H at_148 (z := (1 : Int32)) (by decide) (pc' := 149) rfl ?_
          refine s_icmp H at_149 (py := 157) (pc' := 152) q_le (by decide) rfl (fun c149 => ?_) (fun c149 => ?_)
          · exact absurd c149 (by decide)
          · refine s_aload H at_152 rfl rfl (pc' := 154) rfl ?_
            refine s_virtual H (met_kr H.tb a1 ea5 es5 ([(i1 + (2 : Int64))] : List Int64) f6 2 (i1 + (1 : Int64)) Kf6) at_154 (i := 1) rfl (mem (i := 50) rfl) (mem (i := 51) rfl) (mem (i := 53) rfl) (mem (i := 52) rfl) (mem (i := 7) rfl) (mem (i := 54) rfl) (by decide) pd_9 rfl (rest := []) rfl rfl (by decide) (Nat.le_of_ble_eq_true rfl) (cn' := 5) (sn' := 36) rfl rfl (by decide) (by decide) (pc' := 157) rfl (fun _ _ hq => ?_)
            obtain ⟨f7, Kf7', rfl, rfl⟩ := hq
            show Go Z k 5 36 ((ea5, ArL Z es5) :: (a1, Obj Z "com/example/mangrove/mangrove/MemorySlidingWindowLog$KeyLog" [("com/example/mangrove/mangrove/MemorySlidingWindowLog$KeyLog", "entries", "[J", (.ref ea5)), ("com/example/mangrove/mangrove/MemorySlidingWindowLog$KeyLog", "size", "I", (.int (1 : Nat).toInt32)), ("com/example/mangrove/mangrove/MemorySlidingWindowLog$KeyLog", "first", "I", (.int f7.toInt32))]) :: F5) 157 #[.val (.int i0), .val (.long i1), .second, .val (.long i2), .second, .val (.int cN.toInt32), .val (.int (3 : Int32)), .val (.int (2 : Int32)), .val (.int (2 : Int32)), .val (.long lim), .second, .val (.ref a1), .val (.long af), .second, .val (.int (1 : Int32)), .unset, .unset] []
            have Kf7 : KL es5 f7 1 ([(i1 + (2 : Int64))] : List Int64) := Kf7'
            refine s_iload H at_157 rfl (pc' := 159) rfl ?_
            refine s_if H at_159 (py := 177) (pc' := 162) z_eq (by decide) rfl (fun c159 => ?_) (fun c159 => ?_)
            · exact absurd c159 (by decide)
            · refine s_aload H at_162 rfl rfl (pc' := 164) rfl ?_
              refine s_virtual H (met_kn H.tb a1 ea5 es5 ([] : List Int64) f7 1 (i1 + (2 : Int64)) Kf7) at_164 (i := 1) rfl (mem (i := 26) rfl) (mem (i := 27) rfl) (mem (i := 29) rfl) (mem (i := 28) rfl) (mem (i := 7) rfl) (mem (i := 30) rfl) (by decide) pd_5 rfl (rest := []) rfl rfl (by decide) (Nat.le_of_ble_eq_true rfl) (cn' := 5) (sn' := 36) rfl rfl (by decide) (by decide) (pc' := 167) rfl (fun _ _ hq => ?_)
              obtain ⟨rfl, rfl⟩ := hq
              show Go Z k 5 36 ((ea5, ArL Z es5) :: (a1, Obj Z "com/example/mangrove/mangrove/MemorySlidingWindowLog$KeyLog" [("com/example/mangrove/mangrove/MemorySlidingWindowLog$KeyLog", "entries", "[J", (.ref ea5)), ("com/example/mangrove/mangrove/MemorySlidingWindowLog$KeyLog", "size", "I", (.int (1 : Nat).toInt32)), ("com/example/mangrove/mangrove/MemorySlidingWindowLog$KeyLog", "first", "I", (.int f7.toInt32))]) :: F5) 167 #[.val (.int i0), .val (.long i1), .second, .val (.long i2), .second, .val (.int cN.toInt32), .val (.int (3 : Int32)), .val (.int (2 : Int32)), .val (.int (2 : Int32)), .val (.long lim), .second, .val (.ref a1), .val (.long af), .second, .val (.int (1 : Int32)), .unset, .unset] [(.long (i1 + (2 : Int64)))]
              refine s_lload H at_167 rfl (pc' := 169) rfl ?_
              refine s_lcmp H at_169 (pc' := 170) rfl ?_
              refine s_if H at_170 (py := 177) (pc' := 173) l_ne (by decide) rfl (fun c170 => ?_) (fun c170 => ?_)
              · exact absurd (by rw [h_af, show (((3 : Int32) - (1 : Int32)).toInt64) = 2 from by decide]) c170
              · refine s_iconst H at_173 (z := (1 : Int32)) (by decide) (pc' := 174) rfl ?_
                refine s_goto H at_174 (pc' := 178) (by decide) ?_
                refine s_istore H at_178 (L' := fun z => #[.val (.int i0), .val (.long i1), .second, .val (.long i2), .second, .val (.int cN.toInt32), .val (.int (3 : Int32)), .val (.int (2 : Int32)), .val (.int (2 : Int32)), .val (.long lim), .second, .val (.ref a1), .val (.long af), .second, .val (.int z), .unset, .unset]) (fun _ => rfl) (pc' := 180) rfl (fun z0 hz => ?_)
                subst z0
                refine s_iload H at_180 rfl (pc' := 182) rfl ?_
                refine s_if H at_182 (py := 197) (pc' := 185) z_le (by decide) rfl (fun c182 => ?_) (fun c182 => ?_)
                · exact absurd c182 (by decide)
                · refine s_aload H at_185 rfl rfl (pc' := 187) rfl ?_
                  refine s_lloadn H at_187 rfl (pc' := 188) rfl ?_
                  refine s_ldc2 H at_188 (mem (i := 46) rfl) (pc' := 191) rfl ?_
                  refine s_ladd H at_191 (pc' := 192) rfl ?_
                  refine s_lload H at_192 rfl (pc' := 194) rfl ?_
                  refine s_virtual H (met_ka H.tb a1 ea5 es5 ([(i1 + (2 : Int64))] : List Int64) f7 1 (i1 + (3 : Int64)) lim Kf7 (by decide) (by omega)) at_194 (i := 1) rfl (mem (i := 17) rfl) (mem (i := 18) rfl) (mem (i := 20) rfl) (mem (i := 19) rfl) (mem (i := 7) rfl) (mem (i := 21) rfl) (by decide) pd_4 rfl (rest := []) rfl rfl (by decide) (Nat.le_of_ble_eq_true rfl) (cn' := 6) (sn' := 46) rfl rfl (by decide) (by decide) (pc' := 197) rfl (fun _ _ hq => ?_)
                  obtain ⟨ea8, es8, f8, F8, Kes8', rfl, rfl⟩ := hq
                  show Go Z k 6 46 ((ea8, ArL Z es8) :: (a1, Obj Z "com/example/mangrove/mangrove/MemorySlidingWindowLog$KeyLog" [("com/example/mangrove/mangrove/MemorySlidingWindowLog$KeyLog", "entries", "[J", (.ref ea8)), ("com/example/mangrove/mangrove/MemorySlidingWindowLog$KeyLog", "size", "I", (.int (2 : Nat).toInt32)), ("com/example/mangrove/mangrove/MemorySlidingWindowLog$KeyLog", "first", "I", (.int f8.toInt32))]) :: F8) 197 #[.val (.int i0), .val (.long i1), .second, .val (.long i2), .second, .val (.int cN.toInt32), .val (.int (3 : Int32)), .val (.int (2 : Int32)), .val (.int (2 : Int32)), .val (.long lim), .second, .val (.ref a1), .val (.long af), .second, .val (.int (1 : Int32)), .unset, .unset] []
                  have Kes8 : KL es8 f8 2 ([(i1 + (2 : Int64)), (i1 + (3 : Int64))] : List Int64) := Kes8'
                  refine s_iload H at_197 rfl (pc' := 199) rfl ?_
                  refine s_iconst H at_199 (z := (1 : Int32)) (by decide) (pc' := 200) rfl ?_
                  refine s_icmp H at_200 (py := 215) (pc' := 203) q_le (by decide) rfl (fun c200 => ?_) (fun c200 => ?_)
                  · exact absurd c200 (by decide)
                  · refine s_aload H at_203 rfl rfl (pc' := 205) rfl ?_
                    refine s_lloadn H at_205 rfl (pc' := 206) rfl ?_
                    refine s_ldc2 H at_206 (mem (i := 47) rfl) (pc' := 209) rfl ?_
                    refine s_ladd H at_209 (pc' := 210) rfl ?_
                    refine s_lload H at_210 rfl (pc' := 212) rfl ?_
                    refine s_virtual H (met_ka H.tb a1 ea8 es8 ([(i1 + (2 : Int64)), (i1 + (3 : Int64))] : List Int64) f8 2 (i1 + (4 : Int64)) lim Kes8 (by decide) (by omega)) at_212 (i := 1) rfl (mem (i := 17) rfl) (mem (i := 18) rfl) (mem (i := 20) rfl) (mem (i := 19) rfl) (mem (i := 7) rfl) (mem (i := 21) rfl) (by decide) pd_4 rfl (rest := []) rfl rfl (by decide) (Nat.le_of_ble_eq_true rfl) (cn' := 7) (sn' := 56) rfl rfl (by decide) (by decide) (pc' := 215) rfl (fun _ _ hq => ?_)
                    obtain ⟨ea9, es9, f9, F9, Kes9', rfl, rfl⟩ := hq
                    show Go Z k 7 56 ((ea9, ArL Z es9) :: (a1, Obj Z "com/example/mangrove/mangrove/MemorySlidingWindowLog$KeyLog" [("com/example/mangrove/mangrove/MemorySlidingWindowLog$KeyLog", "entries", "[J", (.ref ea9)), ("com/example/mangrove/mangrove/MemorySlidingWindowLog$KeyLog", "size", "I", (.int (3 : Nat).toInt32)), ("com/example/mangrove/mangrove/MemorySlidingWindowLog$KeyLog", "first", "I", (.int f9.toInt32))]) :: F9) 215 #[.val (.int i0), .val (.long i1), .second, .val (.long i2), .second, .val (.int cN.toInt32), .val (.int (3 : Int32)), .val (.int (2 : Int32)), .val (.int (2 : Int32)), .val (.long lim), .second, .val (.ref a1), .val (.long af), .second, .val (.int (1 : Int32)), .unset, .unset] []
                    have Kes9 : KL es9 f9 3 ([(i1 + (2 : Int64)), (i1 + (3 : Int64)), (i1 + (4 : Int64))] : List Int64) := Kes9'
                    refine s_iload H at_215 rfl (pc' := 217) rfl ?_
                    refine s_iconst H at_217 (z := (2 : Int32)) (by decide) (pc' := 218) rfl ?_
                    refine s_icmp H at_218 (py := 233) (pc' := 221) q_le (by decide) rfl (fun c218 => ?_) (fun c218 => ?_)
                    · refine s_iload H at_233 rfl (pc' := 235) rfl ?_
                      refine s_if H at_235 (py := 243) (pc' := 238) z_ne (by decide) rfl (fun c235 => ?_) (fun c235 => ?_)
                      · refine s_lloadn H at_243 rfl (pc' := 244) rfl ?_
                        refine s_iconst H at_244 (z := (2 : Int32)) (by decide) (pc' := 245) rfl ?_
                        refine s_iload H at_245 rfl (pc' := 247) rfl ?_
                        refine s_iadd H at_247 (pc' := 248) rfl ?_
                        refine s_i2l H at_248 (pc' := 249) rfl ?_
                        refine s_ladd H at_249 (pc' := 250) rfl ?_
                        refine s_lstore H at_250 (L' := fun z => #[.val (.int i0), .val (.long i1), .second, .val (.long i2), .second, .val (.int cN.toInt32), .val (.int (3 : Int32)), .val (.int (2 : Int32)), .val (.int (2 : Int32)), .val (.long lim), .second, .val (.ref a1), .val (.long af), .second, .val (.int (1 : Int32)), .val (.long z), .second]) (fun _ => rfl) (pc' := 252) rfl (fun la h_la => ?_)
                        refine s_iload H at_252 rfl (pc' := 254) rfl ?_
                        refine s_if H at_254 (py := 272) (pc' := 257) z_eq (by decide) rfl (fun c254 => ?_) (fun c254 => ?_)
                        · exact absurd c254 (by decide)
                        · refine s_aload H at_257 rfl rfl (pc' := 259) rfl ?_
                          refine s_virtual H (met_kn H.tb a1 ea9 es9 ([(i1 + (2 : Int64)), (i1 + (3 : Int64))] : List Int64) f9 3 (i1 + (4 : Int64)) Kes9) at_259 (i := 1) rfl (mem (i := 26) rfl) (mem (i := 27) rfl) (mem (i := 29) rfl) (mem (i := 28) rfl) (mem (i := 7) rfl) (mem (i := 30) rfl) (by decide) pd_5 rfl (rest := []) rfl rfl (by decide) (Nat.le_of_ble_eq_true rfl) (cn' := 7) (sn' := 56) rfl rfl (by decide) (by decide) (pc' := 262) rfl (fun _ _ hq => ?_)
                          obtain ⟨rfl, rfl⟩ := hq
                          show Go Z k 7 56 ((ea9, ArL Z es9) :: (a1, Obj Z "com/example/mangrove/mangrove/MemorySlidingWindowLog$KeyLog" [("com/example/mangrove/mangrove/MemorySlidingWindowLog$KeyLog", "entries", "[J", (.ref ea9)), ("com/example/mangrove/mangrove/MemorySlidingWindowLog$KeyLog", "size", "I", (.int (3 : Nat).toInt32)), ("com/example/mangrove/mangrove/MemorySlidingWindowLog$KeyLog", "first", "I", (.int f9.toInt32))]) :: F9) 262 #[.val (.int i0), .val (.long i1), .second, .val (.long i2), .second, .val (.int cN.toInt32), .val (.int (3 : Int32)), .val (.int (2 : Int32)), .val (.int (2 : Int32)), .val (.long lim), .second, .val (.ref a1), .val (.long af), .second, .val (.int (1 : Int32)), .val (.long la), .second] [(.long (i1 + (4 : Int64)))]
                          refine s_lload H at_262 rfl (pc' := 264) rfl ?_
                          refine s_lcmp H at_264 (pc' := 265) rfl ?_
                          refine s_if H at_265 (py := 272) (pc' := 268) l_ne (by decide) rfl (fun c265 => ?_) (fun c265 => ?_)
                          · exact absurd (by rw [h_la, show (((2 : Int32) + (2 : Int32)).toInt64) = 4 from by decide]) c265
                          · refine s_iconst H at_268 (z := (1 : Int32)) (by decide) (pc' := 269) rfl ?_
                            refine s_goto H at_269 (pc' := 273) (by decide) ?_
                            exact s_iret H at_273 rfl (by simp) (by decide) (by decide) (rfl)
                      · exact absurd c235 (by decide)
                    · exact absurd c218 (by decide)
set_option maxRecDepth 65536 in
set_option maxHeartbeats 40000000 in
theorem s42_3_2_3 {Z : State} {k : Cx} {i0 : Int32} {i1 i2 : Int64} (cN : Nat) (H : Ok Z k room_1 (LQ) x code maxLocals ret) (h0 : 0 < cN) (hc : cN ≤ 3) : Go Z k 0 0 ([] : Hp) 42 #[.val (.int i0), .val (.long i1), .second, .val (.long i2), .second, .val (.int cN.toInt32), .val (.int (3 : Int32)), .val (.int (2 : Int32)), .val (.int (3 : Int32)), .unset, .unset, .unset, .unset, .unset, .unset, .unset, .unset] [] := by
  refine s_iload H at_42 rfl (pc' := 44) rfl ?_
  refine s_iload H at_44 rfl (pc' := 46) rfl ?_
  refine s_iadd H at_46 (pc' := 47) rfl ?_
  refine s_i2l H at_47 (pc' := 48) rfl ?_
  refine s_lloadn H at_48 rfl (pc' := 49) rfl ?_
  refine s_ldc2 H at_49 (mem (i := 4) rfl) (pc' := 52) rfl ?_
  refine s_land H at_52 (pc' := 53) rfl ?_
  refine s_ladd H at_53 (pc' := 54) rfl ?_
  refine s_lstore H at_54 (L' := fun z => #[.val (.int i0), .val (.long i1), .second, .val (.long i2), .second, .val (.int cN.toInt32), .val (.int (3 : Int32)), .val (.int (2 : Int32)), .val (.int (3 : Int32)), .val (.long z), .second, .unset, .unset, .unset, .unset, .unset, .unset]) (fun _ => rfl) (pc' := 56) rfl (fun lim h_lim => ?_)
  have hl : 6 ≤ lim.toInt := by
    have m := c_maskL i2 4611686018427387903 62 (by decide) (by decide)
    have s := c_ladd ((((3 : Int32) + (3 : Int32)).toInt64)) (i2 &&& 4611686018427387903)
    rw [← h_lim, show ((((3 : Int32) + (3 : Int32)).toInt64)).toInt = 6 from by decide] at s
    have rl := rng64 lim
    omega
  refine s_new H (C := "com/example/mangrove/mangrove/MemorySlidingWindowLog$KeyLog") [("com/example/mangrove/mangrove/MemorySlidingWindowLog$KeyLog", "entries", "[J", .null), ("com/example/mangrove/mangrove/MemorySlidingWindowLog$KeyLog", "size", "I", (.int (0 : Int32))), ("com/example/mangrove/mangrove/MemorySlidingWindowLog$KeyLog", "first", "I", (.int (0 : Int32)))] at_56 (mem (i := 5) rfl) (mem (i := 6) rfl) (mem (i := 7) rfl) (allC ⟨Or.inl (mem (i := 16) rfl), (.array .long), by decide, rfl⟩ (allC ⟨Or.inl (mem (i := 23) rfl), .int, by decide, rfl⟩ (allC ⟨Or.inl (mem (i := 25) rfl), .int, by decide, rfl⟩ allN))) (by decide) (cn' := 1) (sn' := 3) rfl rfl (by decide) (by decide) (pc' := 59) rfl (fun a1 => ?_)
  refine s_dup H at_59 rfl (pc' := 60) rfl ?_
  refine s_iload H at_60 rfl (pc' := 62) rfl ?_
  refine s_init H (met_ki H.tb a1 cN hc) at_62 rfl (mem (i := 8) rfl) (mem (i := 9) rfl) (mem (i := 7) rfl) (mem (i := 10) rfl) (by decide) pd_2 rfl (rest := [(.ref a1)]) rfl rfl (by decide) (Nat.le_of_ble_eq_true rfl) (cn' := 2) (sn' := 6) rfl rfl (by decide) (by decide) (pc' := 65) rfl (fun _ _ hq => ?_)
  obtain ⟨ea, rfl, rfl⟩ := hq
  show Go Z k 2 6 ((ea, ArL Z (List.replicate cN 0)) :: (a1, Obj Z "com/example/mangrove/mangrove/MemorySlidingWindowLog$KeyLog" [("com/example/mangrove/mangrove/MemorySlidingWindowLog$KeyLog", "entries", "[J", (.ref ea)), ("com/example/mangrove/mangrove/MemorySlidingWindowLog$KeyLog", "size", "I", (.int (0 : Nat).toInt32)), ("com/example/mangrove/mangrove/MemorySlidingWindowLog$KeyLog", "first", "I", (.int (0 : Nat).toInt32))]) :: []) 65 #[.val (.int i0), .val (.long i1), .second, .val (.long i2), .second, .val (.int cN.toInt32), .val (.int (3 : Int32)), .val (.int (2 : Int32)), .val (.int (3 : Int32)), .val (.long lim), .second, .unset, .unset, .unset, .unset, .unset, .unset] [(.ref a1)]
  obtain ⟨es2, he, les2, Kes2⟩ : ∃ es : List Int64, es = List.replicate cN 0 ∧ es.length = cN ∧ KL es 0 0 [] := ⟨_, rfl, by simp, KL.new (by omega) (by omega)⟩
  rw [← he]
  clear he
  show Go Z k 2 6 ((ea, ArL Z es2) :: (a1, Obj Z "com/example/mangrove/mangrove/MemorySlidingWindowLog$KeyLog" [("com/example/mangrove/mangrove/MemorySlidingWindowLog$KeyLog", "entries", "[J", (.ref ea)), ("com/example/mangrove/mangrove/MemorySlidingWindowLog$KeyLog", "size", "I", (.int (0 : Nat).toInt32)), ("com/example/mangrove/mangrove/MemorySlidingWindowLog$KeyLog", "first", "I", (.int (0 : Nat).toInt32))]) :: []) 65 #[.val (.int i0), .val (.long i1), .second, .val (.long i2), .second, .val (.int cN.toInt32), .val (.int (3 : Int32)), .val (.int (2 : Int32)), .val (.int (3 : Int32)), .val (.long lim), .second, .unset, .unset, .unset, .unset, .unset, .unset] [(.ref a1)]
  refine s_astore H at_65 (L' := #[.val (.int i0), .val (.long i1), .second, .val (.long i2), .second, .val (.int cN.toInt32), .val (.int (3 : Int32)), .val (.int (2 : Int32)), .val (.int (3 : Int32)), .val (.long lim), .second, .val (.ref a1), .unset, .unset, .unset, .unset, .unset]) rfl rfl (pc' := 67) rfl ?_
  refine s_aload H at_67 rfl rfl (pc' := 69) rfl ?_
  refine s_lloadn H at_69 rfl (pc' := 70) rfl ?_
  refine s_lload H at_70 rfl (pc' := 72) rfl ?_
  refine s_virtual H (met_ka H.tb a1 ea es2 ([] : List Int64) (0 : Nat) 0 i1 lim Kes2 (by decide) (by omega)) at_72 (i := 1) rfl (mem (i := 17) rfl) (mem (i := 18) rfl) (mem (i := 20) rfl) (mem (i := 19) rfl) (mem (i := 7) rfl) (mem (i := 21) rfl) (by decide) pd_4 rfl (rest := []) rfl rfl (by decide) (Nat.le_of_ble_eq_true rfl) (cn' := 3) (sn' := 16) rfl rfl (by decide) (by decide) (pc' := 75) rfl (fun _ _ hq => ?_)
  obtain ⟨ea3, es3, f3, F3, Kes3', rfl, rfl⟩ := hq
  show Go Z k 3 16 ((ea3, ArL Z es3) :: (a1, Obj Z "com/example/mangrove/mangrove/MemorySlidingWindowLog$KeyLog" [("com/example/mangrove/mangrove/MemorySlidingWindowLog$KeyLog", "entries", "[J", (.ref ea3)), ("com/example/mangrove/mangrove/MemorySlidingWindowLog$KeyLog", "size", "I", (.int (1 : Nat).toInt32)), ("com/example/mangrove/mangrove/MemorySlidingWindowLog$KeyLog", "first", "I", (.int f3.toInt32))]) :: F3) 75 #[.val (.int i0), .val (.long i1), .second, .val (.long i2), .second, .val (.int cN.toInt32), .val (.int (3 : Int32)), .val (.int (2 : Int32)), .val (.int (3 : Int32)), .val (.long lim), .second, .val (.ref a1), .unset, .unset, .unset, .unset, .unset] []
  have Kes3 : KL es3 f3 1 ([i1] : List Int64) := Kes3'
  refine s_iload H at_75 rfl (pc' := 77) rfl ?_
  refine s_iconst H at_77 (z := (1 : Int32)) (by decide) (pc' := 78) rfl ?_
  refine s_icmp H at_78 (py := 91) (pc' := 81) q_le (by decide) rfl (fun c78 => ?_) (fun c78 => ?_)
  · exact absurd c78 (by decide)
  · refine s_aload H at_81 rfl rfl (pc' := 83) rfl ?_
    refine s_lloadn H at_83 rfl (pc' := 84) rfl ?_
    refine s_lconst H at_84 (z := (1 : Int64)) (by decide) (pc' := 85) rfl ?_
    refine s_ladd H at_85 (pc' := 86) rfl ?_
    refine s_lload H at_86 rfl (pc' := 88) rfl ?_
    refine s_virtual H (met_ka H.tb a1 ea3 es3 ([i1] : List Int64) f3 1 (i1 + (1 : Int64)) lim Kes3 (by decide) (by omega)) at_88 (i := 1) rfl (mem (i := 17) rfl) (mem (i := 18) rfl) (mem (i := 20) rfl) (mem (i := 19) rfl) (mem (i := 7) rfl) (mem (i := 21) rfl) (by decide) pd_4 rfl (rest := []) rfl rfl (by decide) (Nat.le_of_ble_eq_true rfl) (cn' := 4) (sn' := 26) rfl rfl (by decide) (by decide) (pc' := 91) rfl (fun _ _ hq => ?_)
    obtain ⟨ea4, es4, f4, F4, Kes4', rfl, rfl⟩ := hq
    show Go Z k 4 26 ((ea4, ArL Z es4) :: (a1, Obj Z "com/example/mangrove/mangrove/MemorySlidingWindowLog$KeyLog" [("com/example/mangrove/mangrove/MemorySlidingWindowLog$KeyLog", "entries", "[J", (.ref ea4)), ("com/example/mangrove/mangrove/MemorySlidingWindowLog$KeyLog", "size", "I", (.int (2 : Nat).toInt32)), ("com/example/mangrove/mangrove/MemorySlidingWindowLog$KeyLog", "first", "I", (.int f4.toInt32))]) :: F4) 91 #[.val (.int i0), .val (.long i1), .second, .val (.long i2), .second, .val (.int cN.toInt32), .val (.int (3 : Int32)), .val (.int (2 : Int32)), .val (.int (3 : Int32)), .val (.long lim), .second, .val (.ref a1), .unset, .unset, .unset, .unset, .unset] []
    have Kes4 : KL es4 f4 2 ([i1, (i1 + (1 : Int64))] : List Int64) := Kes4'
    refine s_iload H at_91 rfl (pc' := 93) rfl ?_
    refine s_iconst H at_93 (z := (2 : Int32)) (by decide) (pc' := 94) rfl ?_
    refine s_icmp H at_94 (py := 109) (pc' := 97) q_le (by decide) rfl (fun c94 => ?_) (fun c94 => ?_)
    · exact absurd c94 (by decide)
    · refine s_aload H at_97 rfl rfl (pc' := 99) rfl ?_
      refine s_lloadn H at_99 rfl (pc' := 100) rfl ?_
      refine s_ldc2 H at_100 (mem (i := 49) rfl) (pc' := 103) rfl ?_
      refine s_ladd H at_103 (pc' := 104) rfl ?_
      refine s_lload H at_104 rfl (pc' := 106) rfl ?_
      refine s_virtual H (met_ka H.tb a1 ea4 es4 ([i1, (i1 + (1 : Int64))] : List Int64) f4 2 (i1 + (2 : Int64)) lim Kes4 (by decide) (by omega)) at_106 (i := 1) rfl (mem (i := 17) rfl) (mem (i := 18) rfl) (mem (i := 20) rfl) (mem (i := 19) rfl) (mem (i := 7) rfl) (mem (i := 21) rfl) (by decide) pd_4 rfl (rest := []) rfl rfl (by decide) (Nat.le_of_ble_eq_true rfl) (cn' := 5) (sn' := 36) rfl rfl (by decide) (by decide) (pc' := 109) rfl (fun _ _ hq => ?_)
      obtain ⟨ea5, es5, f5, F5, Kes5', rfl, rfl⟩ := hq
      show Go Z k 5 36 ((ea5, ArL Z es5) :: (a1, Obj Z "com/example/mangrove/mangrove/MemorySlidingWindowLog$KeyLog" [("com/example/mangrove/mangrove/MemorySlidingWindowLog$KeyLog", "entries", "[J", (.ref ea5)), ("com/example/mangrove/mangrove/MemorySlidingWindowLog$KeyLog", "size", "I", (.int (3 : Nat).toInt32)), ("com/example/mangrove/mangrove/MemorySlidingWindowLog$KeyLog", "first", "I", (.int f5.toInt32))]) :: F5) 109 #[.val (.int i0), .val (.long i1), .second, .val (.long i2), .second, .val (.int cN.toInt32), .val (.int (3 : Int32)), .val (.int (2 : Int32)), .val (.int (3 : Int32)), .val (.long lim), .second, .val (.ref a1), .unset, .unset, .unset, .unset, .unset] []
      have Kes5 : KL es5 f5 3 ([i1, (i1 + (1 : Int64)), (i1 + (2 : Int64))] : List Int64) := Kes5'
      refine s_lloadn H at_109 rfl (pc' := 110) rfl ?_
      refine s_iload H at_110 rfl (pc' := 112) rfl ?_
      refine s_iconst H at_112 (z := (1 : Int32)) (by decide) (pc' := 113) rfl ?_
      refine s_isub H at_113 (pc' := 114) rfl ?_
      refine s_i2l H at_114 (pc' := 115) rfl ?_
      refine s_ladd H at_115 (pc' := 116) rfl ?_
      refine s_lstore H at_116 (L' := fun z => #[.val (.int i0), .val (.long i1), .second, .val (.long i2), .second, .val (.int cN.toInt32), .val (.int (3 : Int32)), .val (.int (2 : Int32)), .val (.int (3 : Int32)), .val (.long lim), .second, .val (.ref a1), .val (.long z), .second, .unset, .unset, .unset]) (fun _ => rfl) (pc' := 118) rfl (fun af h_af => ?_)
      refine s_aload H at_118 rfl rfl (pc' := 120) rfl ?_
      refine s_virtual H (met_kn H.tb a1 ea5 es5 ([i1, (i1 + (1 : Int64))] : List Int64) f5 3 (i1 + (2 : Int64)) Kes5) at_120 (i := 1) rfl (mem (i := 26) rfl) (mem (i := 27) rfl) (mem (i := 29) rfl) (mem (i := 28) rfl) (mem (i := 7) rfl) (mem (i := 30) rfl) (by decide) pd_5 rfl (rest := []) rfl rfl (by decide) (Nat.le_of_ble_eq_true rfl) (cn' := 5) (sn' := 36) rfl rfl (by decide) (by decide) (pc' := 123) rfl (fun _ _ hq => ?_)
      obtain ⟨rfl, rfl⟩ := hq
      show Go Z k 5 36 ((ea5, ArL Z es5) :: (a1, Obj Z "com/example/mangrove/mangrove/MemorySlidingWindowLog$KeyLog" [("com/example/mangrove/mangrove/MemorySlidingWindowLog$KeyLog", "entries", "[J", (.ref ea5)), ("com/example/mangrove/mangrove/MemorySlidingWindowLog$KeyLog", "size", "I", (.int (3 : Nat).toInt32)), ("com/example/mangrove/mangrove/MemorySlidingWindowLog$KeyLog", "first", "I", (.int f5.toInt32))]) :: F5) 123 #[.val (.int i0), .val (.long i1), .second, .val (.long i2), .second, .val (.int cN.toInt32), .val (.int (3 : Int32)), .val (.int (2 : Int32)), .val (.int (3 : Int32)), .val (.long lim), .second, .val (.ref a1), .val (.long af), .second, .unset, .unset, .unset] [(.long (i1 + (2 : Int64)))]
      refine s_lload H at_123 rfl (pc' := 125) rfl ?_
      refine s_lcmp H at_125 (pc' := 126) rfl ?_
      refine s_if H at_126 (py := 133) (pc' := 129) l_ne (by decide) rfl (fun c126 => ?_) (fun c126 => ?_)
      · exact absurd (by rw [h_af, show (((3 : Int32) - (1 : Int32)).toInt64) = 2 from by decide]) c126
      · refine s_iconst H at_129 (z := (1 : Int32)) (by decide) (pc' := 130) rfl ?_
        refine s_goto H at_130 (pc' := 134) (by decide) ?_
        refine s_istore H at_134 (L' := fun z => #[.val (.int i0), .val (.long i1), .second, .val (.long i2), .second, .val (.int cN.toInt32), .val (.int (3 : Int32)), .val (.int (2 : Int32)), .val (.int (3 : Int32)), .val (.long lim), .second, .val (.ref a1), .val (.long af), .second, .val (.int z), .unset, .unset]) (fun _ => rfl) (pc' := 136) rfl (fun z0 hz => ?_)
        subst z0
        refine s_iload H at_136 rfl (pc' := 138) rfl ?_
        refine s_if H at_138 (py := 146) (pc' := 141) z_le (by decide) rfl (fun c138 => ?_) (fun c138 => ?_)
        · exact absurd c138 (by decide)
        · refine s_aload H at_141 rfl rfl (pc' := 143) rfl ?_
          refine s_virtual H (met_kr H.tb a1 ea5 es5 ([(i1 + (1 : Int64)), (i1 + (2 : Int64))] : List Int64) f5 3 i1 Kes5) at_143 (i := 1) rfl (mem (i := 50) rfl) (mem (i := 51) rfl) (mem (i := 53) rfl) (mem (i := 52) rfl) (mem (i := 7) rfl) (mem (i := 54) rfl) (by decide) pd_9 rfl (rest := []) rfl rfl (by decide) (Nat.le_of_ble_eq_true rfl) (cn' := 5) (sn' := 36) rfl rfl (by decide) (by decide) (pc' := 146) rfl (fun _ _ hq => ?_)
          obtain ⟨f6, Kf6', rfl, rfl⟩ := hq
          show Go Z k 5 36 ((ea5, ArL Z es5) :: (a1, Obj Z "com/example/mangrove/mangrove/MemorySlidingWindowLog$KeyLog" [("com/example/mangrove/mangrove/MemorySlidingWindowLog$KeyLog", "entries", "[J", (.ref ea5)), ("com/example/mangrove/mangrove/MemorySlidingWindowLog$KeyLog", "size", "I", (.int (2 : Nat).toInt32)), ("com/example/mangrove/mangrove/MemorySlidingWindowLog$KeyLog", "first", "I", (.int f6.toInt32))]) :: F5) 146 #[.val (.int i0), .val (.long i1), .second, .val (.long i2), .second, .val (.int cN.toInt32), .val (.int (3 : Int32)), .val (.int (2 : Int32)), .val (.int (3 : Int32)), .val (.long lim), .second, .val (.ref a1), .val (.long af), .second, .val (.int (1 : Int32)), .unset, .unset] []
          have Kf6 : KL es5 f6 2 ([(i1 + (1 : Int64)), (i1 + (2 : Int64))] : List Int64) := Kf6'
          refine s_iload H at_146 rfl (pc' := 148) rfl ?_
          refine s_iconst H at_148 (z := (1 : Int32)) (by decide) (pc' := 149) rfl ?_
          refine s_icmp H at_149 (py := 157) (pc' := 152) q_le (by decide) rfl (fun c149 => ?_) (fun c149 => ?_)
          · exact absurd c149 (by decide)
          · refine s_aload H at_152 rfl rfl (pc' := 154) rfl ?_
            refine s_virtual H (met_kr H.tb a1 ea5 es5 ([(i1 + (2 : Int64))] : List Int64) f6 2 (i1 + (1 : Int64)) Kf6) at_154 (i := 1) rfl (mem (i := 50) rfl) (mem (i := 51) rfl) (mem (i := 53) rfl) (mem (i := 52) rfl) (mem (i := 7) rfl) (mem (i := 54) rfl) (by decide) pd_9 rfl (rest := []) rfl rfl (by decide) (Nat.le_of_ble_eq_true rfl) (cn' := 5) (sn' := 36) rfl rfl (by decide) (by decide) (pc' := 157) rfl (fun _ _ hq => ?_)
            obtain ⟨f7, Kf7', rfl, rfl⟩ := hq
            show Go Z k 5 36 ((ea5, ArL Z es5) :: (a1, Obj Z "com/example/mangrove/mangrove/MemorySlidingWindowLog$KeyLog" [("com/example/mangrove/mangrove/MemorySlidingWindowLog$KeyLog", "entries", "[J", (.ref ea5)), ("com/example/mangrove/mangrove/MemorySlidingWindowLog$KeyLog", "size", "I", (.int (1 : Nat).toInt32)), ("com/example/mangrove/mangrove/MemorySlidingWindowLog$KeyLog", "first", "I", (.int f7.toInt32))]) :: F5) 157 #[.val (.int i0), .val (.long i1), .second, .val (.long i2), .second, .val (.int cN.toInt32), .val (.int (3 : Int32)), .val (.int (2 : Int32)), .val (.int (3 : Int32)), .val (.long lim), .second, .val (.ref a1), .val (.long af), .second, .val (.int (1 : Int32)), .unset, .unset] []
            have Kf7 : KL es5 f7 1 ([(i1 + (2 : Int64))] : List Int64) := Kf7'
            refine s_iload H at_157 rfl (pc' := 159) rfl ?_
            refine s_if H at_159 (py := 177) (pc' := 162) z_eq (by decide) rfl (fun c159 => ?_) (fun c159 => ?_)
            · exact absurd c159 (by decide)
            · refine s_aload H at_162 rfl rfl (pc' := 164) rfl ?_
              refine s_virtual H (met_kn H.tb a1 ea5 es5 ([] : List Int64) f7 1 (i1 + (2 : Int64)) Kf7) at_164 (i := 1) rfl (mem (i := 26) rfl) (mem (i := 27) rfl) (mem (i := 29) rfl) (mem (i := 28) rfl) (mem (i := 7) rfl) (mem (i := 30) rfl) (by decide) pd_5 rfl (rest := []) rfl rfl (by decide) (Nat.le_of_ble_eq_true rfl) (cn' := 5) (sn' := 36) rfl rfl (by decide) (by decide) (pc' := 167) rfl (fun _ _ hq => ?_)
              obtain ⟨rfl, rfl⟩ := hq
              show Go Z k 5 36 ((ea5, ArL Z es5) :: (a1, Obj Z "com/example/mangrove/mangrove/MemorySlidingWindowLog$KeyLog" [("com/example/mangrove/mangrove/MemorySlidingWindowLog$KeyLog", "entries", "[J", (.ref ea5)), ("com/example/mangrove/mangrove/MemorySlidingWindowLog$KeyLog", "size", "I", (.int (1 : Nat).toInt32)), ("com/example/mangrove/mangrove/MemorySlidingWindowLog$KeyLog", "first", "I", (.int f7.toInt32))]) :: F5) 167 #[.val (.int i0), .val (.long i1), .second, .val (.long i2), .second, .val (.int cN.toInt32), .val (.int (3 : Int32)), .val (.int (2 : Int32)), .val (.int (3 : Int32)), .val (.long lim), .second, .val (.ref a1), .val (.long af), .second, .val (.int (1 : Int32)), .unset, .unset] [(.long (i1 + (2 : Int64)))]
              refine s_lload H at_167 rfl (pc' := 169) rfl ?_
              refine s_lcmp H at_169 (pc' := 170) rfl ?_
              refine s_if H at_170 (py := 177) (pc' := 173) l_ne (by decide) rfl (fun c170 => ?_) (fun c170 => ?_)
              · exact absurd (by rw [h_af, show (((3 : Int32) - (1 : Int32)).toInt64) = 2 from by decide]) c170
              · refine s_iconst H at_173 (z := (1 : Int32)) (by decide) (pc' := 174) rfl ?_
                refine s_goto H at_174 (pc' := 178) (by decide) ?_
                refine s_istore H at_178 (L' := fun z => #[.val (.int i0), .val (.long i1), .second, .val (.long i2), .second, .val (.int cN.toInt32), .val (.int (3 : Int32)), .val (.int (2 : Int32)), .val (.int (3 : Int32)), .val (.long lim), .second, .val (.ref a1), .val (.long af), .second, .val (.int z), .unset, .unset]) (fun _ => rfl) (pc' := 180) rfl (fun z0 hz => ?_)
                subst z0
                refine s_iload H at_180 rfl (pc' := 182) rfl ?_
                refine s_if H at_182 (py := 197) (pc' := 185) z_le (by decide) rfl (fun c182 => ?_) (fun c182 => ?_)
                · exact absurd c182 (by decide)
                · refine s_aload H at_185 rfl rfl (pc' := 187) rfl ?_
                  refine s_lloadn H at_187 rfl (pc' := 188) rfl ?_
                  refine s_ldc2 H at_188 (mem (i := 46) rfl) (pc' := 191) rfl ?_
                  refine s_ladd H at_191 (pc' := 192) rfl ?_
                  refine s_lload H at_192 rfl (pc' := 194) rfl ?_
                  refine s_virtual H (met_ka H.tb a1 ea5 es5 ([(i1 + (2 : Int64))] : List Int64) f7 1 (i1 + (3 : Int64)) lim Kf7 (by decide) (by omega)) at_194 (i := 1) rfl (mem (i := 17) rfl) (mem (i := 18) rfl) (mem (i := 20) rfl) (mem (i := 19) rfl) (mem (i := 7) rfl) (mem (i := 21) rfl) (by decide) pd_4 rfl (rest := []) rfl rfl (by decide) (Nat.le_of_ble_eq_true rfl) (cn' := 6) (sn' := 46) rfl rfl (by decide) (by decide) (pc' := 197) rfl (fun _ _ hq => ?_)
                  obtain ⟨ea8, es8, f8, F8, Kes8', rfl, rfl⟩ := hq
                  show Go Z k 6 46 ((ea8, ArL Z es8) :: (a1, Obj Z "com/example/mangrove/mangrove/MemorySlidingWindowLog$KeyLog" [("com/example/mangrove/mangrove/MemorySlidingWindowLog$KeyLog", "entries", "[J", (.ref ea8)), ("com/example/mangrove/mangrove/MemorySlidingWindowLog$KeyLog", "size", "I", (.int (2 : Nat).toInt32)), ("com/example/mangrove/mangrove/MemorySlidingWindowLog$KeyLog", "first", "I", (.int f8.toInt32))]) :: F8) 197 #[.val (.int i0), .val (.long i1), .second, .val (.long i2), .second, .val (.int cN.toInt32), .val (.int (3 : Int32)), .val (.int (2 : Int32)), .val (.int (3 : Int32)), .val (.long lim), .second, .val (.ref a1), .val (.long af), .second, .val (.int (1 : Int32)), .unset, .unset] []
                  have Kes8 : KL es8 f8 2 ([(i1 + (2 : Int64)), (i1 + (3 : Int64))] : List Int64) := Kes8'
                  refine s_iload H at_197 rfl (pc' := 199) rfl ?_
                  refine s_iconst H at_199 (z := (1 : Int32)) (by decide) (pc' := 200) rfl ?_
                  refine s_icmp H at_200 (py := 215) (pc' := 203) q_le (by decide) rfl (fun c200 => ?_) (fun c200 => ?_)
                  · exact absurd c200 (by decide)
                  · refine s_aload H at_203 rfl rfl (pc' := 205) rfl ?_
                    refine s_lloadn H at_205 rfl (pc' := 206) rfl ?_
                    refine s_ldc2 H at_206 (mem (i := 47) rfl) (pc' := 209) rfl ?_
                    refine s_ladd H at_209 (pc' := 210) rfl ?_
                    refine s_lload H at_210 rfl (pc' := 212) rfl ?_
                    refine s_virtual H (met_ka H.tb a1 ea8 es8 ([(i1 + (2 : Int64)), (i1 + (3 : Int64))] : List Int64) f8 2 (i1 + (4 : Int64)) lim Kes8 (by decide) (by omega)) at_212 (i := 1) rfl (mem (i := 17) rfl) (mem (i := 18) rfl) (mem (i := 20) rfl) (mem (i := 19) rfl) (mem (i := 7) rfl) (mem (i := 21) rfl) (by decide) pd_4 rfl (rest := []) rfl rfl (by decide) (Nat.le_of_ble_eq_true rfl) (cn' := 7) (sn' := 56) rfl rfl (by decide) (by decide) (pc' := 215) rfl (fun _ _ hq => ?_)
                    obtain ⟨ea9, es9, f9, F9, Kes9', rfl, rfl⟩ := hq
                    show Go Z k 7 56 ((ea9, ArL Z es9) :: (a1, Obj Z "com/example/mangrove/mangrove/MemorySlidingWindowLog$KeyLog" [("com/example/mangrove/mangrove/MemorySlidingWindowLog$KeyLog", "entries", "[J", (.ref ea9)), ("com/example/mangrove/mangrove/MemorySlidingWindowLog$KeyLog", "size", "I", (.int (3 : Nat).toInt32)), ("com/example/mangrove/mangrove/MemorySlidingWindowLog$KeyLog", "first", "I", (.int f9.toInt32))]) :: F9) 215 #[.val (.int i0), .val (.long i1), .second, .val (.long i2), .second, .val (.int cN.toInt32), .val (.int (3 : Int32)), .val (.int (2 : Int32)), .val (.int (3 : Int32)), .val (.long lim), .second, .val (.ref a1), .val (.long af), .second, .val (.int (1 : Int32)), .unset, .unset] []
                    have Kes9 : KL es9 f9 3 ([(i1 + (2 : Int64)), (i1 + (3 : Int64)), (i1 + (4 : Int64))] : List Int64) := Kes9'
                    refine s_iload H at_215 rfl (pc' := 217) rfl ?_
                    refine s_iconst H at_217 (z := (2 : Int32)) (by decide) (pc' := 218) rfl ?_
                    refine s_icmp H at_218 (py := 233) (pc' := 221) q_le (by decide) rfl (fun c218 => ?_) (fun c218 => ?_)
                    · exact absurd c218 (by decide)
                    · refine s_aload H at_221 rfl rfl (pc' := 223) rfl ?_
                      refine s_lloadn H at_223 rfl (pc' := 224) rfl ?_
                      refine s_ldc2 H at_224 (mem (i := 48) rfl) (pc' := 227) rfl ?_
                      refine s_ladd H at_227 (pc' := 228) rfl ?_
                      refine s_lload H at_228 rfl (pc' := 230) rfl ?_
                      refine s_virtual H (met_ka H.tb a1 ea9 es9 ([(i1 + (2 : Int64)), (i1 + (3 : Int64)), (i1 + (4 : Int64))] : List Int64) f9 3 (i1 + (5 : Int64)) lim Kes9 (by decide) (by omega)) at_230 (i := 1) rfl (mem (i := 17) rfl) (mem (i := 18) rfl) (mem (i := 20) rfl) (mem (i := 19) rfl) (mem (i := 7) rfl) (mem (i := 21) rfl) (by decide) pd_4 rfl (rest := []) rfl rfl (by decide) (Nat.le_of_ble_eq_true rfl) (cn' := 8) (sn' := 66) rfl rfl (by decide) (by decide) (pc' := 233) rfl (fun _ _ hq => ?_)
                      obtain ⟨ea10, es10, f10, F10, Kes10', rfl, rfl⟩ := hq
                      show Go Z k 8 66 ((ea10, ArL Z es10) :: (a1, Obj Z "com/example/mangrove/mangrove/MemorySlidingWindowLog$KeyLog" [("com/example/mangrove/mangrove/MemorySlidingWindowLog$KeyLog", "entries", "[J", (.ref ea10)), ("com/example/mangrove/mangrove/MemorySlidingWindowLog$KeyLog", "size", "I", (.int (4 : Nat).toInt32)), ("com/example/mangrove/mangrove/MemorySlidingWindowLog$KeyLog", "first", "I", (.int f10.toInt32))]) :: F10) 233 #[.val (.int i0), .val (.long i1), .second, .val (.long i2), .second, .val (.int cN.toInt32), .val (.int (3 : Int32)), .val (.int (2 : Int32)), .val (.int (3 : Int32)), .val (.long lim), .second, .val (.ref a1), .val (.long af), .second, .val (.int (1 : Int32)), .unset, .unset] []
                      have Kes10 : KL es10 f10 4 ([(i1 + (2 : Int64)), (i1 + (3 : Int64)), (i1 + (4 : Int64)), (i1 + (5 : Int64))] : List Int64) := Kes10'
                      refine s_iload H at_233 rfl (pc' := 235) rfl ?_
                      refine s_if H at_235 (py := 243) (pc' := 238) z_ne (by decide) rfl (fun c235 => ?_) (fun c235 => ?_)
                      · refine s_lloadn H at_243 rfl (pc' := 244) rfl ?_
                        refine s_iconst H at_244 (z := (2 : Int32)) (by decide) (pc' := 245) rfl ?_
                        refine s_iload H at_245 rfl (pc' := 247) rfl ?_
                        refine s_iadd H at_247 (pc' := 248) rfl ?_
                        refine s_i2l H at_248 (pc' := 249) rfl ?_
                        refine s_ladd H at_249 (pc' := 250) rfl ?_
                        refine s_lstore H at_250 (L' := fun z => #[.val (.int i0), .val (.long i1), .second, .val (.long i2), .second, .val (.int cN.toInt32), .val (.int (3 : Int32)), .val (.int (2 : Int32)), .val (.int (3 : Int32)), .val (.long lim), .second, .val (.ref a1), .val (.long af), .second, .val (.int (1 : Int32)), .val (.long z), .second]) (fun _ => rfl) (pc' := 252) rfl (fun la h_la => ?_)
                        refine s_iload H at_252 rfl (pc' := 254) rfl ?_
                        refine s_if H at_254 (py := 272) (pc' := 257) z_eq (by decide) rfl (fun c254 => ?_) (fun c254 => ?_)
                        · exact absurd c254 (by decide)
                        · refine s_aload H at_257 rfl rfl (pc' := 259) rfl ?_
                          refine s_virtual H (met_kn H.tb a1 ea10 es10 ([(i1 + (2 : Int64)), (i1 + (3 : Int64)), (i1 + (4 : Int64))] : List Int64) f10 4 (i1 + (5 : Int64)) Kes10) at_259 (i := 1) rfl (mem (i := 26) rfl) (mem (i := 27) rfl) (mem (i := 29) rfl) (mem (i := 28) rfl) (mem (i := 7) rfl) (mem (i := 30) rfl) (by decide) pd_5 rfl (rest := []) rfl rfl (by decide) (Nat.le_of_ble_eq_true rfl) (cn' := 8) (sn' := 66) rfl rfl (by decide) (by decide) (pc' := 262) rfl (fun _ _ hq => ?_)
                          obtain ⟨rfl, rfl⟩ := hq
                          show Go Z k 8 66 ((ea10, ArL Z es10) :: (a1, Obj Z "com/example/mangrove/mangrove/MemorySlidingWindowLog$KeyLog" [("com/example/mangrove/mangrove/MemorySlidingWindowLog$KeyLog", "entries", "[J", (.ref ea10)), ("com/example/mangrove/mangrove/MemorySlidingWindowLog$KeyLog", "size", "I", (.int (4 : Nat).toInt32)), ("com/example/mangrove/mangrove/MemorySlidingWindowLog$KeyLog", "first", "I", (.int f10.toInt32))]) :: F10) 262 #[.val (.int i0), .val (.long i1), .second, .val (.long i2), .second, .val (.int cN.toInt32), .val (.int (3 : Int32)), .val (.int (2 : Int32)), .val (.int (3 : Int32)), .val (.long lim), .second, .val (.ref a1), .val (.long af), .second, .val (.int (1 : Int32)), .val (.long la), .second] [(.long (i1 + (5 : Int64)))]
                          refine s_lload H at_262 rfl (pc' := 264) rfl ?_
                          refine s_lcmp H at_264 (pc' := 265) rfl ?_
                          refine s_if H at_265 (py := 272) (pc' := 268) l_ne (by decide) rfl (fun c265 => ?_) (fun c265 => ?_)
                          · exact absurd (by rw [h_la, show (((2 : Int32) + (3 : Int32)).toInt64) = 5 from by decide]) c265
                          · refine s_iconst H at_268 (z := (1 : Int32)) (by decide) (pc' := 269) rfl ?_
                            refine s_goto H at_269 (pc' := 273) (by decide) ?_
                            exact s_iret H at_273 rfl (by simp) (by decide) (by decide) (rfl)
                      · exact absurd c235 (by decide)
set_option maxRecDepth 65536 in
set_option maxHeartbeats 40000000 in
theorem s0 {Z : State} {k : Cx} {i0 : Int32} {i1 i2 : Int64} (H : Ok Z k room_1 (LQ) x code maxLocals ret)  : Go Z k 0 0 ([] : Hp) 0 #[.val (.int i0), .val (.long i1), .second, .val (.long i2), .second, .unset, .unset, .unset, .unset, .unset, .unset, .unset, .unset, .unset, .unset, .unset, .unset] [] := by
  refine s_iconst H at_0 (z := (1 : Int32)) (by decide) (pc' := 1) rfl ?_
  refine s_iloadn H at_1 rfl (pc' := 2) rfl ?_
  refine s_iconst H at_2 (z := (3 : Int32)) (by decide) (pc' := 3) rfl ?_
  refine s_iand H at_3 (pc' := 4) rfl ?_
  refine s_iconst H at_4 (z := (3 : Int32)) (by decide) (pc' := 5) rfl ?_
  refine s_irem H at_5 (by decide) (pc' := 6) rfl ?_
  refine s_iadd H at_6 (pc' := 7) rfl ?_
  refine s_istore H at_7 (L' := fun z => #[.val (.int i0), .val (.long i1), .second, .val (.long i2), .second, .val (.int z), .unset, .unset, .unset, .unset, .unset, .unset, .unset, .unset, .unset, .unset, .unset]) (fun _ => rfl) (pc' := 9) rfl (fun c h_c => ?_)
  refine s_iconst H at_9 (z := (1 : Int32)) (by decide) (pc' := 10) rfl ?_
  refine s_iloadn H at_10 rfl (pc' := 11) rfl ?_
  refine s_iconst H at_11 (z := (2 : Int32)) (by decide) (pc' := 12) rfl ?_
  refine s_iushr H at_12 (pc' := 13) rfl ?_
  refine s_iconst H at_13 (z := (3 : Int32)) (by decide) (pc' := 14) rfl ?_
  refine s_iand H at_14 (pc' := 15) rfl ?_
  refine s_iconst H at_15 (z := (3 : Int32)) (by decide) (pc' := 16) rfl ?_
  refine s_irem H at_16 (by decide) (pc' := 17) rfl ?_
  refine s_iadd H at_17 (pc' := 18) rfl ?_
  refine s_istore H at_18 (L' := fun z => #[.val (.int i0), .val (.long i1), .second, .val (.long i2), .second, .val (.int c), .val (.int z), .unset, .unset, .unset, .unset, .unset, .unset, .unset, .unset, .unset, .unset]) (fun _ => rfl) (pc' := 20) rfl (fun a h_a => ?_)
  refine s_iloadn H at_20 rfl (pc' := 21) rfl ?_
  refine s_iconst H at_21 (z := (4 : Int32)) (by decide) (pc' := 22) rfl ?_
  refine s_iushr H at_22 (pc' := 23) rfl ?_
  refine s_iconst H at_23 (z := (3 : Int32)) (by decide) (pc' := 24) rfl ?_
  refine s_iand H at_24 (pc' := 25) rfl ?_
  refine s_iload H at_25 rfl (pc' := 27) rfl ?_
  refine s_iconst H at_27 (z := (1 : Int32)) (by decide) (pc' := 28) rfl ?_
  refine s_isub H at_28 (pc' := 29) rfl ?_
  refine s_static H (met_minI H.tb (((i0.toUInt32 >>> ((4 : Int32) &&& 31).toUInt32).toInt32) &&& (3 : Int32)) (a - (1 : Int32))) at_29 (mem (i := 0) rfl) (mem (i := 1) rfl) (mem (i := 2) rfl) (mem (i := 3) rfl) (by decide) pd_1 rfl (rest := []) rfl rfl (by decide) (Nat.le_of_ble_eq_true rfl) (cn' := 0) (sn' := 0) rfl rfl (by decide) (by decide) (pc' := 32) rfl (fun _ _ hq => ?_)
  obtain ⟨r0, hr0, rfl, rfl⟩ := hq
  show Go Z k 0 0 ([] : Hp) 32 #[.val (.int i0), .val (.long i1), .second, .val (.long i2), .second, .val (.int c), .val (.int a), .unset, .unset, .unset, .unset, .unset, .unset, .unset, .unset, .unset, .unset] [(.int r0)]
  refine s_istore H at_32 (L' := fun z => #[.val (.int i0), .val (.long i1), .second, .val (.long i2), .second, .val (.int c), .val (.int a), .val (.int z), .unset, .unset, .unset, .unset, .unset, .unset, .unset, .unset, .unset]) (fun _ => rfl) (pc' := 34) rfl (fun z0 hz => ?_)
  subst z0
  refine s_iloadn H at_34 rfl (pc' := 35) rfl ?_
  refine s_bipush H at_35 (z := (6 : Int32)) (by decide) (pc' := 37) rfl ?_
  refine s_iushr H at_37 (pc' := 38) rfl ?_
  refine s_iconst H at_38 (z := (3 : Int32)) (by decide) (pc' := 39) rfl ?_
  refine s_iand H at_39 (pc' := 40) rfl ?_
  refine s_istore H at_40 (L' := fun z => #[.val (.int i0), .val (.long i1), .second, .val (.long i2), .second, .val (.int c), .val (.int a), .val (.int r0), .val (.int z), .unset, .unset, .unset, .unset, .unset, .unset, .unset, .unset]) (fun _ => rfl) (pc' := 42) rfl (fun b h_b => ?_)
  have c1 := c_mask i0 3 2 (by decide) (by decide)
  have c2 := (c_irem (i0 &&& 3) 3 3 (by decide)).1 (by omega)
  have c3 := c_iadd 1 ((i0 &&& 3) % 3)
  rw [← h_c] at c3
  have o1 : (1 : Int32).toInt = 1 := by decide
  have rc := rng32 c
  have hc : 1 ≤ c.toInt ∧ c.toInt ≤ 3 := by omega
  clear c1 c2 c3
  have a1 := c_mask (i0.toUInt32 >>> ((2 : Int32) &&& 31).toUInt32).toInt32 3 2 (by decide) (by decide)
  have a2 := (c_irem ((i0.toUInt32 >>> ((2 : Int32) &&& 31).toUInt32).toInt32 &&& 3) 3 3 (by decide)).1 (by omega)
  have a3 := c_iadd 1 (((i0.toUInt32 >>> ((2 : Int32) &&& 31).toUInt32).toInt32 &&& 3) % 3)
  rw [← h_a] at a3
  have ra := rng32 a
  have ha : 1 ≤ a.toInt ∧ a.toInt ≤ 3 := by omega
  clear a1 a2 a3
  have e1 := c_mask (i0.toUInt32 >>> ((4 : Int32) &&& 31).toUInt32).toInt32 3 2 (by decide) (by decide)
  have e2 := c_isub a 1
  have r2 := rng32 (a - 1)
  have hr : 0 ≤ r0.toInt ∧ r0.toInt < a.toInt := by omega
  have b1 := c_mask (i0.toUInt32 >>> ((6 : Int32) &&& 31).toUInt32).toInt32 3 2 (by decide) (by decide)
  rw [← h_b] at b1
  have hb : 0 ≤ b.toInt ∧ b.toInt < 4 := by omega
  clear e1 e2 r2 b1 h_b hr0 h_a h_c
  have tc : c = c.toInt.toNat.toInt32 := by apply Int32.toInt_inj.mp; rw [(own_nat (by omega)).2.2]; omega
  have hc0 : 0 < c.toInt.toNat := by omega
  have hc3 : c.toInt.toNat ≤ 3 := by omega
  generalize c.toInt.toNat = cN at *
  subst tc
  have xa : a = 1 ∨ a = 2 ∨ a = 3 := by simp only [← Int32.toInt_inj, show (0 : Int32).toInt = 0 from by decide, show (1 : Int32).toInt = 1 from by decide, show (2 : Int32).toInt = 2 from by decide, show (3 : Int32).toInt = 3 from by decide, show (4 : Int32).toInt = 4 from by decide]; omega
  have xr : r0 = 0 ∨ r0 = 1 ∨ r0 = 2 := by simp only [← Int32.toInt_inj, show (0 : Int32).toInt = 0 from by decide, show (1 : Int32).toInt = 1 from by decide, show (2 : Int32).toInt = 2 from by decide, show (3 : Int32).toInt = 3 from by decide, show (4 : Int32).toInt = 4 from by decide]; omega
  have xb : b = 0 ∨ b = 1 ∨ b = 2 ∨ b = 3 := by simp only [← Int32.toInt_inj, show (0 : Int32).toInt = 0 from by decide, show (1 : Int32).toInt = 1 from by decide, show (2 : Int32).toInt = 2 from by decide, show (3 : Int32).toInt = 3 from by decide, show (4 : Int32).toInt = 4 from by decide]; omega
  rcases xa with rfl | rfl | rfl <;> rcases xr with rfl | rfl | rfl <;> rcases xb with rfl | rfl | rfl | rfl
  · exact s42_1_0_0 cN H hc0 hc3
  · exact s42_1_0_1 cN H hc0 hc3
  · exact s42_1_0_2 cN H hc0 hc3
  · exact s42_1_0_3 cN H hc0 hc3
  · exact absurd hr.2 (by decide)
  · exact absurd hr.2 (by decide)
  · exact absurd hr.2 (by decide)
  · exact absurd hr.2 (by decide)
  · exact absurd hr.2 (by decide)
  · exact absurd hr.2 (by decide)
  · exact absurd hr.2 (by decide)
  · exact absurd hr.2 (by decide)
  · exact s42_2_0_0 cN H hc0 hc3
  · exact s42_2_0_1 cN H hc0 hc3
  · exact s42_2_0_2 cN H hc0 hc3
  · exact s42_2_0_3 cN H hc0 hc3
  · exact s42_2_1_0 cN H hc0 hc3
  · exact s42_2_1_1 cN H hc0 hc3
  · exact s42_2_1_2 cN H hc0 hc3
  · exact s42_2_1_3 cN H hc0 hc3
  · exact absurd hr.2 (by decide)
  · exact absurd hr.2 (by decide)
  · exact absurd hr.2 (by decide)
  · exact absurd hr.2 (by decide)
  · exact s42_3_0_0 cN H hc0 hc3
  · exact s42_3_0_1 cN H hc0 hc3
  · exact s42_3_0_2 cN H hc0 hc3
  · exact s42_3_0_3 cN H hc0 hc3
  · exact s42_3_1_0 cN H hc0 hc3
  · exact s42_3_1_1 cN H hc0 hc3
  · exact s42_3_1_2 cN H hc0 hc3
  · exact s42_3_1_3 cN H hc0 hc3
  · exact s42_3_2_0 cN H hc0 hc3
  · exact s42_3_2_1 cN H hc0 hc3
  · exact s42_3_2_2 cN H hc0 hc3
  · exact s42_3_2_3 cN H hc0 hc3
theorem pl_0 : plainFor x = true := plainFor_of_name (by first | (simp [plainName, overriddenIn, x]; done) | decide +kernel)
set_option maxRecDepth 65536 in
set_option maxHeartbeats 40000000 in
theorem met_law {Z : State} (HT : Tb Z) (l : Launch) (ws : List Jvm.Cond) (i0 : Int32) (i1 : Int64) (i2 : Int64) (h0 : Heap) (hO : Own Z h0 []) :
    MetFree l x (head1 (Jvm.Cond.code x code maxLocals ret :: ws) room_1) (fun a U => a = [(.int i0), (.long i1), (.long i2)].toArray ∧ Z.Warmed39 U.vm ∧ U.heap = h0) (fun _ _ _ _ _ => True) (fun _ U o U' => ∃ v L, o = .returned v ∧ (Fr Z.heap.size L ∧ ∃ M, LQ v M ∧ Own Z U'.heap M) ∧ FrameEnd U o U' L room_1.cells room_1.slots) :=
  met_of l HT pl_0 (Ls := #[.val (.int i0), .val (.long i1), .second, .val (.long i2), .second, .unset, .unset, .unset, .unset, .unset, .unset, .unset, .unset, .unset, .unset, .unset, .unset]) (fun m => by first | (simp [entryFrame, mkF, argsToLocals, Value.category, maxLocals]; done) | rfl) hO (fun k H => s0 H)
set_option maxRecDepth 65536 in
set_option maxHeartbeats 40000000 in
theorem comes_1 {Post : Tables → Env → Array Value → State → Outcome → State → Prop} (hpost : ∀ tb e args s v u, (limb_1_1.after args s (.returned v) u = true ∧ limb_1_2.after args s (.returned v) u = true ∧ True) → FrameEnd s (.returned v) u (Jvm.fieldLocs frame_1_writes args s ++ Jvm.arrayLocs frame_1_arrays args s ++ Jvm.staticLocs frame_1_statics s) 24 128 → Post tb e args s (.returned v) u) :
    ArmFor flags0 classFile x code maxLocals ret World_1 tables_1 room_1 Calls_1 rest_1 Pre_1 Post := by
  intro l hfl _ _ p e ha hc hk s m args below hf hA hF happ hP
  obtain ⟨hcalls, hrest, hpre⟩ := hP
  obtain ⟨-, -, -, hnamed, -, -, -, hat⟩ := (Spec.applies_iff hf).mp happ
  obtain ⟨hg, hn⟩ := and_e (Cond.before_iff.mp (show (Jvm.Cond.and given_1 narrow_1).before args s = true from hpre))
  obtain ⟨hcnt, hg0⟩ := and_e hg
  obtain ⟨hv0, hg1⟩ := and_e hg0
  obtain ⟨hv1, hg2⟩ := and_e hg1
  obtain ⟨w0, w1, w2, rfl⟩ : ∃ w0 w1 w2 : Value, args = #[w0, w1, w2] := by
    have hs : args.size = 3 := by simpa [Cond.value, given_1] using hcnt
    obtain ⟨L⟩ := args
    match L, hs with
    | [w0, w1, w2], _ => exact ⟨w0, w1, w2, rfl⟩
  have hw := fun d (hd : d ∈ tables_1) => atoms_spec (ws := Jvm.Cond.code x code maxLocals ret :: tables_1) hat d (List.mem_cons_of_mem _ hd)
  obtain ⟨i0, ei0⟩ := is_v hv0
  obtain rfl : w0 = (.int i0) := Option.some.inj ei0
  obtain ⟨i1, ei1⟩ := isL_v hv1
  obtain rfl : w1 = (.long i1) := Option.some.inj ei1
  obtain ⟨i2, ei2⟩ := isL_v hg2
  obtain rfl : w2 = (.long i2) := Option.some.inj ei2
  have hO : Own s s.heap [] := ⟨⟨Nat.le_refl _, fun _ _ q => q⟩, fun i x hx => (by cases hx), fun i j x y hx => (by cases hx)⟩
  obtain ⟨n, o, h1, h2, h3, v, L, rfl, ⟨N, M, hv, -⟩, hq⟩ := met_law (Z := s) ⟨_, hw⟩ l tables_1 i0 i1 i2 s.heap hO p e ha hc hk s m _ below hf ((Spec.applies_iff_loose hf).mp happ).1 ⟨rfl, State.Warmed39.refl s, rfl⟩ trivial
  obtain rfl : v = some (.int 1) := hv
  exact ⟨n, _, h1, h2, h3, hpost _ _ _ _ _ _ ⟨Cond.after_iff.mpr rfl, Cond.after_iff.mpr (eq_i res_at (Term.int_eval (1)) rfl), trivial⟩ ⟨hq.1, hq.2.1, (hq.2.2.sift fun y hy => Or.inr (N y hy)).mono (by decide) (by decide)⟩⟩
theorem main_1_1 : Claimed_1_1 := comes_1 fun _ _ _ _ _ _ h hF => ⟨h.1, hF⟩
theorem main_1_2 : Claimed_1_2 := comes_1 fun _ _ _ _ _ _ h hF => ⟨h.2.1, hF⟩
end Jvm.Pilot.@@N@@
namespace Jvm.Pilot.@@N@@
open Jvm Jvm.ClassFile Sem Op Lib Jvm.Free Jvm.Stand Jvm.Pilot.@@N@@.Jvm.D
/-! MADE BY PROGRAM (witnessworld.py) out of the Statement's table words and the real class files: 13 classes; the members and pool entries that the words name. The judged class is class 1, her method 1. -/
namespace start1
open Jvm.ClassFile
def u (s : String) : CpInfo := .utf8 (stringToUtf16 s)
/-- a pool by its gaps: so many unusable entries, then the entry; so many at the end -/
def gap : Nat → List CpInfo → List CpInfo
  | 0, r => r
  | n + 1, r => .unusable :: gap n r
def poolList (es : List (Nat × CpInfo)) (last : Nat) : List CpInfo := es.foldr (fun e r => gap e.1 (e.2 :: r)) (gap last [])
def pool (es : List (Nat × CpInfo)) (last : Nat) : Array CpInfo := ⟨poolList es last⟩
def fileOf (pool : Array CpInfo) (this : Nat) (attrs : Array Attribute := #[]) (ms : Array MethodInfo := #[]) (fl : Nat := 33) (sup : Nat := 0) (ifs : Array Nat := #[]) (fds : Array FieldInfo := #[]) : ClassFile where
  minorVersion := 0
  majorVersion := 65
  constantPool := pool
  accessFlags := fl
  thisClass := this
  superClass := sup
  interfaces := ifs
  fields := fds
  methods := ms
  attributes := attrs
def plain (name : String) (sup : Option ClassId) : Class where
  name := name
  kind := .ordinary
  loader := none
  accessFlags := 33
  super := sup
  interfaces := #[]
  cf := none
  fields := #[]
  methods := #[]
  instanceTypes := #[]
  staticTypes := #[]
  resolved := #[]
  callSites := []
  init := .initialized
  statics := none
  mirror := none

def pool0 : Array CpInfo := pool [(5, u "<init>"), (0, u "()V"), (1, .class_ 10), (1, u "java/lang/Object")] 113

def k0c0 : Code := { maxStack := 0, maxLocals := 1, code := object_method_1_code, exceptionTable := #[], attributes := #[] }
def k0m0 : Method := { name := "<init>", desc := "()V", sig := { parameters := [], returnType := none }, accessFlags := 1, code := some k0c0 }
/-- java/lang/Object -/
def k0 : Class := { plain "java/lang/Object" none with
  accessFlags := 33
  interfaces := #[]
  cf := some (fileOf pool0 8 #[] #[{ accessFlags := 1, nameIndex := 5, descriptorIndex := 6, attributes := #[] }] 33 0 #[] #[])
  fields := #[]
  methods := #[k0m0]
  instanceTypes := #[]
  staticTypes := #[]
  resolved := Array.replicate 124 none
  statics := none }

def pool1 : Array CpInfo := pool [(2, .class_ 4), (1, u "java/lang/Object"), (0, u "<init>"), (0, u "()V"), (0, .methodref 8 9), (0, .class_ 10), (0, .nameAndType 11 12), (0, u "java/lang/Math"), (0, u "min"), (0, u "(II)I"), (0, .long 4611686018427387903), (1, .class_ 16), (0, u "com/example/mangrove/mangrove/MemorySlidingWindowLog$KeyLog"), (0, .methodref 15 18), (0, .nameAndType 5 19), (0, u "(I)V"), (0, .methodref 15 21), (0, .nameAndType 22 23), (0, u "add"), (0, u "(JJ)V"), (0, .long 2), (1, .methodref 15 27), (0, .nameAndType 28 29), (0, u "newest"), (0, u "()J"), (0, .methodref 15 31), (0, .nameAndType 32 6), (0, u "removeOldest"), (0, .long 3), (1, .long 4), (1, .long 5), (1, .class_ 40), (0, u "com/example/mangrove/mangrove/KeyLogNewestPinLaw"), (2, u "law"), (0, u "(IJJ)Z")] 7

def k1m0 : Method := { name := "<init>", desc := "()V", sig := { parameters := [], returnType := none }, accessFlags := 1, code := none }
def k1c1 : Code := { maxStack := 6, maxLocals := 17, code := code, exceptionTable := #[], attributes := #[] }
def k1m1 : Method := { name := "law", desc := "(IJJ)Z", sig := { parameters := [.int, .long, .long], returnType := some .boolean }, accessFlags := 9, code := some k1c1 }
/-- com/example/mangrove/mangrove/KeyLogNewestPinLaw -/
def k1 : Class := { plain "com/example/mangrove/mangrove/KeyLogNewestPinLaw" (some 0) with
  accessFlags := 49
  interfaces := #[]
  cf := some (fileOf pool1 39 #[] #[{ accessFlags := 1, nameIndex := 5, descriptorIndex := 6, attributes := #[] }, { accessFlags := 9, nameIndex := 43, descriptorIndex := 44, attributes := #[] }] 49 2 #[] #[])
  fields := #[]
  methods := #[k1m0, k1m1]
  instanceTypes := #[]
  staticTypes := #[]
  resolved := Array.replicate 52 none
  statics := none }

def pool2 : Array CpInfo := pool [(1, .class_ 2), (0, u "java/lang/Math"), (1, .class_ 6), (1, u "java/lang/Object"), (0, u "<init>"), (0, u "()V"), (89, .class_ 100), (1, u "java/lang/Math$RandomNumberGeneratorHolder"), (20, u "(JJ)J"), (50, u "negativeZeroFloatBits"), (0, u "J"), (2, u "negativeZeroDoubleBits"), (24, u "min"), (43, u "$assertionsDisabled"), (0, u "Z"), (88, u "(II)I"), (2, u "twoToTheDoubleScaleDown"), (0, u "D"), (4, u "twoToTheDoubleScaleUp"), (9, u "E"), (3, u "PI"), (2, u "TAU"), (2, u "DEGREES_TO_RADIANS"), (0, u "RADIANS_TO_DEGREES"), (39, u "toIntExact"), (0, u "(J)I")] 53

def k2m0 : Method := { name := "<init>", desc := "()V", sig := { parameters := [], returnType := none }, accessFlags := 2, code := none }
def k2c1 : Code := { maxStack := 4, maxLocals := 2, code := jdk_29_method_43_code, exceptionTable := #[], attributes := #[] }
def k2m1 : Method := { name := "toIntExact", desc := "(J)I", sig := { parameters := [.long], returnType := some .int }, accessFlags := 9, code := some k2c1 }
def k2c2 : Code := { maxStack := 2, maxLocals := 2, code := jdk_29_method_69_code, exceptionTable := #[], attributes := #[] }
def k2m2 : Method := { name := "min", desc := "(II)I", sig := { parameters := [.int, .int], returnType := some .int }, accessFlags := 9, code := some k2c2 }
def k2c3 : Code := { maxStack := 4, maxLocals := 4, code := jdk_29_method_70_code, exceptionTable := #[], attributes := #[] }
def k2m3 : Method := { name := "min", desc := "(JJ)J", sig := { parameters := [.long, .long], returnType := some .long }, accessFlags := 9, code := some k2c3 }
/-- java/lang/Math -/
def k2 : Class := { plain "java/lang/Math" (some 0) with
  accessFlags := 49
  interfaces := #[]
  cf := some (fileOf pool2 1 #[.nestMembers #[98]] #[{ accessFlags := 2, nameIndex := 7, descriptorIndex := 8, attributes := #[] }, { accessFlags := 9, nameIndex := 405, descriptorIndex := 406, attributes := #[] }, { accessFlags := 9, nameIndex := 201, descriptorIndex := 335, attributes := #[] }, { accessFlags := 9, nameIndex := 201, descriptorIndex := 121, attributes := #[] }] 49 4 #[] #[{ accessFlags := 25, nameIndex := 354, descriptorIndex := 339, attributes := #[] }, { accessFlags := 25, nameIndex := 358, descriptorIndex := 339, attributes := #[] }, { accessFlags := 25, nameIndex := 361, descriptorIndex := 339, attributes := #[] }, { accessFlags := 26, nameIndex := 364, descriptorIndex := 339, attributes := #[] }, { accessFlags := 26, nameIndex := 365, descriptorIndex := 339, attributes := #[] }, { accessFlags := 26, nameIndex := 172, descriptorIndex := 173, attributes := #[] }, { accessFlags := 26, nameIndex := 176, descriptorIndex := 173, attributes := #[] }, { accessFlags := 8, nameIndex := 344, descriptorIndex := 339, attributes := #[] }, { accessFlags := 8, nameIndex := 338, descriptorIndex := 339, attributes := #[] }, { accessFlags := 4120, nameIndex := 245, descriptorIndex := 246, attributes := #[] }])
  fields := #[{ name := "E", type := .double, accessFlags := 25, slot := 0, constantValue := 0 }, { name := "PI", type := .double, accessFlags := 25, slot := 1, constantValue := 0 }, { name := "TAU", type := .double, accessFlags := 25, slot := 2, constantValue := 0 }, { name := "DEGREES_TO_RADIANS", type := .double, accessFlags := 26, slot := 3, constantValue := 0 }, { name := "RADIANS_TO_DEGREES", type := .double, accessFlags := 26, slot := 4, constantValue := 0 }, { name := "negativeZeroFloatBits", type := .long, accessFlags := 26, slot := 5, constantValue := 0 }, { name := "negativeZeroDoubleBits", type := .long, accessFlags := 26, slot := 6, constantValue := 0 }, { name := "twoToTheDoubleScaleUp", type := .double, accessFlags := 8, slot := 7, constantValue := 0 }, { name := "twoToTheDoubleScaleDown", type := .double, accessFlags := 8, slot := 8, constantValue := 0 }, { name := "$assertionsDisabled", type := .boolean, accessFlags := 4120, slot := 9, constantValue := 0 }]
  methods := #[k2m0, k2m1, k2m2, k2m3]
  instanceTypes := #[]
  staticTypes := #[.double, .double, .double, .double, .double, .long, .long, .double, .double, .boolean]
  resolved := Array.replicate 460 none
  statics := none }

def pool3 : Array CpInfo := pool [(1, .methodref 2 3), (0, .class_ 4), (0, .nameAndType 5 6), (0, u "java/lang/Object"), (0, u "<init>"), (0, u "()V"), (0, .fieldref 8 9), (0, .class_ 10), (0, .nameAndType 11 12), (0, u "com/example/mangrove/mangrove/MemorySlidingWindowLog$KeyLog"), (0, u "entries"), (0, u "[J"), (0, .fieldref 8 14), (0, .nameAndType 15 16), (0, u "size"), (0, u "I"), (0, .fieldref 8 18), (0, .nameAndType 19 16), (0, u "first"), (0, .methodref 8 21), (0, .nameAndType 22 23), (0, u "grow"), (0, u "(J)V"), (0, .long 2), (1, .methodref 27 28), (0, .class_ 29), (0, .nameAndType 30 31), (0, u "java/lang/Math"), (0, u "min"), (0, u "(JJ)J"), (0, .methodref 27 33), (0, .nameAndType 34 35), (0, u "toIntExact"), (0, u "(J)I"), (0, .methodref 37 38), (0, .class_ 39), (0, .nameAndType 40 41), (0, u "java/lang/System"), (0, u "arraycopy"), (0, u "(Ljava/lang/Object;ILjava/lang/Object;II)V"), (0, u "(I)V"), (7, u "()J"), (0, u "newest"), (0, u "removeOldest"), (0, u "add"), (0, u "(JJ)V"), (3, .class_ 59), (0, u "com/example/mangrove/mangrove/MemorySlidingWindowLog")] 2

def k3c0 : Code := { maxStack := 2, maxLocals := 2, code := prog_23_method_1_code, exceptionTable := #[], attributes := #[] }
def k3m0 : Method := { name := "<init>", desc := "(I)V", sig := { parameters := [.int], returnType := none }, accessFlags := 0, code := some k3c0 }
def k3c1 : Code := { maxStack := 3, maxLocals := 1, code := prog_23_method_5_code, exceptionTable := #[], attributes := #[] }
def k3m1 : Method := { name := "newest", desc := "()J", sig := { parameters := [], returnType := some .long }, accessFlags := 0, code := some k3c1 }
def k3c2 : Code := { maxStack := 3, maxLocals := 1, code := prog_23_method_6_code, exceptionTable := #[], attributes := #[] }
def k3m2 : Method := { name := "removeOldest", desc := "()V", sig := { parameters := [], returnType := none }, accessFlags := 0, code := some k3c2 }
def k3c3 : Code := { maxStack := 4, maxLocals := 5, code := prog_23_method_7_code, exceptionTable := #[], attributes := #[] }
def k3m3 : Method := { name := "add", desc := "(JJ)V", sig := { parameters := [.long, .long], returnType := none }, accessFlags := 0, code := some k3c3 }
def k3c4 : Code := { maxStack := 6, maxLocals := 5, code := prog_23_method_8_code, exceptionTable := #[], attributes := #[] }
def k3m4 : Method := { name := "grow", desc := "(J)V", sig := { parameters := [.long], returnType := none }, accessFlags := 2, code := some k3c4 }
/-- com/example/mangrove/mangrove/MemorySlidingWindowLog$KeyLog -/
def k3 : Class := { plain "com/example/mangrove/mangrove/MemorySlidingWindowLog$KeyLog" (some 0) with
  accessFlags := 48
  interfaces := #[]
  cf := some (fileOf pool3 8 #[.nestHost 58] #[{ accessFlags := 0, nameIndex := 5, descriptorIndex := 42, attributes := #[] }, { accessFlags := 0, nameIndex := 51, descriptorIndex := 50, attributes := #[] }, { accessFlags := 0, nameIndex := 52, descriptorIndex := 6, attributes := #[] }, { accessFlags := 0, nameIndex := 53, descriptorIndex := 54, attributes := #[] }, { accessFlags := 2, nameIndex := 22, descriptorIndex := 23, attributes := #[] }] 48 2 #[] #[{ accessFlags := 2, nameIndex := 11, descriptorIndex := 12, attributes := #[] }, { accessFlags := 2, nameIndex := 19, descriptorIndex := 16, attributes := #[] }, { accessFlags := 2, nameIndex := 15, descriptorIndex := 16, attributes := #[] }])
  fields := #[{ name := "entries", type := (.array .long), accessFlags := 2, slot := 0, constantValue := 0 }, { name := "first", type := .int, accessFlags := 2, slot := 1, constantValue := 0 }, { name := "size", type := .int, accessFlags := 2, slot := 2, constantValue := 0 }]
  methods := #[k3m0, k3m1, k3m2, k3m3, k3m4]
  instanceTypes := #[(.array .long), .int, .int]
  staticTypes := #[]
  resolved := Array.replicate 62 none
  statics := none }

def pool4 : Array CpInfo := pool [(2, .class_ 4), (1, u "java/lang/Object"), (0, u "<init>"), (0, u "()V"), (1, .class_ 10), (1, u "java/lang/System"), (0, u "allowSecurityManager"), (0, u "I"), (16, u "cons"), (0, u "Ljava/io/Console;"), (77, .class_ 110), (1, u "java/lang/System$CallersHolder"), (43, u "initialErrStream"), (0, u "Ljava/io/PrintStream;"), (19, u "security"), (0, u "Ljava/lang/SecurityManager;"), (31, .class_ 209), (0, u "java/lang/System$1"), (7, u "props"), (0, u "Ljava/util/Properties;"), (2, u "lineSeparator"), (0, u "Ljava/lang/String;"), (96, .class_ 321), (1, u "java/lang/System$LoggerFinder"), (5, .class_ 328), (0, u "java/lang/System$Logger"), (67, u "err"), (2, u "out"), (91, u "notSupportedJnuEncoding"), (15, u "in"), (17, u "initialIn"), (0, u "Ljava/io/InputStream;"), (35, u "bootLayer"), (0, u "Ljava/lang/ModuleLayer;"), (99, .class_ 664), (0, u "java/lang/System$2"), (9, u "NEVER"), (2, u "MAYBE"), (49, u "arraycopy"), (0, u "(Ljava/lang/Object;ILjava/lang/Object;II)V"), (72, .class_ 802), (0, u "java/lang/System$Logger$Level")] 31

def k4m0 : Method := { name := "<init>", desc := "()V", sig := { parameters := [], returnType := none }, accessFlags := 2, code := none }
def k4m1 : Method := { name := "arraycopy", desc := "(Ljava/lang/Object;ILjava/lang/Object;II)V", sig := { parameters := [(.object "java/lang/Object"), .int, (.object "java/lang/Object"), .int, .int], returnType := none }, accessFlags := 265, code := none }
/-- java/lang/System -/
def k4 : Class := { plain "java/lang/System" (some 0) with
  accessFlags := 49
  interfaces := #[]
  cf := some (fileOf pool4 8 #[.nestMembers #[319, 327, 801, 108, 663, 208]] #[{ accessFlags := 2, nameIndex := 5, descriptorIndex := 6, attributes := #[] }, { accessFlags := 265, nameIndex := 727, descriptorIndex := 728, attributes := #[] }] 49 2 #[] #[{ accessFlags := 25, nameIndex := 507, descriptorIndex := 526, attributes := #[] }, { accessFlags := 25, nameIndex := 399, descriptorIndex := 155, attributes := #[] }, { accessFlags := 25, nameIndex := 396, descriptorIndex := 155, attributes := #[] }, { accessFlags := 10, nameIndex := 525, descriptorIndex := 526, attributes := #[] }, { accessFlags := 26, nameIndex := 674, descriptorIndex := 12, attributes := #[] }, { accessFlags := 26, nameIndex := 677, descriptorIndex := 12, attributes := #[] }, { accessFlags := 10, nameIndex := 11, descriptorIndex := 12, attributes := #[] }, { accessFlags := 74, nameIndex := 175, descriptorIndex := 176, attributes := #[] }, { accessFlags := 10, nameIndex := 491, descriptorIndex := 222, attributes := #[] }, { accessFlags := 74, nameIndex := 29, descriptorIndex := 30, attributes := #[] }, { accessFlags := 74, nameIndex := 154, descriptorIndex := 155, attributes := #[] }, { accessFlags := 10, nameIndex := 217, descriptorIndex := 218, attributes := #[] }, { accessFlags := 10, nameIndex := 221, descriptorIndex := 222, attributes := #[] }, { accessFlags := 8, nameIndex := 562, descriptorIndex := 563, attributes := #[] }])
  fields := #[{ name := "in", type := (.object "java/io/InputStream"), accessFlags := 25, slot := 0, constantValue := 0 }, { name := "out", type := (.object "java/io/PrintStream"), accessFlags := 25, slot := 1, constantValue := 0 }, { name := "err", type := (.object "java/io/PrintStream"), accessFlags := 25, slot := 2, constantValue := 0 }, { name := "initialIn", type := (.object "java/io/InputStream"), accessFlags := 10, slot := 3, constantValue := 0 }, { name := "NEVER", type := .int, accessFlags := 26, slot := 4, constantValue := 0 }, { name := "MAYBE", type := .int, accessFlags := 26, slot := 5, constantValue := 0 }, { name := "allowSecurityManager", type := .int, accessFlags := 10, slot := 6, constantValue := 0 }, { name := "security", type := (.object "java/lang/SecurityManager"), accessFlags := 74, slot := 7, constantValue := 0 }, { name := "notSupportedJnuEncoding", type := (.object "java/lang/String"), accessFlags := 10, slot := 8, constantValue := 0 }, { name := "cons", type := (.object "java/io/Console"), accessFlags := 74, slot := 9, constantValue := 0 }, { name := "initialErrStream", type := (.object "java/io/PrintStream"), accessFlags := 74, slot := 10, constantValue := 0 }, { name := "props", type := (.object "java/util/Properties"), accessFlags := 10, slot := 11, constantValue := 0 }, { name := "lineSeparator", type := (.object "java/lang/String"), accessFlags := 10, slot := 12, constantValue := 0 }, { name := "bootLayer", type := (.object "java/lang/ModuleLayer"), accessFlags := 8, slot := 13, constantValue := 0 }]
  methods := #[k4m0, k4m1]
  instanceTypes := #[]
  staticTypes := #[(.object "java/io/InputStream"), (.object "java/io/PrintStream"), (.object "java/io/PrintStream"), (.object "java/io/InputStream"), .int, .int, .int, (.object "java/lang/SecurityManager"), (.object "java/lang/String"), (.object "java/io/Console"), (.object "java/io/PrintStream"), (.object "java/util/Properties"), (.object "java/lang/String"), (.object "java/lang/ModuleLayer")]
  resolved := Array.replicate 834 none
  statics := none }

def pool5 : Array CpInfo := pool [(1, u "java/lang/Cloneable"), (0, .class_ 1), (0, u "java/lang/Object"), (0, .class_ 3)] 3

/-- java/lang/Cloneable -/
def k5 : Class := { plain "java/lang/Cloneable" (some 0) with
  accessFlags := 1537
  interfaces := #[]
  cf := some (fileOf pool5 2 #[] #[] 1537 4 #[] #[])
  fields := #[]
  methods := #[]
  instanceTypes := #[]
  staticTypes := #[]
  resolved := Array.replicate 8 none
  statics := none }

def pool6 : Array CpInfo := pool [(1, u "java/io/Serializable"), (0, .class_ 1), (0, u "java/lang/Object"), (0, .class_ 3)] 3

/-- java/io/Serializable -/
def k6 : Class := { plain "java/io/Serializable" (some 0) with
  accessFlags := 1537
  interfaces := #[]
  cf := some (fileOf pool6 2 #[] #[] 1537 4 #[] #[])
  fields := #[]
  methods := #[]
  instanceTypes := #[]
  staticTypes := #[]
  resolved := Array.replicate 8 none
  statics := none }

/-- the primitive byte -/
def k7 : Class := { plain "byte" none with kind := .primitive 'B', accessFlags := 0x411 }
/-- [B -/
def k8 : Class := { plain "[B" (some 0) with kind := .array 7 .byte, interfaces := #[5, 6], accessFlags := 1041 }

/-- the primitive int -/
def k9 : Class := { plain "int" none with kind := .primitive 'I', accessFlags := 0x411 }
/-- [I -/
def k10 : Class := { plain "[I" (some 0) with kind := .array 9 .int, interfaces := #[5, 6], accessFlags := 1041 }

/-- the primitive long -/
def k11 : Class := { plain "long" none with kind := .primitive 'J', accessFlags := 0x411 }
/-- [J -/
def k12 : Class := { plain "[J" (some 0) with kind := .array 11 .long, interfaces := #[5, 6], accessFlags := 1041 }

def heap : Heap := #[]
def classes : Array Class := #[k0, k1, k2, k3, k4, k5, k6, k7, k8, k9, k10, k11, k12]
def interned : List (Array UInt16 × Addr) := []
def slotsUsed : Nat := 0
def theMethod : MethodId := ⟨1, 1⟩
def args0 : Array Value := #[.int 5, .long 7, .long 9]
def aboutOver (below : List Frame) : State where
  vm := { classes := classes, interned := interned.toArray }
  heap := heap
  slotsUsed := slotsUsed
  threads := #[{ frames := .invoking theMethod args0 :: below }]
def below0 : List Frame := [.native { method := ⟨0, 0⟩, args := #[] }]
def about1 : State := aboutOver below0
def p0 : Program := .bare "" "" ""
def e0 : Env := launch0.env 0 0 0
theorem w_frames : about1.frames = Frame.invoking theMethod args0 :: below0 := rfl
set_option maxRecDepth 65536 in
theorem w_args : argsFit about1.vm theMethod args0 = true := by decide +kernel
set_option maxRecDepth 65536 in
theorem w_heap : heapFits about1 = true := by decide +kernel
set_option maxRecDepth 65536 in
theorem w_runnable : about1.curStatus? = some .runnable := by decide +kernel
set_option maxRecDepth 65536 in
theorem w_alone : about1.alone = true := by decide +kernel
set_option maxRecDepth 65536 in
theorem w_named : about1.methodNamed? x = some theMethod := by decide +kernel
set_option maxRecDepth 65536 in
theorem w_hears : about1.hears theMethod below0 = true := by decide +kernel
set_option maxRecDepth 65536 in
theorem w_ripe : about1.ripe theMethod args0 below0 = true := by decide +kernel
theorem w_running : about1.status = .running := rfl
set_option maxRecDepth 65536 in
theorem w_room : about1.hasRoom e0.platform room_1 = true :=
  launch0.hasRoom_least _ room_1 (by decide +kernel) (by decide +kernel) (by decide +kernel) (by decide +kernel) (by decide +kernel) (by decide +kernel)
theorem allAtoms_all (ts : List Jvm.Cond) (a : Array Jvm.Value) (st : Jvm.State) : (allAtoms ts).before a st = ts.all (fun c => c.before a st) := by
  induction ts with
  | nil => rfl
  | cons c t ih =>
    show (Jvm.Cond.and c (allAtoms t)).before a st = _
    rw [Jvm.Cond.before_and, ih, List.all_cons]
def words1 : List Jvm.Cond := Jvm.Cond.code x code maxLocals ret :: tables_1
/-- a 'code' word, met by the world's own term for the bytes: nothing is compared byte by byte -/
theorem code_word {y : MethodName} {bytes : ByteArray} {mx : Nat} {rt : Option FieldType} {a : Array Value} {s : State} {m : MethodId} {meth : Method} {c : Code} (h1 : s.methodNamed? y = some m) (h2 : s.vm.method? m = some meth) (h3 : meth.code = some c) (h4 : c.code = bytes)
    (h5 : (c.maxLocals == mx && c.exceptionTable.isEmpty && decide (c.maxStack ≤ mostOperands) && decide (meth.sig.returnType = rt) && !meth.locks && decide (parseMethodDescriptor y.desc = some meth.sig)) = true) : (Jvm.Cond.code y bytes mx rt).before a s = true := by
  simp only [Bool.and_eq_true, beq_iff_eq, Bool.not_eq_true', decide_eq_true_eq] at h5
  obtain ⟨⟨⟨⟨⟨g1, g2⟩, g3⟩, g4⟩, g5⟩, g6⟩ := h5
  simp [Cond.before, Cond.holds, Cond.value, h1, h2, h3, h4, g1, g2, g3, g4, g5, g6]
def isCode : Jvm.Cond → Bool
  | .code _ _ _ _ => true
  | _ => false
theorem all_split {L : List Jvm.Cond} {P : Jvm.Cond → Bool} (h1 : L.all (fun c => isCode c || P c) = true) (h2 : ∀ c ∈ L.filter isCode, P c = true) : L.all P = true := by
  refine List.all_eq_true.mpr fun c hc => ?_
  have h := List.all_eq_true.mp h1 c hc
  rcases Bool.eq_false_or_eq_true (isCode c) with hi | hi
  · exact h2 c (List.mem_filter.mpr ⟨hc, hi⟩)
  · simpa [hi] using h
set_option maxRecDepth 65536 in
theorem w_c0 : (Jvm.Cond.code x code maxLocals ret).before args0 about1 = true := code_word (m := ⟨1, 1⟩) (meth := k1m1) (c := k1c1) (by decide +kernel) rfl rfl rfl (by decide +kernel)
set_option maxRecDepth 65536 in
theorem w_c1 : (Jvm.Cond.code ({ cls := "java/lang/Math", name := "min", desc := "(II)I" } : Jvm.MethodName) jdk_29_method_69_code (2 : Nat) (Option.some Jvm.ClassFile.FieldType.int)).before args0 about1 = true := code_word (m := ⟨2, 2⟩) (meth := k2m2) (c := k2c2) (by decide +kernel) rfl rfl rfl (by decide +kernel)
set_option maxRecDepth 65536 in
theorem w_c2 : (Jvm.Cond.code ({ cls := "com/example/mangrove/mangrove/MemorySlidingWindowLog$KeyLog", name := "<init>", desc := "(I)V" } : Jvm.MethodName) prog_23_method_1_code (2 : Nat) (Option.none : Option Jvm.ClassFile.FieldType)).before args0 about1 = true := code_word (m := ⟨3, 0⟩) (meth := k3m0) (c := k3c0) (by decide +kernel) rfl rfl rfl (by decide +kernel)
set_option maxRecDepth 65536 in
theorem w_c3 : (Jvm.Cond.code ({ cls := "java/lang/Object", name := "<init>", desc := "()V" } : Jvm.MethodName) object_method_1_code (1 : Nat) (Option.none : Option Jvm.ClassFile.FieldType)).before args0 about1 = true := code_word (m := ⟨0, 0⟩) (meth := k0m0) (c := k0c0) (by decide +kernel) rfl rfl rfl (by decide +kernel)
set_option maxRecDepth 65536 in
theorem w_c4 : (Jvm.Cond.code ({ cls := "com/example/mangrove/mangrove/MemorySlidingWindowLog$KeyLog", name := "add", desc := "(JJ)V" } : Jvm.MethodName) prog_23_method_7_code (5 : Nat) (Option.none : Option Jvm.ClassFile.FieldType)).before args0 about1 = true := code_word (m := ⟨3, 3⟩) (meth := k3m3) (c := k3c3) (by decide +kernel) rfl rfl rfl (by decide +kernel)
set_option maxRecDepth 65536 in
theorem w_c5 : (Jvm.Cond.code ({ cls := "com/example/mangrove/mangrove/MemorySlidingWindowLog$KeyLog", name := "newest", desc := "()J" } : Jvm.MethodName) prog_23_method_5_code (1 : Nat) (Option.some Jvm.ClassFile.FieldType.long)).before args0 about1 = true := code_word (m := ⟨3, 1⟩) (meth := k3m1) (c := k3c1) (by decide +kernel) rfl rfl rfl (by decide +kernel)
set_option maxRecDepth 65536 in
theorem w_c6 : (Jvm.Cond.code ({ cls := "com/example/mangrove/mangrove/MemorySlidingWindowLog$KeyLog", name := "grow", desc := "(J)V" } : Jvm.MethodName) prog_23_method_8_code (5 : Nat) (Option.none : Option Jvm.ClassFile.FieldType)).before args0 about1 = true := code_word (m := ⟨3, 4⟩) (meth := k3m4) (c := k3c4) (by decide +kernel) rfl rfl rfl (by decide +kernel)
set_option maxRecDepth 65536 in
theorem w_c7 : (Jvm.Cond.code ({ cls := "java/lang/Math", name := "min", desc := "(JJ)J" } : Jvm.MethodName) jdk_29_method_70_code (4 : Nat) (Option.some Jvm.ClassFile.FieldType.long)).before args0 about1 = true := code_word (m := ⟨2, 3⟩) (meth := k2m3) (c := k2c3) (by decide +kernel) rfl rfl rfl (by decide +kernel)
set_option maxRecDepth 65536 in
theorem w_c8 : (Jvm.Cond.code ({ cls := "java/lang/Math", name := "toIntExact", desc := "(J)I" } : Jvm.MethodName) jdk_29_method_43_code (2 : Nat) (Option.some Jvm.ClassFile.FieldType.int)).before args0 about1 = true := code_word (m := ⟨2, 1⟩) (meth := k2m1) (c := k2c1) (by decide +kernel) rfl rfl rfl (by decide +kernel)
set_option maxRecDepth 65536 in
theorem w_c9 : (Jvm.Cond.code ({ cls := "com/example/mangrove/mangrove/MemorySlidingWindowLog$KeyLog", name := "removeOldest", desc := "()V" } : Jvm.MethodName) prog_23_method_6_code (1 : Nat) (Option.none : Option Jvm.ClassFile.FieldType)).before args0 about1 = true := code_word (m := ⟨3, 2⟩) (meth := k3m2) (c := k3c2) (by decide +kernel) rfl rfl rfl (by decide +kernel)
def codes1 : List Jvm.Cond := [Jvm.Cond.code x code maxLocals ret, Jvm.Cond.code ({ cls := "java/lang/Math", name := "min", desc := "(II)I" } : Jvm.MethodName) jdk_29_method_69_code (2 : Nat) (Option.some Jvm.ClassFile.FieldType.int), Jvm.Cond.code ({ cls := "com/example/mangrove/mangrove/MemorySlidingWindowLog$KeyLog", name := "<init>", desc := "(I)V" } : Jvm.MethodName) prog_23_method_1_code (2 : Nat) (Option.none : Option Jvm.ClassFile.FieldType), Jvm.Cond.code ({ cls := "java/lang/Object", name := "<init>", desc := "()V" } : Jvm.MethodName) object_method_1_code (1 : Nat) (Option.none : Option Jvm.ClassFile.FieldType), Jvm.Cond.code ({ cls := "com/example/mangrove/mangrove/MemorySlidingWindowLog$KeyLog", name := "add", desc := "(JJ)V" } : Jvm.MethodName) prog_23_method_7_code (5 : Nat) (Option.none : Option Jvm.ClassFile.FieldType), Jvm.Cond.code ({ cls := "com/example/mangrove/mangrove/MemorySlidingWindowLog$KeyLog", name := "newest", desc := "()J" } : Jvm.MethodName) prog_23_method_5_code (1 : Nat) (Option.some Jvm.ClassFile.FieldType.long), Jvm.Cond.code ({ cls := "com/example/mangrove/mangrove/MemorySlidingWindowLog$KeyLog", name := "grow", desc := "(J)V" } : Jvm.MethodName) prog_23_method_8_code (5 : Nat) (Option.none : Option Jvm.ClassFile.FieldType), Jvm.Cond.code ({ cls := "java/lang/Math", name := "min", desc := "(JJ)J" } : Jvm.MethodName) jdk_29_method_70_code (4 : Nat) (Option.some Jvm.ClassFile.FieldType.long), Jvm.Cond.code ({ cls := "java/lang/Math", name := "toIntExact", desc := "(J)I" } : Jvm.MethodName) jdk_29_method_43_code (2 : Nat) (Option.some Jvm.ClassFile.FieldType.int), Jvm.Cond.code ({ cls := "com/example/mangrove/mangrove/MemorySlidingWindowLog$KeyLog", name := "removeOldest", desc := "()V" } : Jvm.MethodName) prog_23_method_6_code (1 : Nat) (Option.none : Option Jvm.ClassFile.FieldType)]
set_option maxRecDepth 65536 in
theorem codes_eq : words1.filter isCode = codes1 := rfl
theorem w_codes : ∀ c ∈ words1.filter isCode, c.before args0 about1 = true := by
  rw [codes_eq]
  intro c hc
  simp only [codes1, List.mem_cons, List.not_mem_nil, or_false] at hc
  rcases hc with rfl | rfl | rfl | rfl | rfl | rfl | rfl | rfl | rfl | rfl
  · exact w_c0
  · exact w_c1
  · exact w_c2
  · exact w_c3
  · exact w_c4
  · exact w_c5
  · exact w_c6
  · exact w_c7
  · exact w_c8
  · exact w_c9
set_option maxRecDepth 65536 in
theorem w_t1 : (words1.take 24).all (fun c => isCode c || c.before args0 about1) = true := by decide +kernel
set_option maxRecDepth 65536 in
theorem w_t2 : ((words1.drop 24).take 24).all (fun c => isCode c || c.before args0 about1) = true := by decide +kernel
set_option maxRecDepth 65536 in
theorem w_t3 : ((words1.drop 24).drop 24).all (fun c => isCode c || c.before args0 about1) = true := by decide +kernel
theorem w_tables : (allAtoms (Jvm.Cond.code x code maxLocals ret :: tables_1)).before args0 about1 = true := by
  rw [allAtoms_all]
  show words1.all (fun c => c.before args0 about1) = true
  refine all_split ?_ w_codes
  rw [← List.take_append_drop 24 words1, List.all_append, w_t1, ← List.take_append_drop 24 (words1.drop 24), List.all_append, w_t2, w_t3]
  rfl
set_option maxRecDepth 65536 in
theorem w_case : (Jvm.Cond.and given_1 narrow_1).before args0 about1 = true := by decide +kernel
theorem w_applies : (headSpec (Jvm.Cond.code x code maxLocals ret :: tables_1) room_1).applies x e0.platform about1 = true :=
  (Spec.applies_iff w_frames).mpr ⟨w_running, w_runnable, w_alone, w_named, w_hears, w_ripe, w_room, w_tables⟩
theorem atStart : AtStart classFile x code maxLocals ret World_1 tables_1 room_1 Calls_1 rest_1 Pre_1 launch0 p0 e0 about1 theMethod args0 below0 :=
  ⟨lists_1, trivial, launch0.admits_env _ _ _, launch0.least_env, fairChoices_fair.cas, fairChoices_fair.clock, w_frames, w_args, w_heap, w_applies, trivial, trivial, w_case⟩
end start1
theorem witness_1 : WitnessClaimed_1 := ⟨start1.p0, start1.e0, start1.about1, start1.theMethod, start1.args0, start1.below0, start1.atStart⟩
end Jvm.Pilot.@@N@@
