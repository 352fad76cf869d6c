/-
  zzSameItemValue OF TWO ITEMS THAT ARE THE SAME BUT FOR WHERE THEIR CONTENTS LIE.
-/
import Derived.Test.Qxb6616371aSameTools
import Derived.Deep.RegionHeld3
namespace Go.Proofs.Qxb6616371a
open Go.RowKit
set_option linter.unusedVariables false

/-- Two boxes of the call's own. -/
structure TC (w W : World) (cs ds : List Value) : Prop where
  bel : Below w.heap.size w W
  a : BoxAt W w.heap.size cs
  b : BoxAt W (w.heap.size + 1) ds
theorem TC.step {w W W' : World} {cs ds : List Value} (h : TC w W cs ds) (hb : Below W.heap.size W W') : TC w W' cs ds := ⟨h.bel.trans (hb.mono h.bel.size), h.a.step hb, h.b.step hb⟩
theorem TC.made (w : World) (cs ds : List Value) (t : TypeId) : TC w ((w.alloc (.cells cs.toArray t)).alloc (.cells ds.toArray t)) cs ds := by
  have z := BoxAt.made w cs t
  have s0 : (w.alloc (.cells cs.toArray t)).heap.size = w.heap.size + 1 := by simp
  have b0 := al w (.cells cs.toArray t)
  generalize w.alloc (.cells cs.toArray t) = W0 at *
  have r := BoxAt.made W0 ds t
  have b1 := al W0 (.cells ds.toArray t)
  rw [s0] at r
  exact ⟨b0.trans (b1.mono b0.size), z.step b1, r⟩

theorem TC.drew {w W : World} {cs ds : List Value} (h : TC w W cs ds) : TC w W.drew cs ds := h.step (Below.refl _ _).drew
theorem TC.cells {w W : World} {x0 x1 x2 x3 x4 x5 x6 x7 x8 x9 x10 x11 x12 x13 y0 y1 y2 y3 y4 y5 y6 y7 y8 y9 y10 y11 y12 y13 : Value} (h : TC w W [x0, x1, x2, x3, x4, x5, x6, x7, x8, x9, x10, x11, x12, x13] [y0, y1, y2, y3, y4, y5, y6, y7, y8, y9, y10, y11, y12, y13]) : W.cell? ⟨w.heap.size, 0, none⟩ = some x0 ∧ W.cell? ⟨w.heap.size, 1, none⟩ = some x1 ∧ W.cell? ⟨w.heap.size, 2, none⟩ = some x2 ∧ W.cell? ⟨w.heap.size, 3, none⟩ = some x3 ∧ W.cell? ⟨w.heap.size, 4, none⟩ = some x4 ∧ W.cell? ⟨w.heap.size, 5, none⟩ = some x5 ∧ W.cell? ⟨w.heap.size, 6, none⟩ = some x6 ∧ W.cell? ⟨w.heap.size, 7, none⟩ = some x7 ∧ W.cell? ⟨w.heap.size, 8, none⟩ = some x8 ∧ W.cell? ⟨w.heap.size, 9, none⟩ = some x9 ∧ W.cell? ⟨w.heap.size, 10, none⟩ = some x10 ∧ W.cell? ⟨w.heap.size, 11, none⟩ = some x11 ∧ W.cell? ⟨w.heap.size, 12, none⟩ = some x12 ∧ W.cell? ⟨w.heap.size, 13, none⟩ = some x13 ∧ W.cell? ⟨w.heap.size + 1, 0, none⟩ = some y0 ∧ W.cell? ⟨w.heap.size + 1, 1, none⟩ = some y1 ∧ W.cell? ⟨w.heap.size + 1, 2, none⟩ = some y2 ∧ W.cell? ⟨w.heap.size + 1, 3, none⟩ = some y3 ∧ W.cell? ⟨w.heap.size + 1, 4, none⟩ = some y4 ∧ W.cell? ⟨w.heap.size + 1, 5, none⟩ = some y5 ∧ W.cell? ⟨w.heap.size + 1, 6, none⟩ = some y6 ∧ W.cell? ⟨w.heap.size + 1, 7, none⟩ = some y7 ∧ W.cell? ⟨w.heap.size + 1, 8, none⟩ = some y8 ∧ W.cell? ⟨w.heap.size + 1, 9, none⟩ = some y9 ∧ W.cell? ⟨w.heap.size + 1, 10, none⟩ = some y10 ∧ W.cell? ⟨w.heap.size + 1, 11, none⟩ = some y11 ∧ W.cell? ⟨w.heap.size + 1, 12, none⟩ = some y12 ∧ W.cell? ⟨w.heap.size + 1, 13, none⟩ = some y13 :=
  ⟨h.a.get 0 _ rfl, h.a.get 1 _ rfl, h.a.get 2 _ rfl, h.a.get 3 _ rfl, h.a.get 4 _ rfl, h.a.get 5 _ rfl, h.a.get 6 _ rfl, h.a.get 7 _ rfl, h.a.get 8 _ rfl, h.a.get 9 _ rfl, h.a.get 10 _ rfl, h.a.get 11 _ rfl, h.a.get 12 _ rfl, h.a.get 13 _ rfl, h.b.get 0 _ rfl, h.b.get 1 _ rfl, h.b.get 2 _ rfl, h.b.get 3 _ rfl, h.b.get 4 _ rfl, h.b.get 5 _ rfl, h.b.get 6 _ rfl, h.b.get 7 _ rfl, h.b.get 8 _ rfl, h.b.get 9 _ rfl, h.b.get 10 _ rfl, h.b.get 11 _ rfl, h.b.get 12 _ rfl, h.b.get 13 _ rfl⟩

theorem wpAnyH_lit {P : Program} {md : Region.Mode} {Q : Exit → Act → World → Prop} {S : World → Prop} {l r : List Oper} {oi : Oper} {v : Value} {fuel : Nat} {listed : Array Bool} {a : Act} {w : World} (i : Nat) (hd : l.drop i = oi :: r)
    (hs : (Region.noSelect l.toArray && Region.free md l.toArray listed i && (Region.ready md l.toArray listed).contains i) = true)
    (hQ : ∀ c a w, Q (.panic c) (a.put oi.dst v) w → Q (.panic c) a w) (hy : YieldsIf P l.toArray S oi v a) (hS : S w)
    (h : wpAnyH P md l.toArray Q S fuel (listed.setIfInBounds i true) (a.put oi.dst v) w) : wpAnyH P md l.toArray Q S (fuel + 1) listed a w := by
  simp only [Bool.and_eq_true] at hs
  refine wpAnyH_take (i := i) (oi := oi) ?_ hs.1.1 hs.1.2 hs.2 hQ hy hS h
  have : (l.drop i)[0]? = some oi := by rw [hd]; rfl
  simpa using this
theorem op_lit {l r : List Oper} {oi : Oper} (i : Nat) (hd : l.drop i = oi :: r) : l.toArray[i]? = some oi := by
  have : (l.drop i)[0]? = some oi := by rw [hd]; rfl
  simpa using this

set_option maxRecDepth 100000 in
set_option maxHeartbeats 40000000 in
theorem zzSameItemValue_same (ty id st ro : ByteArray) (k k' : CK) (su : Raw) (spv : Nat → PartV) (ci nm : Option Addr) (ns : ByteArray) (ar inp : Option Addr) (o o' : CK) (ts : Raw) (w : World)
    (hk : SK w k k') (ho : SK w o o') (hsu : PartsAt w su spv) (hci : StrP w ci) (hnm : StrP w nm) (har : StrP w ar) (hinp : StrP w inp) (hts : 0 < ts.l → ∃ b off, ts.a = some ⟨b, off, none⟩) :
    Calls Try.prog 21 #[.agg #[.string ty, .string id, .string st, .string ro, k.val, .slice su.a su.l su.c, .pointer ci, .pointer nm, .string ns, .pointer ar, .pointer inp, o.val, .slice ts.a ts.l ts.c, .nilIface], .agg #[.string ty, .string id, .string st, .string ro, k'.val, .slice su.a su.l su.c, .pointer ci, .pointer nm, .string ns, .pointer ar, .pointer inp, o'.val, .slice ts.a ts.l ts.c, .nilIface]] w fun e w' => e = .returned (.bool true) ∧ Below w.heap.size w w' := by
  have Tb := hide (TC.made w [.string ty, .string id, .string st, .string ro, k.val, .slice su.a su.l su.c, .pointer ci, .pointer nm, .string ns, .pointer ar, .pointer inp, o.val, .slice ts.a ts.l ts.c, .nilIface] [.string ty, .string id, .string st, .string ro, k'.val, .slice su.a su.l su.c, .pointer ci, .pointer nm, .string ns, .pointer ar, .pointer inp, o'.val, .slice ts.a ts.l ts.c, .nilIface] 32)
  have k1 := k.one
  have k1' := k'.one
  have o1 := o.one
  have o1' := o'.one
  have Hk := hide hk
  have Ho := hide ho
  have Hsu := hide hsu
  have Hci := hide hci
  have Hnm := hide hnm
  have Har := hide har
  have Hinp := hide hinp
  have Hts := hide hts
  clear hk ho hsu hci hnm har hinp hts
  go_enter Try.func21, Try.ntmps21
  go_wp2_with fail
  generalize (w.alloc (.cells (List.toArray [.string ty, .string id, .string st, .string ro, k.val, .slice su.a su.l su.c, .pointer ci, .pointer nm, .string ns, .pointer ar, .pointer inp, o.val, .slice ts.a ts.l ts.c, .nilIface]) 32)).alloc (.cells (List.toArray [.string ty, .string id, .string st, .string ro, k'.val, .slice su.a su.l su.c, .pointer ci, .pointer nm, .string ns, .pointer ar, .pointer inp, o'.val, .slice ts.a ts.l ts.c, .nilIface]) 32) = W1 at *
  have TT := hide (unhide Tb).drew
  clear Tb
  simp only [List.append]
  generalize Value.agg (List.toArray [.string ty, .string id, .string st, .string ro, k.val, .slice su.a su.l su.c, .pointer ci, .pointer nm, .string ns, .pointer ar, .pointer inp, o.val, .slice ts.a ts.l ts.c, .nilIface]) = A0
  generalize Value.agg (List.toArray [.string ty, .string id, .string st, .string ro, k'.val, .slice su.a su.l su.c, .pointer ci, .pointer nm, .string ns, .pointer ar, .pointer inp, o'.val, .slice ts.a ts.l ts.c, .nilIface]) = A1
  refine wp_region_noPanic ?_
  refine wp_region_held_drew (S := fun v => v.cell? ⟨w.heap.size, 0, none⟩ = some (.string ty) ∧ v.cell? ⟨w.heap.size, 1, none⟩ = some (.string id) ∧ v.cell? ⟨w.heap.size, 2, none⟩ = some (.string st) ∧ v.cell? ⟨w.heap.size, 3, none⟩ = some (.string ro) ∧ v.cell? ⟨w.heap.size, 4, none⟩ = some (k.val) ∧ v.cell? ⟨w.heap.size, 5, none⟩ = some (.slice su.a su.l su.c) ∧ v.cell? ⟨w.heap.size, 6, none⟩ = some (.pointer ci) ∧ v.cell? ⟨w.heap.size, 7, none⟩ = some (.pointer nm) ∧ v.cell? ⟨w.heap.size, 8, none⟩ = some (.string ns) ∧ v.cell? ⟨w.heap.size, 9, none⟩ = some (.pointer ar) ∧ v.cell? ⟨w.heap.size, 10, none⟩ = some (.pointer inp) ∧ v.cell? ⟨w.heap.size, 11, none⟩ = some (o.val) ∧ v.cell? ⟨w.heap.size, 12, none⟩ = some (.slice ts.a ts.l ts.c) ∧ v.cell? ⟨w.heap.size, 13, none⟩ = some (.nilIface) ∧ v.cell? ⟨w.heap.size + 1, 0, none⟩ = some (.string ty) ∧ v.cell? ⟨w.heap.size + 1, 1, none⟩ = some (.string id) ∧ v.cell? ⟨w.heap.size + 1, 2, none⟩ = some (.string st) ∧ v.cell? ⟨w.heap.size + 1, 3, none⟩ = some (.string ro) ∧ v.cell? ⟨w.heap.size + 1, 4, none⟩ = some (k'.val) ∧ v.cell? ⟨w.heap.size + 1, 5, none⟩ = some (.slice su.a su.l su.c) ∧ v.cell? ⟨w.heap.size + 1, 6, none⟩ = some (.pointer ci) ∧ v.cell? ⟨w.heap.size + 1, 7, none⟩ = some (.pointer nm) ∧ v.cell? ⟨w.heap.size + 1, 8, none⟩ = some (.string ns) ∧ v.cell? ⟨w.heap.size + 1, 9, none⟩ = some (.pointer ar) ∧ v.cell? ⟨w.heap.size + 1, 10, none⟩ = some (.pointer inp) ∧ v.cell? ⟨w.heap.size + 1, 11, none⟩ = some (o'.val) ∧ v.cell? ⟨w.heap.size + 1, 12, none⟩ = some (.slice ts.a ts.l ts.c) ∧ v.cell? ⟨w.heap.size + 1, 13, none⟩ = some (.nilIface)) (by kernel_rfl) (TC.cells (unhide TT)) (fun hOld => ?_)
  refine wpAnyH_lit (v := ?_) 0 rfl (by as_aux_lemma => kernel_rfl) (fun _ _ _ h => h) (Or.inl ⟨by rfl, ?_⟩) hOld ?_
  rotate_left
  · intro w hSw
    (try dsimp only at hSw)
    go_simp
    try with_reducible rfl
  simp only [Act.put, List.setIfInBounds_toArray, List.set_cons_zero, List.set_cons_succ]
  refine wpAnyH_lit (v := ?_) 1 rfl (by as_aux_lemma => kernel_rfl) (fun _ _ _ h => h) (Or.inl ⟨by rfl, ?_⟩) hOld ?_
  rotate_left
  · intro w hSw
    (try dsimp only at hSw)
    go_simp
    try with_reducible rfl
  simp only [Act.put, List.setIfInBounds_toArray, List.set_cons_zero, List.set_cons_succ]
  refine wpAnyH_lit (v := ?_) 2 rfl (by as_aux_lemma => kernel_rfl) (fun _ _ _ h => h) (Or.inl ⟨by rfl, ?_⟩) hOld ?_
  rotate_left
  · intro w hSw
    (try dsimp only at hSw)
    go_simp
    try with_reducible rfl
  simp only [Act.put, List.setIfInBounds_toArray, List.set_cons_zero, List.set_cons_succ]
  refine wpAnyH_lit (v := ?_) 3 rfl (by as_aux_lemma => kernel_rfl) (fun _ _ _ h => h) (Or.inl ⟨by rfl, ?_⟩) hOld ?_
  rotate_left
  · intro w hSw
    (try dsimp only at hSw)
    go_simp
    try with_reducible rfl
  simp only [Act.put, List.setIfInBounds_toArray, List.set_cons_zero, List.set_cons_succ]
  refine wpAnyH_lit (v := ?_) 4 rfl (by as_aux_lemma => kernel_rfl) (fun _ _ _ h => h) (Or.inl ⟨by rfl, ?_⟩) hOld ?_
  rotate_left
  · intro w hSw
    (try dsimp only at hSw)
    go_simp
    try with_reducible rfl
  simp only [Act.put, List.setIfInBounds_toArray, List.set_cons_zero, List.set_cons_succ]
  refine wpAnyH_lit (v := ?_) 5 rfl (by as_aux_lemma => kernel_rfl) (fun _ _ _ h => h) (Or.inl ⟨by rfl, ?_⟩) hOld ?_
  rotate_left
  · intro w hSw
    (try dsimp only at hSw)
    go_simp
    try with_reducible rfl
  simp only [Act.put, List.setIfInBounds_toArray, List.set_cons_zero, List.set_cons_succ]
  refine wpAnyH_lit (v := ?_) 6 rfl (by as_aux_lemma => kernel_rfl) (fun _ _ _ h => h) (Or.inl ⟨by rfl, ?_⟩) hOld ?_
  rotate_left
  · intro w hSw
    (try dsimp only at hSw)
    go_simp
    try with_reducible rfl
  simp only [Act.put, List.setIfInBounds_toArray, List.set_cons_zero, List.set_cons_succ]
  refine wpAnyH_lit (v := ?_) 7 rfl (by as_aux_lemma => kernel_rfl) (fun _ _ _ h => h) (Or.inl ⟨by rfl, ?_⟩) hOld ?_
  rotate_left
  · intro w hSw
    (try dsimp only at hSw)
    go_simp
    try with_reducible rfl
  simp only [Act.put, List.setIfInBounds_toArray, List.set_cons_zero, List.set_cons_succ]
  refine wpAnyH_lit (v := ?_) 8 rfl (by as_aux_lemma => kernel_rfl) (fun _ _ _ h => h) (Or.inl ⟨by rfl, ?_⟩) hOld ?_
  rotate_left
  · intro w hSw
    (try dsimp only at hSw)
    go_simp
    try with_reducible rfl
  simp only [Act.put, List.setIfInBounds_toArray, List.set_cons_zero, List.set_cons_succ]
  refine wpAnyH_lit (v := ?_) 9 rfl (by as_aux_lemma => kernel_rfl) (fun _ _ _ h => h) (Or.inl ⟨by rfl, ?_⟩) hOld ?_
  rotate_left
  · intro w hSw
    (try dsimp only at hSw)
    go_simp
    try with_reducible rfl
  simp only [Act.put, List.setIfInBounds_toArray, List.set_cons_zero, List.set_cons_succ]
  refine wpAnyH_lit (v := ?_) 10 rfl (by as_aux_lemma => kernel_rfl) (fun _ _ _ h => h) (Or.inl ⟨by rfl, ?_⟩) hOld ?_
  rotate_left
  · intro w hSw
    (try dsimp only at hSw)
    go_simp
    try with_reducible rfl
  simp only [Act.put, List.setIfInBounds_toArray, List.set_cons_zero, List.set_cons_succ]
  refine wpAnyH_lit (v := ?_) 11 rfl (by as_aux_lemma => kernel_rfl) (fun _ _ _ h => h) (Or.inl ⟨by rfl, ?_⟩) hOld ?_
  rotate_left
  · intro w hSw
    (try dsimp only at hSw)
    go_simp
    try with_reducible rfl
  simp only [Act.put, List.setIfInBounds_toArray, List.set_cons_zero, List.set_cons_succ]
  refine wpAnyH_lit (v := ?_) 12 rfl (by as_aux_lemma => kernel_rfl) (fun _ _ _ h => h) (Or.inl ⟨by rfl, ?_⟩) hOld ?_
  rotate_left
  · intro w hSw
    (try dsimp only at hSw)
    go_simp
    try with_reducible rfl
  simp only [Act.put, List.setIfInBounds_toArray, List.set_cons_zero, List.set_cons_succ]
  refine wpAnyH_lit (v := ?_) 13 rfl (by as_aux_lemma => kernel_rfl) (fun _ _ _ h => h) (Or.inl ⟨by rfl, ?_⟩) hOld ?_
  rotate_left
  · intro w hSw
    (try dsimp only at hSw)
    go_simp
    try with_reducible rfl
  simp only [Act.put, List.setIfInBounds_toArray, List.set_cons_zero, List.set_cons_succ]
  refine wpAnyH_lit (v := ?_) 14 rfl (by as_aux_lemma => kernel_rfl) (fun _ _ _ h => h) (Or.inl ⟨by rfl, ?_⟩) hOld ?_
  rotate_left
  · intro w hSw
    (try dsimp only at hSw)
    go_simp
    try with_reducible rfl
  simp only [Act.put, List.setIfInBounds_toArray, List.set_cons_zero, List.set_cons_succ]
  refine wpAnyH_lit (v := ?_) 15 rfl (by as_aux_lemma => kernel_rfl) (fun _ _ _ h => h) (Or.inl ⟨by rfl, ?_⟩) hOld ?_
  rotate_left
  · intro w hSw
    (try dsimp only at hSw)
    go_simp
    try with_reducible rfl
  simp only [Act.put, List.setIfInBounds_toArray, List.set_cons_zero, List.set_cons_succ]
  refine wpAnyH_lit (v := ?_) 16 rfl (by as_aux_lemma => kernel_rfl) (fun _ _ _ h => h) (Or.inl ⟨by rfl, ?_⟩) hOld ?_
  rotate_left
  · intro w hSw
    (try dsimp only at hSw)
    go_simp
    try with_reducible rfl
  simp only [Act.put, List.setIfInBounds_toArray, List.set_cons_zero, List.set_cons_succ]
  refine wpAnyH_lit (v := ?_) 17 rfl (by as_aux_lemma => kernel_rfl) (fun _ _ _ h => h) (Or.inl ⟨by rfl, ?_⟩) hOld ?_
  rotate_left
  · intro w hSw
    (try dsimp only at hSw)
    go_simp
    try with_reducible rfl
  simp only [Act.put, List.setIfInBounds_toArray, List.set_cons_zero, List.set_cons_succ]
  refine wpAnyH_lit (v := ?_) 18 rfl (by as_aux_lemma => kernel_rfl) (fun _ _ _ h => h) (Or.inl ⟨by rfl, ?_⟩) hOld ?_
  rotate_left
  · intro w hSw
    (try dsimp only at hSw)
    go_simp
    try with_reducible rfl
  simp only [Act.put, List.setIfInBounds_toArray, List.set_cons_zero, List.set_cons_succ]
  refine wpAnyH_lit (v := ?_) 19 rfl (by as_aux_lemma => kernel_rfl) (fun _ _ _ h => h) (Or.inl ⟨by rfl, ?_⟩) hOld ?_
  rotate_left
  · intro w hSw
    (try dsimp only at hSw)
    go_simp
    try with_reducible rfl
  simp only [Act.put, List.setIfInBounds_toArray, List.set_cons_zero, List.set_cons_succ]
  refine wpAnyH_lit (v := ?_) 20 rfl (by as_aux_lemma => kernel_rfl) (fun _ _ _ h => h) (Or.inl ⟨by rfl, ?_⟩) hOld ?_
  rotate_left
  · intro w hSw
    (try dsimp only at hSw)
    go_simp
    try with_reducible rfl
  simp only [Act.put, List.setIfInBounds_toArray, List.set_cons_zero, List.set_cons_succ]
  refine wpAnyH_lit (v := ?_) 21 rfl (by as_aux_lemma => kernel_rfl) (fun _ _ _ h => h) (Or.inl ⟨by rfl, ?_⟩) hOld ?_
  rotate_left
  · intro w hSw
    (try dsimp only at hSw)
    go_simp
    try with_reducible rfl
  simp only [Act.put, List.setIfInBounds_toArray, List.set_cons_zero, List.set_cons_succ]
  refine wpAnyH_lit (v := ?_) 22 rfl (by as_aux_lemma => kernel_rfl) (fun _ _ _ h => h) (Or.inl ⟨by rfl, ?_⟩) hOld ?_
  rotate_left
  · intro w hSw
    (try dsimp only at hSw)
    go_simp
    try with_reducible rfl
  simp only [Act.put, List.setIfInBounds_toArray, List.set_cons_zero, List.set_cons_succ]
  refine wpAnyH_lit (v := ?_) 23 rfl (by as_aux_lemma => kernel_rfl) (fun _ _ _ h => h) (Or.inl ⟨by rfl, ?_⟩) hOld ?_
  rotate_left
  · intro w hSw
    (try dsimp only at hSw)
    go_simp
    try with_reducible rfl
  simp only [Act.put, List.setIfInBounds_toArray, List.set_cons_zero, List.set_cons_succ]
  refine wpAnyH_lit (v := ?_) 24 rfl (by as_aux_lemma => kernel_rfl) (fun _ _ _ h => h) (Or.inl ⟨by rfl, ?_⟩) hOld ?_
  rotate_left
  · intro w hSw
    (try dsimp only at hSw)
    go_simp
    try with_reducible rfl
  simp only [Act.put, List.setIfInBounds_toArray, List.set_cons_zero, List.set_cons_succ]
  refine wpAnyH_lit (v := ?_) 25 rfl (by as_aux_lemma => kernel_rfl) (fun _ _ _ h => h) (Or.inl ⟨by rfl, ?_⟩) hOld ?_
  rotate_left
  · intro w hSw
    (try dsimp only at hSw)
    go_simp
    try with_reducible rfl
  simp only [Act.put, List.setIfInBounds_toArray, List.set_cons_zero, List.set_cons_succ]
  refine wpAnyH_lit (v := ?_) 26 rfl (by as_aux_lemma => kernel_rfl) (fun _ _ _ h => h) (Or.inl ⟨by rfl, ?_⟩) hOld ?_
  rotate_left
  · intro w hSw
    (try dsimp only at hSw)
    go_simp
    try with_reducible rfl
  simp only [Act.put, List.setIfInBounds_toArray, List.set_cons_zero, List.set_cons_succ]
  refine wpAnyH_lit (v := ?_) 27 rfl (by as_aux_lemma => kernel_rfl) (fun _ _ _ h => h) (Or.inl ⟨by rfl, ?_⟩) hOld ?_
  rotate_left
  · intro w hSw
    (try dsimp only at hSw)
    go_simp
    try with_reducible rfl
  simp only [Act.put, List.setIfInBounds_toArray, List.set_cons_zero, List.set_cons_succ]
  refine wpAnyH_lit (v := ?_) 28 rfl (by as_aux_lemma => kernel_rfl) (fun _ _ _ h => h) (Or.inl ⟨by rfl, ?_⟩) hOld ?_
  rotate_left
  · intro w hSw
    (try dsimp only at hSw)
    go_simp
    try with_reducible rfl
  simp only [Act.put, List.setIfInBounds_toArray, List.set_cons_zero, List.set_cons_succ]
  refine wpAnyH_lit (v := ?_) 29 rfl (by as_aux_lemma => kernel_rfl) (fun _ _ _ h => h) (Or.inl ⟨by rfl, ?_⟩) hOld ?_
  rotate_left
  · intro w hSw
    (try dsimp only at hSw)
    go_simp
    try with_reducible rfl
  simp only [Act.put, List.setIfInBounds_toArray, List.set_cons_zero, List.set_cons_succ]
  refine wpAnyH_lit (v := ?_) 30 rfl (by as_aux_lemma => kernel_rfl) (fun _ _ _ h => h) (Or.inl ⟨by rfl, ?_⟩) hOld ?_
  rotate_left
  · intro w hSw
    (try dsimp only at hSw)
    go_simp
    try with_reducible rfl
  simp only [Act.put, List.setIfInBounds_toArray, List.set_cons_zero, List.set_cons_succ]
  refine wpAnyH_lit (v := ?_) 31 rfl (by as_aux_lemma => kernel_rfl) (fun _ _ _ h => h) (Or.inl ⟨by rfl, ?_⟩) hOld ?_
  rotate_left
  · intro w hSw
    (try dsimp only at hSw)
    go_simp
    try with_reducible rfl
  simp only [Act.put, List.setIfInBounds_toArray, List.set_cons_zero, List.set_cons_succ]
  refine wpAnyH_lit (v := ?_) 32 rfl (by as_aux_lemma => kernel_rfl) (fun _ _ _ h => h) (Or.inl ⟨by rfl, ?_⟩) hOld ?_
  rotate_left
  · intro w hSw
    (try dsimp only at hSw)
    go_simp
    try with_reducible rfl
  simp only [Act.put, List.setIfInBounds_toArray, List.set_cons_zero, List.set_cons_succ]
  refine wpAnyH_lit (v := ?_) 33 rfl (by as_aux_lemma => kernel_rfl) (fun _ _ _ h => h) (Or.inl ⟨by rfl, ?_⟩) hOld ?_
  rotate_left
  · intro w hSw
    (try dsimp only at hSw)
    go_simp
    try with_reducible rfl
  simp only [Act.put, List.setIfInBounds_toArray, List.set_cons_zero, List.set_cons_succ]
  refine wpAnyH_lit (v := ?_) 34 rfl (by as_aux_lemma => kernel_rfl) (fun _ _ _ h => h) (Or.inl ⟨by rfl, ?_⟩) hOld ?_
  rotate_left
  · intro w hSw
    (try dsimp only at hSw)
    go_simp
    try with_reducible rfl
  simp only [Act.put, List.setIfInBounds_toArray, List.set_cons_zero, List.set_cons_succ]
  refine wpAnyH_lit (v := ?_) 35 rfl (by as_aux_lemma => kernel_rfl) (fun _ _ _ h => h) (Or.inl ⟨by rfl, ?_⟩) hOld ?_
  rotate_left
  · intro w hSw
    (try dsimp only at hSw)
    go_simp
    try with_reducible rfl
  simp only [Act.put, List.setIfInBounds_toArray, List.set_cons_zero, List.set_cons_succ]
  refine wpAnyH_lit (v := ?_) 36 rfl (by as_aux_lemma => kernel_rfl) (fun _ _ _ h => h) (Or.inl ⟨by rfl, ?_⟩) hOld ?_
  rotate_left
  · intro w hSw
    (try dsimp only at hSw)
    go_simp
    try with_reducible rfl
  simp only [Act.put, List.setIfInBounds_toArray, List.set_cons_zero, List.set_cons_succ]
  refine wpAnyH_lit (v := ?_) 37 rfl (by as_aux_lemma => kernel_rfl) (fun _ _ _ h => h) (Or.inl ⟨by rfl, ?_⟩) hOld ?_
  rotate_left
  · intro w hSw
    (try dsimp only at hSw)
    go_simp
    try with_reducible rfl
  simp only [Act.put, List.setIfInBounds_toArray, List.set_cons_zero, List.set_cons_succ]
  refine wpAnyH_ready (rs := [38]) (by as_aux_lemma => kernel_rfl) (by simp) ?_
  refine AllReadyH.cons (o := _) (op_lit 38 rfl) (fun K hK => ?_) AllReadyH.nil
  go_simp
  (go_at_call 33; with_reducible refine (zzSameStrp_self ci _ ((unhide Hci).step (unhide TT).bel)).mono ?_; rintro e wN ⟨rfl, hb⟩; have TN := hide ((unhide TT).step hb); clear TT hb; have TT := TN; clear TN)
  try go_wp2_with fail
  refine hK.out _ _ (TC.cells (unhide TT)) (fun hHeld => ?_)
  clear hK K
  try simp only [Act.put, List.setIfInBounds_toArray, List.set_cons_zero, List.set_cons_succ]
  clear hOld
  have hOld := hHeld
  clear hHeld
  refine wpAnyH_lit (v := ?_) 39 rfl (by as_aux_lemma => kernel_rfl) (fun _ _ _ h => h) (Or.inl ⟨by rfl, ?_⟩) hOld ?_
  rotate_left
  · intro w hSw
    (try dsimp only at hSw)
    go_simp
    try with_reducible rfl
  simp only [Act.put, List.setIfInBounds_toArray, List.set_cons_zero, List.set_cons_succ]
  refine wpAnyH_lit (v := ?_) 40 rfl (by as_aux_lemma => kernel_rfl) (fun _ _ _ h => h) (Or.inl ⟨by rfl, ?_⟩) hOld ?_
  rotate_left
  · intro w hSw
    (try dsimp only at hSw)
    go_simp
    try with_reducible rfl
  simp only [Act.put, List.setIfInBounds_toArray, List.set_cons_zero, List.set_cons_succ]
  refine wpAnyH_lit (v := ?_) 41 rfl (by as_aux_lemma => kernel_rfl) (fun _ _ _ h => h) (Or.inl ⟨by rfl, ?_⟩) hOld ?_
  rotate_left
  · intro w hSw
    (try dsimp only at hSw)
    go_simp
    try with_reducible rfl
  simp only [Act.put, List.setIfInBounds_toArray, List.set_cons_zero, List.set_cons_succ]
  refine wpAnyH_lit (v := ?_) 42 rfl (by as_aux_lemma => kernel_rfl) (fun _ _ _ h => h) (Or.inl ⟨by rfl, ?_⟩) hOld ?_
  rotate_left
  · intro w hSw
    (try dsimp only at hSw)
    go_simp
    try with_reducible rfl
  simp only [Act.put, List.setIfInBounds_toArray, List.set_cons_zero, List.set_cons_succ]
  refine wpAnyH_lit (v := ?_) 43 rfl (by as_aux_lemma => kernel_rfl) (fun _ _ _ h => h) (Or.inl ⟨by rfl, ?_⟩) hOld ?_
  rotate_left
  · intro w hSw
    (try dsimp only at hSw)
    go_simp
    try with_reducible rfl
  simp only [Act.put, List.setIfInBounds_toArray, List.set_cons_zero, List.set_cons_succ]
  refine wpAnyH_lit (v := ?_) 44 rfl (by as_aux_lemma => kernel_rfl) (fun _ _ _ h => h) (Or.inl ⟨by rfl, ?_⟩) hOld ?_
  rotate_left
  · intro w hSw
    (try dsimp only at hSw)
    go_simp
    try with_reducible rfl
  simp only [Act.put, List.setIfInBounds_toArray, List.set_cons_zero, List.set_cons_succ]
  refine wpAnyH_ready (rs := [45]) (by as_aux_lemma => kernel_rfl) (by simp) ?_
  refine AllReadyH.cons (o := _) (op_lit 45 rfl) (fun K hK => ?_) AllReadyH.nil
  go_simp
  (go_at_call 33; with_reducible refine (zzSameStrp_self nm _ ((unhide Hnm).step (unhide TT).bel)).mono ?_; rintro e wN ⟨rfl, hb⟩; have TN := hide ((unhide TT).step hb); clear TT hb; have TT := TN; clear TN)
  try go_wp2_with fail
  refine hK.out _ _ (TC.cells (unhide TT)) (fun hHeld => ?_)
  clear hK K
  try simp only [Act.put, List.setIfInBounds_toArray, List.set_cons_zero, List.set_cons_succ]
  clear hOld
  have hOld := hHeld
  clear hHeld
  refine wpAnyH_lit (v := ?_) 46 rfl (by as_aux_lemma => kernel_rfl) (fun _ _ _ h => h) (Or.inl ⟨by rfl, ?_⟩) hOld ?_
  rotate_left
  · intro w hSw
    (try dsimp only at hSw)
    go_simp
    try with_reducible rfl
  simp only [Act.put, List.setIfInBounds_toArray, List.set_cons_zero, List.set_cons_succ]
  refine wpAnyH_lit (v := ?_) 47 rfl (by as_aux_lemma => kernel_rfl) (fun _ _ _ h => h) (Or.inl ⟨by rfl, ?_⟩) hOld ?_
  rotate_left
  · intro w hSw
    (try dsimp only at hSw)
    go_simp
    try with_reducible rfl
  simp only [Act.put, List.setIfInBounds_toArray, List.set_cons_zero, List.set_cons_succ]
  refine wpAnyH_lit (v := ?_) 48 rfl (by as_aux_lemma => kernel_rfl) (fun _ _ _ h => h) (Or.inl ⟨by rfl, ?_⟩) hOld ?_
  rotate_left
  · intro w hSw
    (try dsimp only at hSw)
    go_simp
    try with_reducible rfl
  simp only [Act.put, List.setIfInBounds_toArray, List.set_cons_zero, List.set_cons_succ]
  refine wpAnyH_lit (v := ?_) 49 rfl (by as_aux_lemma => kernel_rfl) (fun _ _ _ h => h) (Or.inl ⟨by rfl, ?_⟩) hOld ?_
  rotate_left
  · intro w hSw
    (try dsimp only at hSw)
    go_simp
    try with_reducible rfl
  simp only [Act.put, List.setIfInBounds_toArray, List.set_cons_zero, List.set_cons_succ]
  refine wpAnyH_lit (v := ?_) 50 rfl (by as_aux_lemma => kernel_rfl) (fun _ _ _ h => h) (Or.inl ⟨by rfl, ?_⟩) hOld ?_
  rotate_left
  · intro w hSw
    (try dsimp only at hSw)
    go_simp
    try with_reducible rfl
  simp only [Act.put, List.setIfInBounds_toArray, List.set_cons_zero, List.set_cons_succ]
  refine wpAnyH_lit (v := ?_) 51 rfl (by as_aux_lemma => kernel_rfl) (fun _ _ _ h => h) (Or.inl ⟨by rfl, ?_⟩) hOld ?_
  rotate_left
  · intro w hSw
    (try dsimp only at hSw)
    go_simp
    try with_reducible rfl
  simp only [Act.put, List.setIfInBounds_toArray, List.set_cons_zero, List.set_cons_succ]
  refine wpAnyH_ready (rs := [52]) (by as_aux_lemma => kernel_rfl) (by simp) ?_
  refine AllReadyH.cons (o := _) (op_lit 52 rfl) (fun K hK => ?_) AllReadyH.nil
  go_simp
  (go_at_call 33; with_reducible refine (zzSameStrp_self ar _ ((unhide Har).step (unhide TT).bel)).mono ?_; rintro e wN ⟨rfl, hb⟩; have TN := hide ((unhide TT).step hb); clear TT hb; have TT := TN; clear TN)
  try go_wp2_with fail
  refine hK.out _ _ (TC.cells (unhide TT)) (fun hHeld => ?_)
  clear hK K
  try simp only [Act.put, List.setIfInBounds_toArray, List.set_cons_zero, List.set_cons_succ]
  clear hOld
  have hOld := hHeld
  clear hHeld
  refine wpAnyH_lit (v := ?_) 53 rfl (by as_aux_lemma => kernel_rfl) (fun _ _ _ h => h) (Or.inl ⟨by rfl, ?_⟩) hOld ?_
  rotate_left
  · intro w hSw
    (try dsimp only at hSw)
    go_simp
    try with_reducible rfl
  simp only [Act.put, List.setIfInBounds_toArray, List.set_cons_zero, List.set_cons_succ]
  refine wpAnyH_lit (v := ?_) 54 rfl (by as_aux_lemma => kernel_rfl) (fun _ _ _ h => h) (Or.inl ⟨by rfl, ?_⟩) hOld ?_
  rotate_left
  · intro w hSw
    (try dsimp only at hSw)
    go_simp
    try with_reducible rfl
  simp only [Act.put, List.setIfInBounds_toArray, List.set_cons_zero, List.set_cons_succ]
  refine wpAnyH_lit (v := ?_) 55 rfl (by as_aux_lemma => kernel_rfl) (fun _ _ _ h => h) (Or.inl ⟨by rfl, ?_⟩) hOld ?_
  rotate_left
  · intro w hSw
    (try dsimp only at hSw)
    go_simp
    try with_reducible rfl
  simp only [Act.put, List.setIfInBounds_toArray, List.set_cons_zero, List.set_cons_succ]
  refine wpAnyH_lit (v := ?_) 56 rfl (by as_aux_lemma => kernel_rfl) (fun _ _ _ h => h) (Or.inl ⟨by rfl, ?_⟩) hOld ?_
  rotate_left
  · intro w hSw
    (try dsimp only at hSw)
    go_simp
    try with_reducible rfl
  simp only [Act.put, List.setIfInBounds_toArray, List.set_cons_zero, List.set_cons_succ]
  refine wpAnyH_lit (v := ?_) 57 rfl (by as_aux_lemma => kernel_rfl) (fun _ _ _ h => h) (Or.inl ⟨by rfl, ?_⟩) hOld ?_
  rotate_left
  · intro w hSw
    (try dsimp only at hSw)
    go_simp
    try with_reducible rfl
  simp only [Act.put, List.setIfInBounds_toArray, List.set_cons_zero, List.set_cons_succ]
  refine wpAnyH_lit (v := ?_) 58 rfl (by as_aux_lemma => kernel_rfl) (fun _ _ _ h => h) (Or.inl ⟨by rfl, ?_⟩) hOld ?_
  rotate_left
  · intro w hSw
    (try dsimp only at hSw)
    go_simp
    try with_reducible rfl
  simp only [Act.put, List.setIfInBounds_toArray, List.set_cons_zero, List.set_cons_succ]
  refine wpAnyH_ready (rs := [59]) (by as_aux_lemma => kernel_rfl) (by simp) ?_
  refine AllReadyH.cons (o := _) (op_lit 59 rfl) (fun K hK => ?_) AllReadyH.nil
  go_simp
  (go_at_call 33; with_reducible refine (zzSameStrp_self inp _ ((unhide Hinp).step (unhide TT).bel)).mono ?_; rintro e wN ⟨rfl, hb⟩; have TN := hide ((unhide TT).step hb); clear TT hb; have TT := TN; clear TN)
  try go_wp2_with fail
  refine hK.out _ _ (TC.cells (unhide TT)) (fun hHeld => ?_)
  clear hK K
  try simp only [Act.put, List.setIfInBounds_toArray, List.set_cons_zero, List.set_cons_succ]
  clear hOld
  have hOld := hHeld
  clear hHeld
  refine wpAnyH_lit (v := ?_) 60 rfl (by as_aux_lemma => kernel_rfl) (fun _ _ _ h => h) (Or.inl ⟨by rfl, ?_⟩) hOld ?_
  rotate_left
  · intro w hSw
    (try dsimp only at hSw)
    go_simp
    try with_reducible rfl
  simp only [Act.put, List.setIfInBounds_toArray, List.set_cons_zero, List.set_cons_succ]
  refine wpAnyH_lit (v := ?_) 61 rfl (by as_aux_lemma => kernel_rfl) (fun _ _ _ h => h) (Or.inl ⟨by rfl, ?_⟩) hOld ?_
  rotate_left
  · intro w hSw
    (try dsimp only at hSw)
    go_simp
    try with_reducible rfl
  simp only [Act.put, List.setIfInBounds_toArray, List.set_cons_zero, List.set_cons_succ]
  refine wpAnyH_lit (v := ?_) 62 rfl (by as_aux_lemma => kernel_rfl) (fun _ _ _ h => h) (Or.inl ⟨by rfl, ?_⟩) hOld ?_
  rotate_left
  · intro w hSw
    (try dsimp only at hSw)
    go_simp
    try with_reducible rfl
  simp only [Act.put, List.setIfInBounds_toArray, List.set_cons_zero, List.set_cons_succ]
  refine wpAnyH_lit (v := ?_) 63 rfl (by as_aux_lemma => kernel_rfl) (fun _ _ _ h => h) (Or.inl ⟨by rfl, ?_⟩) hOld ?_
  rotate_left
  · intro w hSw
    (try dsimp only at hSw)
    go_simp
    try with_reducible rfl
  simp only [Act.put, List.setIfInBounds_toArray, List.set_cons_zero, List.set_cons_succ]
  refine wpAnyH_lit (v := ?_) 64 rfl (by as_aux_lemma => kernel_rfl) (fun _ _ _ h => h) (Or.inl ⟨by rfl, ?_⟩) hOld ?_
  rotate_left
  · intro w hSw
    (try dsimp only at hSw)
    go_simp
    try with_reducible rfl
  simp only [Act.put, List.setIfInBounds_toArray, List.set_cons_zero, List.set_cons_succ]
  refine wpAnyH_lit (v := ?_) 65 rfl (by as_aux_lemma => kernel_rfl) (fun _ _ _ h => h) (Or.inl ⟨by rfl, ?_⟩) hOld ?_
  rotate_left
  · intro w hSw
    (try dsimp only at hSw)
    go_simp
    try with_reducible rfl
  simp only [Act.put, List.setIfInBounds_toArray, List.set_cons_zero, List.set_cons_succ]
  refine wpAnyH_ready (rs := [66]) (by as_aux_lemma => kernel_rfl) (by simp) ?_
  refine AllReadyH.cons (o := _) (op_lit 66 rfl) (fun K hK => ?_) AllReadyH.nil
  go_simp
  (go_at_call 34; with_reducible refine (zzSameContentValue_same k k' _ ((unhide Hk).up (up_below (unhide TT).bel))).mono ?_; rintro e wN ⟨rfl, hb⟩; have TN := hide ((unhide TT).step hb); clear TT hb; have TT := TN; clear TN)
  try go_wp2_with fail
  refine hK.out _ _ (TC.cells (unhide TT)) (fun hHeld => ?_)
  clear hK K
  try simp only [Act.put, List.setIfInBounds_toArray, List.set_cons_zero, List.set_cons_succ]
  clear hOld
  have hOld := hHeld
  clear hHeld
  refine wpAnyH_lit (v := ?_) 67 rfl (by as_aux_lemma => kernel_rfl) (fun _ _ _ h => h) (Or.inl ⟨by rfl, ?_⟩) hOld ?_
  rotate_left
  · intro w hSw
    (try dsimp only at hSw)
    go_simp
    try with_reducible rfl
  simp only [Act.put, List.setIfInBounds_toArray, List.set_cons_zero, List.set_cons_succ]
  refine wpAnyH_lit (v := ?_) 68 rfl (by as_aux_lemma => kernel_rfl) (fun _ _ _ h => h) (Or.inl ⟨by rfl, ?_⟩) hOld ?_
  rotate_left
  · intro w hSw
    (try dsimp only at hSw)
    go_simp
    try with_reducible rfl
  simp only [Act.put, List.setIfInBounds_toArray, List.set_cons_zero, List.set_cons_succ]
  refine wpAnyH_lit (v := ?_) 69 rfl (by as_aux_lemma => kernel_rfl) (fun _ _ _ h => h) (Or.inl ⟨by rfl, ?_⟩) hOld ?_
  rotate_left
  · intro w hSw
    (try dsimp only at hSw)
    go_simp
    try with_reducible rfl
  simp only [Act.put, List.setIfInBounds_toArray, List.set_cons_zero, List.set_cons_succ]
  refine wpAnyH_lit (v := ?_) 70 rfl (by as_aux_lemma => kernel_rfl) (fun _ _ _ h => h) (Or.inl ⟨by rfl, ?_⟩) hOld ?_
  rotate_left
  · intro w hSw
    (try dsimp only at hSw)
    go_simp
    try with_reducible rfl
  simp only [Act.put, List.setIfInBounds_toArray, List.set_cons_zero, List.set_cons_succ]
  refine wpAnyH_lit (v := ?_) 71 rfl (by as_aux_lemma => kernel_rfl) (fun _ _ _ h => h) (Or.inl ⟨by rfl, ?_⟩) hOld ?_
  rotate_left
  · intro w hSw
    (try dsimp only at hSw)
    go_simp
    try with_reducible rfl
  simp only [Act.put, List.setIfInBounds_toArray, List.set_cons_zero, List.set_cons_succ]
  refine wpAnyH_lit (v := ?_) 72 rfl (by as_aux_lemma => kernel_rfl) (fun _ _ _ h => h) (Or.inl ⟨by rfl, ?_⟩) hOld ?_
  rotate_left
  · intro w hSw
    (try dsimp only at hSw)
    go_simp
    try with_reducible rfl
  simp only [Act.put, List.setIfInBounds_toArray, List.set_cons_zero, List.set_cons_succ]
  refine wpAnyH_ready (rs := [73]) (by as_aux_lemma => kernel_rfl) (by simp) ?_
  refine AllReadyH.cons (o := _) (op_lit 73 rfl) (fun K hK => ?_) AllReadyH.nil
  go_simp
  (go_at_call 34; with_reducible refine (zzSameContentValue_same o o' _ ((unhide Ho).up (up_below (unhide TT).bel))).mono ?_; rintro e wN ⟨rfl, hb⟩; have TN := hide ((unhide TT).step hb); clear TT hb; have TT := TN; clear TN)
  try go_wp2_with fail
  refine hK.out _ _ (TC.cells (unhide TT)) (fun hHeld => ?_)
  clear hK K
  try simp only [Act.put, List.setIfInBounds_toArray, List.set_cons_zero, List.set_cons_succ]
  clear hOld
  have hOld := hHeld
  clear hHeld
  refine wpAnyH_lit (v := ?_) 74 rfl (by as_aux_lemma => kernel_rfl) (fun _ _ _ h => h) (Or.inl ⟨by rfl, ?_⟩) hOld ?_
  rotate_left
  · intro w hSw
    (try dsimp only at hSw)
    go_simp
    try with_reducible rfl
  simp only [Act.put, List.setIfInBounds_toArray, List.set_cons_zero, List.set_cons_succ]
  refine wpAnyH_lit (v := ?_) 75 rfl (by as_aux_lemma => kernel_rfl) (fun _ _ _ h => h) (Or.inl ⟨by rfl, ?_⟩) hOld ?_
  rotate_left
  · intro w hSw
    (try dsimp only at hSw)
    go_simp
    try with_reducible rfl
  simp only [Act.put, List.setIfInBounds_toArray, List.set_cons_zero, List.set_cons_succ]
  refine wpAnyH_lit (v := ?_) 76 rfl (by as_aux_lemma => kernel_rfl) (fun _ _ _ h => h) (Or.inl ⟨by rfl, ?_⟩) hOld ?_
  rotate_left
  · intro w hSw
    (try dsimp only at hSw)
    go_simp
    try with_reducible rfl
  simp only [Act.put, List.setIfInBounds_toArray, List.set_cons_zero, List.set_cons_succ]
  refine wpAnyH_lit (v := ?_) 77 rfl (by as_aux_lemma => kernel_rfl) (fun _ _ _ h => h) (Or.inl ⟨by rfl, ?_⟩) hOld ?_
  rotate_left
  · intro w hSw
    (try dsimp only at hSw)
    go_simp
    try with_reducible rfl
  simp only [Act.put, List.setIfInBounds_toArray, List.set_cons_zero, List.set_cons_succ]
  refine wpAnyH_lit (v := ?_) 78 rfl (by as_aux_lemma => kernel_rfl) (fun _ _ _ h => h) (Or.inl ⟨by rfl, ?_⟩) hOld ?_
  rotate_left
  · intro w hSw
    (try dsimp only at hSw)
    go_simp
    try with_reducible rfl
  simp only [Act.put, List.setIfInBounds_toArray, List.set_cons_zero, List.set_cons_succ]
  refine wpAnyH_lit (v := ?_) 79 rfl (by as_aux_lemma => kernel_rfl) (fun _ _ _ h => h) (Or.inl ⟨by rfl, ?_⟩) hOld ?_
  rotate_left
  · intro w hSw
    (try dsimp only at hSw)
    go_simp
    try with_reducible rfl
  simp only [Act.put, List.setIfInBounds_toArray, List.set_cons_zero, List.set_cons_succ]
  refine wpAnyH_ready (rs := [80]) (by as_aux_lemma => kernel_rfl) (by simp) ?_
  refine AllReadyH.cons (o := _) (op_lit 80 rfl) (fun K hK => ?_) AllReadyH.nil
  go_simp
  (go_at_call 35; with_reducible refine (zzSamePartsValue_same su su spv spv _ ((unhide Hsu).step (unhide TT).bel) ((unhide Hsu).step (unhide TT).bel) rfl rfl (fun _ _ => rfl)).mono ?_; rintro e wN ⟨rfl, hb⟩; have TN := hide ((unhide TT).step hb); clear TT hb; have TT := TN; clear TN)
  try go_wp2_with fail
  refine hK.out _ _ (TC.cells (unhide TT)) (fun hHeld => ?_)
  clear hK K
  try simp only [Act.put, List.setIfInBounds_toArray, List.set_cons_zero, List.set_cons_succ]
  clear hOld
  have hOld := hHeld
  clear hHeld
  refine wpAnyH_lit (v := ?_) 81 rfl (by as_aux_lemma => kernel_rfl) (fun _ _ _ h => h) (Or.inl ⟨by rfl, ?_⟩) hOld ?_
  rotate_left
  · intro w hSw
    (try dsimp only at hSw)
    go_simp
    try with_reducible rfl
  simp only [Act.put, List.setIfInBounds_toArray, List.set_cons_zero, List.set_cons_succ]
  refine wpAnyH_lit (v := ?_) 82 rfl (by as_aux_lemma => kernel_rfl) (fun _ _ _ h => h) (Or.inl ⟨by rfl, ?_⟩) hOld ?_
  rotate_left
  · intro w hSw
    (try dsimp only at hSw)
    go_simp
    try with_reducible rfl
  simp only [Act.put, List.setIfInBounds_toArray, List.set_cons_zero, List.set_cons_succ]
  refine wpAnyH_lit (v := ?_) 83 rfl (by as_aux_lemma => kernel_rfl) (fun _ _ _ h => h) (Or.inl ⟨by rfl, ?_⟩) hOld ?_
  rotate_left
  · intro w hSw
    (try dsimp only at hSw)
    go_simp
    try with_reducible rfl
  simp only [Act.put, List.setIfInBounds_toArray, List.set_cons_zero, List.set_cons_succ]
  refine wpAnyH_lit (v := ?_) 84 rfl (by as_aux_lemma => kernel_rfl) (fun _ _ _ h => h) (Or.inl ⟨by rfl, ?_⟩) hOld ?_
  rotate_left
  · intro w hSw
    (try dsimp only at hSw)
    go_simp
    try with_reducible rfl
  simp only [Act.put, List.setIfInBounds_toArray, List.set_cons_zero, List.set_cons_succ]
  refine wpAnyH_lit (v := ?_) 85 rfl (by as_aux_lemma => kernel_rfl) (fun _ _ _ h => h) (Or.inl ⟨by rfl, ?_⟩) hOld ?_
  rotate_left
  · intro w hSw
    (try dsimp only at hSw)
    go_simp
    try with_reducible rfl
  simp only [Act.put, List.setIfInBounds_toArray, List.set_cons_zero, List.set_cons_succ]
  refine wpAnyH_lit (v := ?_) 86 rfl (by as_aux_lemma => kernel_rfl) (fun _ _ _ h => h) (Or.inl ⟨by rfl, ?_⟩) hOld ?_
  rotate_left
  · intro w hSw
    (try dsimp only at hSw)
    go_simp
    try with_reducible rfl
  simp only [Act.put, List.setIfInBounds_toArray, List.set_cons_zero, List.set_cons_succ]
  refine wpAnyH_ready (rs := [87]) (by as_aux_lemma => kernel_rfl) (by simp) ?_
  refine AllReadyH.cons (o := _) (op_lit 87 rfl) (fun K hK => ?_) AllReadyH.nil
  go_simp
  (go_at_call 15; with_reducible refine (zzSameToolList_self ts _ (unhide Hts)).mono ?_; rintro e wN ⟨rfl, hb⟩; have TN := hide ((unhide TT).step hb); clear TT hb; have TT := TN; clear TN)
  try go_wp2_with fail
  refine hK.out _ _ (TC.cells (unhide TT)) (fun hHeld => ?_)
  clear hK K
  try simp only [Act.put, List.setIfInBounds_toArray, List.set_cons_zero, List.set_cons_succ]
  clear hOld
  have hOld := hHeld
  clear hHeld
  refine wpAnyH_lit (v := ?_) 88 rfl (by as_aux_lemma => kernel_rfl) (fun _ _ _ h => h) (Or.inl ⟨by rfl, ?_⟩) hOld ?_
  rotate_left
  · intro w hSw
    (try dsimp only at hSw)
    go_simp
    try with_reducible rfl
  simp only [Act.put, List.setIfInBounds_toArray, List.set_cons_zero, List.set_cons_succ]
  refine wpAnyH_lit (v := ?_) 89 rfl (by as_aux_lemma => kernel_rfl) (fun _ _ _ h => h) (Or.inl ⟨by rfl, ?_⟩) hOld ?_
  rotate_left
  · intro w hSw
    (try dsimp only at hSw)
    go_simp
    try with_reducible rfl
  simp only [Act.put, List.setIfInBounds_toArray, List.set_cons_zero, List.set_cons_succ]
  refine wpAnyH_lit (v := ?_) 90 rfl (by as_aux_lemma => kernel_rfl) (fun _ _ _ h => h) (Or.inl ⟨by rfl, ?_⟩) hOld ?_
  rotate_left
  · intro w hSw
    (try dsimp only at hSw)
    go_simp
    try with_reducible rfl
  simp only [Act.put, List.setIfInBounds_toArray, List.set_cons_zero, List.set_cons_succ]
  refine wpAnyH_lit (v := ?_) 93 rfl (by as_aux_lemma => kernel_rfl) (fun _ _ _ h => h) (Or.inl ⟨by rfl, ?_⟩) hOld ?_
  rotate_left
  · intro w hSw
    (try dsimp only at hSw)
    go_simp
    try with_reducible rfl
  simp only [Act.put, List.setIfInBounds_toArray, List.set_cons_zero, List.set_cons_succ]
  refine wpAnyH_ready (rs := [91]) (by as_aux_lemma => kernel_rfl) (by simp) ?_
  refine AllReadyH.cons (o := _) (op_lit 91 rfl) (fun K hK => ?_) AllReadyH.nil
  go_simp
  (go_at_call 16; with_reducible refine (zzErrOf_any _ _ _ _ _ _ _ _ _ _ _ _ _ _ _ k1 o1 rfl rfl rfl rfl rfl rfl rfl rfl rfl rfl rfl rfl).mono ?_; rintro e wN ⟨rfl, hb⟩; have TN := hide ((unhide TT).step hb); clear TT hb; have TT := TN; clear TN)
  try go_wp2_with fail
  refine hK.out _ _ (TC.cells (unhide TT)) (fun hHeld => ?_)
  clear hK K
  try simp only [Act.put, List.setIfInBounds_toArray, List.set_cons_zero, List.set_cons_succ]
  clear hOld
  have hOld := hHeld
  clear hHeld
  refine wpAnyH_lit (v := ?_) 92 rfl (by as_aux_lemma => kernel_rfl) (fun _ _ _ h => h) (Or.inl ⟨by rfl, ?_⟩) hOld ?_
  rotate_left
  · intro w hSw
    (try dsimp only at hSw)
    go_simp
    try with_reducible rfl
  simp only [Act.put, List.setIfInBounds_toArray, List.set_cons_zero, List.set_cons_succ]
  refine wpAnyH_ready (rs := [94]) (by as_aux_lemma => kernel_rfl) (by simp) ?_
  refine AllReadyH.cons (o := _) (op_lit 94 rfl) (fun K hK => ?_) AllReadyH.nil
  go_simp
  (go_at_call 16; with_reducible refine (zzErrOf_any _ _ _ _ _ _ _ _ _ _ _ _ _ _ _ k1' o1' rfl rfl rfl rfl rfl rfl rfl rfl rfl rfl rfl rfl).mono ?_; rintro e wN ⟨rfl, hb⟩; have TN := hide ((unhide TT).step hb); clear TT hb; have TT := TN; clear TN)
  try go_wp2_with fail
  refine hK.out _ _ (TC.cells (unhide TT)) (fun hHeld => ?_)
  clear hK K
  try simp only [Act.put, List.setIfInBounds_toArray, List.set_cons_zero, List.set_cons_succ]
  clear hOld
  have hOld := hHeld
  clear hHeld
  refine wpAnyH_lit (v := ?_) 95 rfl (by as_aux_lemma => kernel_rfl) (fun _ _ _ h => h) (Or.inl ⟨by rfl, ?_⟩) hOld ?_
  rotate_left
  · intro w hSw
    (try dsimp only at hSw)
    go_simp
    try with_reducible rfl
  simp only [Act.put, List.setIfInBounds_toArray, List.set_cons_zero, List.set_cons_succ]
  refine wpAnyH_lit (v := ?_) 96 rfl (by as_aux_lemma => kernel_rfl) (fun _ _ _ h => h) (Or.inl ⟨by rfl, ?_⟩) hOld ?_
  rotate_left
  · intro w hSw
    (try dsimp only at hSw)
    go_simp
    try with_reducible rfl
  simp only [Act.put, List.setIfInBounds_toArray, List.set_cons_zero, List.set_cons_succ]
  refine wpAnyH_lit (v := ?_) 97 rfl (by as_aux_lemma => kernel_rfl) (fun _ _ _ h => h) (Or.inl ⟨by rfl, ?_⟩) hOld ?_
  rotate_left
  · intro w hSw
    (try dsimp only at hSw)
    go_simp
    try with_reducible rfl
  simp only [Act.put, List.setIfInBounds_toArray, List.set_cons_zero, List.set_cons_succ]
  refine wpAnyH_lit (v := ?_) 98 rfl (by as_aux_lemma => kernel_rfl) (fun _ _ _ h => h) (Or.inl ⟨by rfl, ?_⟩) hOld ?_
  rotate_left
  · intro w hSw
    (try dsimp only at hSw)
    go_simp
    try with_reducible rfl
  simp only [Act.put, List.setIfInBounds_toArray, List.set_cons_zero, List.set_cons_succ]
  refine wpAnyH_done ?_ ?_ _
  · as_aux_lemma => kernel_rfl
  refine NoPanic.normal ?_
  go_wp2_with fail
  go_ret
  exact ⟨rfl, (unhide TT).bel⟩

end Go.Proofs.Qxb6616371a
