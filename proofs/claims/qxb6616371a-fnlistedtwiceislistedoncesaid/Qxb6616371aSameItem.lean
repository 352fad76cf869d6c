/-
  zzSameItemValue OF TWO ITEMS THAT ARE THE SAME BUT FOR WHERE THEIR CONTENTS LIE.
-/
import Derived.Test.Qxb6616371aSameTools
import Derived.Deep.RegionHeld3
namespace Go.Proofs.Qxb6616371a
open Go.RowKit
set_option linter.unusedVariables false

/-- Two boxes of the call's own. -/
structure TC (w W : World) (cs ds : List Value) : Prop where
  bel : Below w.heap.size w W
  a : BoxAt W w.heap.size cs
  b : BoxAt W (w.heap.size + 1) ds
theorem TC.step {w W W' : World} {cs ds : List Value} (h : TC w W cs ds) (hb : Below W.heap.size W W') : TC w W' cs ds := ⟨h.bel.trans (hb.mono h.bel.size), h.a.step hb, h.b.step hb⟩
theorem TC.made (w : World) (cs ds : List Value) (t : TypeId) : TC w ((w.alloc (.cells cs.toArray t)).alloc (.cells ds.toArray t)) cs ds := by
  have z := BoxAt.made w cs t
  have s0 : (w.alloc (.cells cs.toArray t)).heap.size = w.heap.size + 1 := by simp
  have b0 := al w (.cells cs.toArray t)
  generalize w.alloc (.cells cs.toArray t) = W0 at *
  have r := BoxAt.made W0 ds t
  have b1 := al W0 (.cells ds.toArray t)
  rw [s0] at r
  exact ⟨b0.trans (b1.mono b0.size), z.step b1, r⟩

theorem TC.drew {w W : World} {cs ds : List Value} (h : TC w W cs ds) : TC w W.drew cs ds := h.step (Below.refl _ _).drew
theorem TC.cells {w W : World} {x0 x1 x2 x3 x4 x5 x6 x7 x8 x9 x10 x11 x12 x13 y0 y1 y2 y3 y4 y5 y6 y7 y8 y9 y10 y11 y12 y13 : Value} (h : TC w W [x0, x1, x2, x3, x4, x5, x6, x7, x8, x9, x10, x11, x12, x13] [y0, y1, y2, y3, y4, y5, y6, y7, y8, y9, y10, y11, y12, y13]) : W.cell? ⟨w.heap.size, 0, none⟩ = some x0 ∧ W.cell? ⟨w.heap.size, 1, none⟩ = some x1 ∧ W.cell? ⟨w.heap.size, 2, none⟩ = some x2 ∧ W.cell? ⟨w.heap.size, 3, none⟩ = some x3 ∧ W.cell? ⟨w.heap.size, 4, none⟩ = some x4 ∧ W.cell? ⟨w.heap.size, 5, none⟩ = some x5 ∧ W.cell? ⟨w.heap.size, 6, none⟩ = some x6 ∧ W.cell? ⟨w.heap.size, 7, none⟩ = some x7 ∧ W.cell? ⟨w.heap.size, 8, none⟩ = some x8 ∧ W.cell? ⟨w.heap.size, 9, none⟩ = some x9 ∧ W.cell? ⟨w.heap.size, 10, none⟩ = some x10 ∧ W.cell? ⟨w.heap.size, 11, none⟩ = some x11 ∧ W.cell? ⟨w.heap.size, 12, none⟩ = some x12 ∧ W.cell? ⟨w.heap.size, 13, none⟩ = some x13 ∧ W.cell? ⟨w.heap.size + 1, 0, none⟩ = some y0 ∧ W.cell? ⟨w.heap.size + 1, 1, none⟩ = some y1 ∧ W.cell? ⟨w.heap.size + 1, 2, none⟩ = some y2 ∧ W.cell? ⟨w.heap.size + 1, 3, none⟩ = some y3 ∧ W.cell? ⟨w.heap.size + 1, 4, none⟩ = some y4 ∧ W.cell? ⟨w.heap.size + 1, 5, none⟩ = some y5 ∧ W.cell? ⟨w.heap.size + 1, 6, none⟩ = some y6 ∧ W.cell? ⟨w.heap.size + 1, 7, none⟩ = some y7 ∧ W.cell? ⟨w.heap.size + 1, 8, none⟩ = some y8 ∧ W.cell? ⟨w.heap.size + 1, 9, none⟩ = some y9 ∧ W.cell? ⟨w.heap.size + 1, 10, none⟩ = some y10 ∧ W.cell? ⟨w.heap.size + 1, 11, none⟩ = some y11 ∧ W.cell? ⟨w.heap.size + 1, 12, none⟩ = some y12 ∧ W.cell? ⟨w.heap.size + 1, 13, none⟩ = some y13 :=
  ⟨h.a.get 0 _ rfl, h.a.get 1 _ rfl, h.a.get 2 _ rfl, h.a.get 3 _ rfl, h.a.get 4 _ rfl, h.a.get 5 _ rfl, h.a.get 6 _ rfl, h.a.get 7 _ rfl, h.a.get 8 _ rfl, h.a.get 9 _ rfl, h.a.get 10 _ rfl, h.a.get 11 _ rfl, h.a.get 12 _ rfl, h.a.get 13 _ rfl, h.b.get 0 _ rfl, h.b.get 1 _ rfl, h.b.get 2 _ rfl, h.b.get 3 _ rfl, h.b.get 4 _ rfl, h.b.get 5 _ rfl, h.b.get 6 _ rfl, h.b.get 7 _ rfl, h.b.get 8 _ rfl, h.b.get 9 _ rfl, h.b.get 10 _ rfl, h.b.get 11 _ rfl, h.b.get 12 _ rfl, h.b.get 13 _ rfl⟩

/-! ### The one region of zzSameItemValue: its operations, an order that serves, how far one has come -/
def regOf (f : Func) : Array Oper :=
  match f.body with
  | some (.seq _ (.seq (.region _ ops _) _)) => ops
  | _ => #[]
def ord21 (n : Nat) : Nat := if n = 91 then 93 else if n = 92 then 91 else if n = 93 then 92 else n
def L21 : Nat → Array Bool
  | 0 => Array.replicate 99 false
  | n + 1 => (L21 n).setIfInBounds (ord21 n) true
theorem size21 : (regOf Try.f21).size = 99 := by kernel_rfl
theorem region_as {P : Program} {id : Nat} {ops ops' : Array Oper} {b : Bool} {Q : Exit → Act → World → Prop} {a : Act} {w : World} (e : ops = ops') (h : (Code.region id ops' b).wp P Q a w) : (Code.region id ops b).wp P Q a w := by rw [e]; exact h
theorem op21 {oi : Oper} {r : List Oper} (i : Nat) (hd : (regOf Try.f21).toList.drop i = oi :: r) : (regOf Try.f21)[i]? = some oi := by
  have : ((regOf Try.f21).toList.drop i)[0]? = some oi := by rw [hd]; rfl
  simpa using this
theorem begin21 {Q : Exit → Act → World → Prop} {S : World → Prop} {a : Act} {w : World} (h : wpAnyH Try.prog .any (regOf Try.f21) Q S 99 (L21 0) a w) : wpAnyH Try.prog .any (regOf Try.f21) Q S (regOf Try.f21).size (Array.replicate (regOf Try.f21).size false) a w := by
  rw [size21]; exact h
theorem take21 {Q : Exit → Act → World → Prop} {S : World → Prop} {oi : Oper} {r : List Oper} {v : Value} {fuel : Nat} {a : Act} {w : World} (n i : Nat) (hi : ord21 n = i) (hd : (regOf Try.f21).toList.drop i = oi :: r)
    (hs : (Region.noSelect (regOf Try.f21) && Region.free .any (regOf Try.f21) (L21 n) i && (Region.ready .any (regOf Try.f21) (L21 n)).contains i) = true)
    (hQ : ∀ c a w, Q (.panic c) (a.put oi.dst v) w → Q (.panic c) a w) (hw : Region.wanted oi (yielded (regOf Try.f21) a.tmps) = true) (hy : ∀ w, S w → (execOp a.eval oi).run Try.prog w = .ok (.value v) w) (hS : S w)
    (h : wpAnyH Try.prog .any (regOf Try.f21) Q S fuel (L21 (n + 1)) (a.put oi.dst v) w) : wpAnyH Try.prog .any (regOf Try.f21) Q S (fuel + 1) (L21 n) a w := by
  subst hi
  simp only [Bool.and_eq_true] at hs
  exact wpAnyH_take (op21 _ hd) hs.1.1 hs.1.2 hs.2 hQ (Or.inl ⟨hw, hy⟩) hS h
theorem call21 {Q : Exit → Act → World → Prop} {S : World → Prop} {oi : Oper} {r : List Oper} {fuel : Nat} {a : Act} {w : World} (n i : Nat) (hi : ord21 n = i) (hd : (regOf Try.f21).toList.drop i = oi :: r)
    (hr : Region.ready .any (regOf Try.f21) (L21 n) = [i]) (hw : Region.wanted oi (yielded (regOf Try.f21) a.tmps) = true)
    (h : ∀ K' : Act → World → Prop, Shut (∀ a w, S w → (S w → wpAnyH Try.prog .any (regOf Try.f21) Q S fuel (L21 (n + 1)) a w) → K' a w) → Oper.wp Try.prog oi a w K' Q) : wpAnyH Try.prog .any (regOf Try.f21) Q S (fuel + 1) (L21 n) a w := by
  subst hi
  refine wpAnyH_ready hr (by simp) (AllReadyH.cons (op21 _ hd) (fun K' hK => ?_) AllReadyH.nil)
  rw [if_pos hw]
  exact h K' hK
theorem t21_0 : (Region.noSelect (regOf Try.f21) && Region.free .any (regOf Try.f21) (L21 0) 0 && (Region.ready .any (regOf Try.f21) (L21 0)).contains 0) = true := by kernel_rfl
theorem t21_1 : (Region.noSelect (regOf Try.f21) && Region.free .any (regOf Try.f21) (L21 1) 1 && (Region.ready .any (regOf Try.f21) (L21 1)).contains 1) = true := by kernel_rfl
theorem t21_2 : (Region.noSelect (regOf Try.f21) && Region.free .any (regOf Try.f21) (L21 2) 2 && (Region.ready .any (regOf Try.f21) (L21 2)).contains 2) = true := by kernel_rfl
theorem t21_3 : (Region.noSelect (regOf Try.f21) && Region.free .any (regOf Try.f21) (L21 3) 3 && (Region.ready .any (regOf Try.f21) (L21 3)).contains 3) = true := by kernel_rfl
theorem t21_4 : (Region.noSelect (regOf Try.f21) && Region.free .any (regOf Try.f21) (L21 4) 4 && (Region.ready .any (regOf Try.f21) (L21 4)).contains 4) = true := by kernel_rfl
theorem t21_5 : (Region.noSelect (regOf Try.f21) && Region.free .any (regOf Try.f21) (L21 5) 5 && (Region.ready .any (regOf Try.f21) (L21 5)).contains 5) = true := by kernel_rfl
theorem t21_6 : (Region.noSelect (regOf Try.f21) && Region.free .any (regOf Try.f21) (L21 6) 6 && (Region.ready .any (regOf Try.f21) (L21 6)).contains 6) = true := by kernel_rfl
theorem t21_7 : (Region.noSelect (regOf Try.f21) && Region.free .any (regOf Try.f21) (L21 7) 7 && (Region.ready .any (regOf Try.f21) (L21 7)).contains 7) = true := by kernel_rfl
theorem t21_8 : (Region.noSelect (regOf Try.f21) && Region.free .any (regOf Try.f21) (L21 8) 8 && (Region.ready .any (regOf Try.f21) (L21 8)).contains 8) = true := by kernel_rfl
theorem t21_9 : (Region.noSelect (regOf Try.f21) && Region.free .any (regOf Try.f21) (L21 9) 9 && (Region.ready .any (regOf Try.f21) (L21 9)).contains 9) = true := by kernel_rfl
theorem t21_10 : (Region.noSelect (regOf Try.f21) && Region.free .any (regOf Try.f21) (L21 10) 10 && (Region.ready .any (regOf Try.f21) (L21 10)).contains 10) = true := by kernel_rfl
theorem t21_11 : (Region.noSelect (regOf Try.f21) && Region.free .any (regOf Try.f21) (L21 11) 11 && (Region.ready .any (regOf Try.f21) (L21 11)).contains 11) = true := by kernel_rfl
theorem t21_12 : (Region.noSelect (regOf Try.f21) && Region.free .any (regOf Try.f21) (L21 12) 12 && (Region.ready .any (regOf Try.f21) (L21 12)).contains 12) = true := by kernel_rfl
theorem t21_13 : (Region.noSelect (regOf Try.f21) && Region.free .any (regOf Try.f21) (L21 13) 13 && (Region.ready .any (regOf Try.f21) (L21 13)).contains 13) = true := by kernel_rfl
theorem t21_14 : (Region.noSelect (regOf Try.f21) && Region.free .any (regOf Try.f21) (L21 14) 14 && (Region.ready .any (regOf Try.f21) (L21 14)).contains 14) = true := by kernel_rfl
theorem t21_15 : (Region.noSelect (regOf Try.f21) && Region.free .any (regOf Try.f21) (L21 15) 15 && (Region.ready .any (regOf Try.f21) (L21 15)).contains 15) = true := by kernel_rfl
theorem t21_16 : (Region.noSelect (regOf Try.f21) && Region.free .any (regOf Try.f21) (L21 16) 16 && (Region.ready .any (regOf Try.f21) (L21 16)).contains 16) = true := by kernel_rfl
theorem t21_17 : (Region.noSelect (regOf Try.f21) && Region.free .any (regOf Try.f21) (L21 17) 17 && (Region.ready .any (regOf Try.f21) (L21 17)).contains 17) = true := by kernel_rfl
theorem t21_18 : (Region.noSelect (regOf Try.f21) && Region.free .any (regOf Try.f21) (L21 18) 18 && (Region.ready .any (regOf Try.f21) (L21 18)).contains 18) = true := by kernel_rfl
theorem t21_19 : (Region.noSelect (regOf Try.f21) && Region.free .any (regOf Try.f21) (L21 19) 19 && (Region.ready .any (regOf Try.f21) (L21 19)).contains 19) = true := by kernel_rfl
theorem t21_20 : (Region.noSelect (regOf Try.f21) && Region.free .any (regOf Try.f21) (L21 20) 20 && (Region.ready .any (regOf Try.f21) (L21 20)).contains 20) = true := by kernel_rfl
theorem t21_21 : (Region.noSelect (regOf Try.f21) && Region.free .any (regOf Try.f21) (L21 21) 21 && (Region.ready .any (regOf Try.f21) (L21 21)).contains 21) = true := by kernel_rfl
theorem t21_22 : (Region.noSelect (regOf Try.f21) && Region.free .any (regOf Try.f21) (L21 22) 22 && (Region.ready .any (regOf Try.f21) (L21 22)).contains 22) = true := by kernel_rfl
theorem t21_23 : (Region.noSelect (regOf Try.f21) && Region.free .any (regOf Try.f21) (L21 23) 23 && (Region.ready .any (regOf Try.f21) (L21 23)).contains 23) = true := by kernel_rfl
theorem t21_24 : (Region.noSelect (regOf Try.f21) && Region.free .any (regOf Try.f21) (L21 24) 24 && (Region.ready .any (regOf Try.f21) (L21 24)).contains 24) = true := by kernel_rfl
theorem t21_25 : (Region.noSelect (regOf Try.f21) && Region.free .any (regOf Try.f21) (L21 25) 25 && (Region.ready .any (regOf Try.f21) (L21 25)).contains 25) = true := by kernel_rfl
theorem t21_26 : (Region.noSelect (regOf Try.f21) && Region.free .any (regOf Try.f21) (L21 26) 26 && (Region.ready .any (regOf Try.f21) (L21 26)).contains 26) = true := by kernel_rfl
theorem t21_27 : (Region.noSelect (regOf Try.f21) && Region.free .any (regOf Try.f21) (L21 27) 27 && (Region.ready .any (regOf Try.f21) (L21 27)).contains 27) = true := by kernel_rfl
theorem t21_28 : (Region.noSelect (regOf Try.f21) && Region.free .any (regOf Try.f21) (L21 28) 28 && (Region.ready .any (regOf Try.f21) (L21 28)).contains 28) = true := by kernel_rfl
theorem t21_29 : (Region.noSelect (regOf Try.f21) && Region.free .any (regOf Try.f21) (L21 29) 29 && (Region.ready .any (regOf Try.f21) (L21 29)).contains 29) = true := by kernel_rfl
theorem t21_30 : (Region.noSelect (regOf Try.f21) && Region.free .any (regOf Try.f21) (L21 30) 30 && (Region.ready .any (regOf Try.f21) (L21 30)).contains 30) = true := by kernel_rfl
theorem t21_31 : (Region.noSelect (regOf Try.f21) && Region.free .any (regOf Try.f21) (L21 31) 31 && (Region.ready .any (regOf Try.f21) (L21 31)).contains 31) = true := by kernel_rfl
theorem t21_32 : (Region.noSelect (regOf Try.f21) && Region.free .any (regOf Try.f21) (L21 32) 32 && (Region.ready .any (regOf Try.f21) (L21 32)).contains 32) = true := by kernel_rfl
theorem t21_33 : (Region.noSelect (regOf Try.f21) && Region.free .any (regOf Try.f21) (L21 33) 33 && (Region.ready .any (regOf Try.f21) (L21 33)).contains 33) = true := by kernel_rfl
theorem t21_34 : (Region.noSelect (regOf Try.f21) && Region.free .any (regOf Try.f21) (L21 34) 34 && (Region.ready .any (regOf Try.f21) (L21 34)).contains 34) = true := by kernel_rfl
theorem t21_35 : (Region.noSelect (regOf Try.f21) && Region.free .any (regOf Try.f21) (L21 35) 35 && (Region.ready .any (regOf Try.f21) (L21 35)).contains 35) = true := by kernel_rfl
theorem t21_36 : (Region.noSelect (regOf Try.f21) && Region.free .any (regOf Try.f21) (L21 36) 36 && (Region.ready .any (regOf Try.f21) (L21 36)).contains 36) = true := by kernel_rfl
theorem t21_37 : (Region.noSelect (regOf Try.f21) && Region.free .any (regOf Try.f21) (L21 37) 37 && (Region.ready .any (regOf Try.f21) (L21 37)).contains 37) = true := by kernel_rfl
theorem r21_38 : Region.ready .any (regOf Try.f21) (L21 38) = [38] := by kernel_rfl
theorem t21_39 : (Region.noSelect (regOf Try.f21) && Region.free .any (regOf Try.f21) (L21 39) 39 && (Region.ready .any (regOf Try.f21) (L21 39)).contains 39) = true := by kernel_rfl
theorem t21_40 : (Region.noSelect (regOf Try.f21) && Region.free .any (regOf Try.f21) (L21 40) 40 && (Region.ready .any (regOf Try.f21) (L21 40)).contains 40) = true := by kernel_rfl
theorem t21_41 : (Region.noSelect (regOf Try.f21) && Region.free .any (regOf Try.f21) (L21 41) 41 && (Region.ready .any (regOf Try.f21) (L21 41)).contains 41) = true := by kernel_rfl
theorem t21_42 : (Region.noSelect (regOf Try.f21) && Region.free .any (regOf Try.f21) (L21 42) 42 && (Region.ready .any (regOf Try.f21) (L21 42)).contains 42) = true := by kernel_rfl
theorem t21_43 : (Region.noSelect (regOf Try.f21) && Region.free .any (regOf Try.f21) (L21 43) 43 && (Region.ready .any (regOf Try.f21) (L21 43)).contains 43) = true := by kernel_rfl
theorem t21_44 : (Region.noSelect (regOf Try.f21) && Region.free .any (regOf Try.f21) (L21 44) 44 && (Region.ready .any (regOf Try.f21) (L21 44)).contains 44) = true := by kernel_rfl
theorem r21_45 : Region.ready .any (regOf Try.f21) (L21 45) = [45] := by kernel_rfl
theorem t21_46 : (Region.noSelect (regOf Try.f21) && Region.free .any (regOf Try.f21) (L21 46) 46 && (Region.ready .any (regOf Try.f21) (L21 46)).contains 46) = true := by kernel_rfl
theorem t21_47 : (Region.noSelect (regOf Try.f21) && Region.free .any (regOf Try.f21) (L21 47) 47 && (Region.ready .any (regOf Try.f21) (L21 47)).contains 47) = true := by kernel_rfl
theorem t21_48 : (Region.noSelect (regOf Try.f21) && Region.free .any (regOf Try.f21) (L21 48) 48 && (Region.ready .any (regOf Try.f21) (L21 48)).contains 48) = true := by kernel_rfl
theorem t21_49 : (Region.noSelect (regOf Try.f21) && Region.free .any (regOf Try.f21) (L21 49) 49 && (Region.ready .any (regOf Try.f21) (L21 49)).contains 49) = true := by kernel_rfl
theorem t21_50 : (Region.noSelect (regOf Try.f21) && Region.free .any (regOf Try.f21) (L21 50) 50 && (Region.ready .any (regOf Try.f21) (L21 50)).contains 50) = true := by kernel_rfl
theorem t21_51 : (Region.noSelect (regOf Try.f21) && Region.free .any (regOf Try.f21) (L21 51) 51 && (Region.ready .any (regOf Try.f21) (L21 51)).contains 51) = true := by kernel_rfl
theorem r21_52 : Region.ready .any (regOf Try.f21) (L21 52) = [52] := by kernel_rfl
theorem t21_53 : (Region.noSelect (regOf Try.f21) && Region.free .any (regOf Try.f21) (L21 53) 53 && (Region.ready .any (regOf Try.f21) (L21 53)).contains 53) = true := by kernel_rfl
theorem t21_54 : (Region.noSelect (regOf Try.f21) && Region.free .any (regOf Try.f21) (L21 54) 54 && (Region.ready .any (regOf Try.f21) (L21 54)).contains 54) = true := by kernel_rfl
theorem t21_55 : (Region.noSelect (regOf Try.f21) && Region.free .any (regOf Try.f21) (L21 55) 55 && (Region.ready .any (regOf Try.f21) (L21 55)).contains 55) = true := by kernel_rfl
theorem t21_56 : (Region.noSelect (regOf Try.f21) && Region.free .any (regOf Try.f21) (L21 56) 56 && (Region.ready .any (regOf Try.f21) (L21 56)).contains 56) = true := by kernel_rfl
theorem t21_57 : (Region.noSelect (regOf Try.f21) && Region.free .any (regOf Try.f21) (L21 57) 57 && (Region.ready .any (regOf Try.f21) (L21 57)).contains 57) = true := by kernel_rfl
theorem t21_58 : (Region.noSelect (regOf Try.f21) && Region.free .any (regOf Try.f21) (L21 58) 58 && (Region.ready .any (regOf Try.f21) (L21 58)).contains 58) = true := by kernel_rfl
theorem r21_59 : Region.ready .any (regOf Try.f21) (L21 59) = [59] := by kernel_rfl
theorem t21_60 : (Region.noSelect (regOf Try.f21) && Region.free .any (regOf Try.f21) (L21 60) 60 && (Region.ready .any (regOf Try.f21) (L21 60)).contains 60) = true := by kernel_rfl
theorem t21_61 : (Region.noSelect (regOf Try.f21) && Region.free .any (regOf Try.f21) (L21 61) 61 && (Region.ready .any (regOf Try.f21) (L21 61)).contains 61) = true := by kernel_rfl
theorem t21_62 : (Region.noSelect (regOf Try.f21) && Region.free .any (regOf Try.f21) (L21 62) 62 && (Region.ready .any (regOf Try.f21) (L21 62)).contains 62) = true := by kernel_rfl
theorem t21_63 : (Region.noSelect (regOf Try.f21) && Region.free .any (regOf Try.f21) (L21 63) 63 && (Region.ready .any (regOf Try.f21) (L21 63)).contains 63) = true := by kernel_rfl
theorem t21_64 : (Region.noSelect (regOf Try.f21) && Region.free .any (regOf Try.f21) (L21 64) 64 && (Region.ready .any (regOf Try.f21) (L21 64)).contains 64) = true := by kernel_rfl
theorem t21_65 : (Region.noSelect (regOf Try.f21) && Region.free .any (regOf Try.f21) (L21 65) 65 && (Region.ready .any (regOf Try.f21) (L21 65)).contains 65) = true := by kernel_rfl
theorem r21_66 : Region.ready .any (regOf Try.f21) (L21 66) = [66] := by kernel_rfl
theorem t21_67 : (Region.noSelect (regOf Try.f21) && Region.free .any (regOf Try.f21) (L21 67) 67 && (Region.ready .any (regOf Try.f21) (L21 67)).contains 67) = true := by kernel_rfl
theorem t21_68 : (Region.noSelect (regOf Try.f21) && Region.free .any (regOf Try.f21) (L21 68) 68 && (Region.ready .any (regOf Try.f21) (L21 68)).contains 68) = true := by kernel_rfl
theorem t21_69 : (Region.noSelect (regOf Try.f21) && Region.free .any (regOf Try.f21) (L21 69) 69 && (Region.ready .any (regOf Try.f21) (L21 69)).contains 69) = true := by kernel_rfl
theorem t21_70 : (Region.noSelect (regOf Try.f21) && Region.free .any (regOf Try.f21) (L21 70) 70 && (Region.ready .any (regOf Try.f21) (L21 70)).contains 70) = true := by kernel_rfl
theorem t21_71 : (Region.noSelect (regOf Try.f21) && Region.free .any (regOf Try.f21) (L21 71) 71 && (Region.ready .any (regOf Try.f21) (L21 71)).contains 71) = true := by kernel_rfl
theorem t21_72 : (Region.noSelect (regOf Try.f21) && Region.free .any (regOf Try.f21) (L21 72) 72 && (Region.ready .any (regOf Try.f21) (L21 72)).contains 72) = true := by kernel_rfl
theorem r21_73 : Region.ready .any (regOf Try.f21) (L21 73) = [73] := by kernel_rfl
theorem t21_74 : (Region.noSelect (regOf Try.f21) && Region.free .any (regOf Try.f21) (L21 74) 74 && (Region.ready .any (regOf Try.f21) (L21 74)).contains 74) = true := by kernel_rfl
theorem t21_75 : (Region.noSelect (regOf Try.f21) && Region.free .any (regOf Try.f21) (L21 75) 75 && (Region.ready .any (regOf Try.f21) (L21 75)).contains 75) = true := by kernel_rfl
theorem t21_76 : (Region.noSelect (regOf Try.f21) && Region.free .any (regOf Try.f21) (L21 76) 76 && (Region.ready .any (regOf Try.f21) (L21 76)).contains 76) = true := by kernel_rfl
theorem t21_77 : (Region.noSelect (regOf Try.f21) && Region.free .any (regOf Try.f21) (L21 77) 77 && (Region.ready .any (regOf Try.f21) (L21 77)).contains 77) = true := by kernel_rfl
theorem t21_78 : (Region.noSelect (regOf Try.f21) && Region.free .any (regOf Try.f21) (L21 78) 78 && (Region.ready .any (regOf Try.f21) (L21 78)).contains 78) = true := by kernel_rfl
theorem t21_79 : (Region.noSelect (regOf Try.f21) && Region.free .any (regOf Try.f21) (L21 79) 79 && (Region.ready .any (regOf Try.f21) (L21 79)).contains 79) = true := by kernel_rfl
theorem r21_80 : Region.ready .any (regOf Try.f21) (L21 80) = [80] := by kernel_rfl
theorem t21_81 : (Region.noSelect (regOf Try.f21) && Region.free .any (regOf Try.f21) (L21 81) 81 && (Region.ready .any (regOf Try.f21) (L21 81)).contains 81) = true := by kernel_rfl
theorem t21_82 : (Region.noSelect (regOf Try.f21) && Region.free .any (regOf Try.f21) (L21 82) 82 && (Region.ready .any (regOf Try.f21) (L21 82)).contains 82) = true := by kernel_rfl
theorem t21_83 : (Region.noSelect (regOf Try.f21) && Region.free .any (regOf Try.f21) (L21 83) 83 && (Region.ready .any (regOf Try.f21) (L21 83)).contains 83) = true := by kernel_rfl
theorem t21_84 : (Region.noSelect (regOf Try.f21) && Region.free .any (regOf Try.f21) (L21 84) 84 && (Region.ready .any (regOf Try.f21) (L21 84)).contains 84) = true := by kernel_rfl
theorem t21_85 : (Region.noSelect (regOf Try.f21) && Region.free .any (regOf Try.f21) (L21 85) 85 && (Region.ready .any (regOf Try.f21) (L21 85)).contains 85) = true := by kernel_rfl
theorem t21_86 : (Region.noSelect (regOf Try.f21) && Region.free .any (regOf Try.f21) (L21 86) 86 && (Region.ready .any (regOf Try.f21) (L21 86)).contains 86) = true := by kernel_rfl
theorem r21_87 : Region.ready .any (regOf Try.f21) (L21 87) = [87] := by kernel_rfl
theorem t21_88 : (Region.noSelect (regOf Try.f21) && Region.free .any (regOf Try.f21) (L21 88) 88 && (Region.ready .any (regOf Try.f21) (L21 88)).contains 88) = true := by kernel_rfl
theorem t21_89 : (Region.noSelect (regOf Try.f21) && Region.free .any (regOf Try.f21) (L21 89) 89 && (Region.ready .any (regOf Try.f21) (L21 89)).contains 89) = true := by kernel_rfl
theorem t21_90 : (Region.noSelect (regOf Try.f21) && Region.free .any (regOf Try.f21) (L21 90) 90 && (Region.ready .any (regOf Try.f21) (L21 90)).contains 90) = true := by kernel_rfl
theorem t21_91 : (Region.noSelect (regOf Try.f21) && Region.free .any (regOf Try.f21) (L21 91) 93 && (Region.ready .any (regOf Try.f21) (L21 91)).contains 93) = true := by kernel_rfl
theorem r21_92 : Region.ready .any (regOf Try.f21) (L21 92) = [91] := by kernel_rfl
theorem t21_93 : (Region.noSelect (regOf Try.f21) && Region.free .any (regOf Try.f21) (L21 93) 92 && (Region.ready .any (regOf Try.f21) (L21 93)).contains 92) = true := by kernel_rfl
theorem r21_94 : Region.ready .any (regOf Try.f21) (L21 94) = [94] := by kernel_rfl
theorem t21_95 : (Region.noSelect (regOf Try.f21) && Region.free .any (regOf Try.f21) (L21 95) 95 && (Region.ready .any (regOf Try.f21) (L21 95)).contains 95) = true := by kernel_rfl
theorem t21_96 : (Region.noSelect (regOf Try.f21) && Region.free .any (regOf Try.f21) (L21 96) 96 && (Region.ready .any (regOf Try.f21) (L21 96)).contains 96) = true := by kernel_rfl
theorem t21_97 : (Region.noSelect (regOf Try.f21) && Region.free .any (regOf Try.f21) (L21 97) 97 && (Region.ready .any (regOf Try.f21) (L21 97)).contains 97) = true := by kernel_rfl
theorem t21_98 : (Region.noSelect (regOf Try.f21) && Region.free .any (regOf Try.f21) (L21 98) 98 && (Region.ready .any (regOf Try.f21) (L21 98)).contains 98) = true := by kernel_rfl
theorem r21_99 : Region.ready .any (regOf Try.f21) (L21 99) = [] := by kernel_rfl

set_option maxRecDepth 100000 in
set_option maxHeartbeats 40000000 in
theorem zzSameItemValue_same (ty id st ro : ByteArray) (k k' : CK) (su : Raw) (spv : Nat → PartV) (ci nm : Option Addr) (ns : ByteArray) (ar inp : Option Addr) (o o' : CK) (ts : Raw) (w : World)
    (hk : SK w k k') (ho : SK w o o') (hsu : PartsAt w su spv) (hci : StrP w ci) (hnm : StrP w nm) (har : StrP w ar) (hinp : StrP w inp) (hts : 0 < ts.l → ∃ b off, ts.a = some ⟨b, off, none⟩) :
    Calls Try.prog 21 #[.agg #[.string ty, .string id, .string st, .string ro, k.val, .slice su.a su.l su.c, .pointer ci, .pointer nm, .string ns, .pointer ar, .pointer inp, o.val, .slice ts.a ts.l ts.c, .nilIface], .agg #[.string ty, .string id, .string st, .string ro, k'.val, .slice su.a su.l su.c, .pointer ci, .pointer nm, .string ns, .pointer ar, .pointer inp, o'.val, .slice ts.a ts.l ts.c, .nilIface]] w fun e w' => e = .returned (.bool true) ∧ Below w.heap.size w w' := by
  have Tb := hide (TC.made w [.string ty, .string id, .string st, .string ro, k.val, .slice su.a su.l su.c, .pointer ci, .pointer nm, .string ns, .pointer ar, .pointer inp, o.val, .slice ts.a ts.l ts.c, .nilIface] [.string ty, .string id, .string st, .string ro, k'.val, .slice su.a su.l su.c, .pointer ci, .pointer nm, .string ns, .pointer ar, .pointer inp, o'.val, .slice ts.a ts.l ts.c, .nilIface] 32)
  have k1 := k.one
  have k1' := k'.one
  have o1 := o.one
  have o1' := o'.one
  have Hk := hide hk
  have Ho := hide ho
  have Hsu := hide hsu
  have Hci := hide hci
  have Hnm := hide hnm
  have Har := hide har
  have Hinp := hide hinp
  have Hts := hide hts
  clear hk ho hsu hci hnm har hinp hts
  go_enter Try.func21, Try.ntmps21
  go_wp2_with fail
  generalize (w.alloc (.cells (List.toArray [.string ty, .string id, .string st, .string ro, k.val, .slice su.a su.l su.c, .pointer ci, .pointer nm, .string ns, .pointer ar, .pointer inp, o.val, .slice ts.a ts.l ts.c, .nilIface]) 32)).alloc (.cells (List.toArray [.string ty, .string id, .string st, .string ro, k'.val, .slice su.a su.l su.c, .pointer ci, .pointer nm, .string ns, .pointer ar, .pointer inp, o'.val, .slice ts.a ts.l ts.c, .nilIface]) 32) = W1 at *
  have TT := hide (unhide Tb).drew
  clear Tb
  generalize Value.agg (List.toArray [.string ty, .string id, .string st, .string ro, k.val, .slice su.a su.l su.c, .pointer ci, .pointer nm, .string ns, .pointer ar, .pointer inp, o.val, .slice ts.a ts.l ts.c, .nilIface]) = A0
  generalize Value.agg (List.toArray [.string ty, .string id, .string st, .string ro, k'.val, .slice su.a su.l su.c, .pointer ci, .pointer nm, .string ns, .pointer ar, .pointer inp, o'.val, .slice ts.a ts.l ts.c, .nilIface]) = A1
  refine region_as (ops' := (regOf Try.f21)) (by kernel_rfl) ?_
  refine wp_region_noPanic ?_
  refine wp_region_held_drew (S := fun v => v.cell? ⟨w.heap.size, 0, none⟩ = some (.string ty) ∧ v.cell? ⟨w.heap.size, 1, none⟩ = some (.string id) ∧ v.cell? ⟨w.heap.size, 2, none⟩ = some (.string st) ∧ v.cell? ⟨w.heap.size, 3, none⟩ = some (.string ro) ∧ v.cell? ⟨w.heap.size, 4, none⟩ = some (k.val) ∧ v.cell? ⟨w.heap.size, 5, none⟩ = some (.slice su.a su.l su.c) ∧ v.cell? ⟨w.heap.size, 6, none⟩ = some (.pointer ci) ∧ v.cell? ⟨w.heap.size, 7, none⟩ = some (.pointer nm) ∧ v.cell? ⟨w.heap.size, 8, none⟩ = some (.string ns) ∧ v.cell? ⟨w.heap.size, 9, none⟩ = some (.pointer ar) ∧ v.cell? ⟨w.heap.size, 10, none⟩ = some (.pointer inp) ∧ v.cell? ⟨w.heap.size, 11, none⟩ = some (o.val) ∧ v.cell? ⟨w.heap.size, 12, none⟩ = some (.slice ts.a ts.l ts.c) ∧ v.cell? ⟨w.heap.size, 13, none⟩ = some (.nilIface) ∧ v.cell? ⟨w.heap.size + 1, 0, none⟩ = some (.string ty) ∧ v.cell? ⟨w.heap.size + 1, 1, none⟩ = some (.string id) ∧ v.cell? ⟨w.heap.size + 1, 2, none⟩ = some (.string st) ∧ v.cell? ⟨w.heap.size + 1, 3, none⟩ = some (.string ro) ∧ v.cell? ⟨w.heap.size + 1, 4, none⟩ = some (k'.val) ∧ v.cell? ⟨w.heap.size + 1, 5, none⟩ = some (.slice su.a su.l su.c) ∧ v.cell? ⟨w.heap.size + 1, 6, none⟩ = some (.pointer ci) ∧ v.cell? ⟨w.heap.size + 1, 7, none⟩ = some (.pointer nm) ∧ v.cell? ⟨w.heap.size + 1, 8, none⟩ = some (.string ns) ∧ v.cell? ⟨w.heap.size + 1, 9, none⟩ = some (.pointer ar) ∧ v.cell? ⟨w.heap.size + 1, 10, none⟩ = some (.pointer inp) ∧ v.cell? ⟨w.heap.size + 1, 11, none⟩ = some (o'.val) ∧ v.cell? ⟨w.heap.size + 1, 12, none⟩ = some (.slice ts.a ts.l ts.c) ∧ v.cell? ⟨w.heap.size + 1, 13, none⟩ = some (.nilIface)) (by kernel_rfl) (TC.cells (unhide TT)) (fun hOld => begin21 ?_)
  refine take21 (v := ?_) 0 0 rfl rfl t21_0 (fun _ _ _ h => h) (by kernel_rfl) ?_ hOld ?_
  rotate_left
  · intro w hSw
    (try dsimp only at hSw)
    go_simp
    try with_reducible rfl
  simp only [Act.put, List.setIfInBounds_toArray, List.set_cons_zero, List.set_cons_succ]
  refine take21 (v := ?_) 1 1 rfl rfl t21_1 (fun _ _ _ h => h) (by kernel_rfl) ?_ hOld ?_
  rotate_left
  · intro w hSw
    (try dsimp only at hSw)
    go_simp
    try with_reducible rfl
  simp only [Act.put, List.setIfInBounds_toArray, List.set_cons_zero, List.set_cons_succ]
  refine take21 (v := ?_) 2 2 rfl rfl t21_2 (fun _ _ _ h => h) (by kernel_rfl) ?_ hOld ?_
  rotate_left
  · intro w hSw
    (try dsimp only at hSw)
    go_simp
    try with_reducible rfl
  simp only [Act.put, List.setIfInBounds_toArray, List.set_cons_zero, List.set_cons_succ]
  refine take21 (v := ?_) 3 3 rfl rfl t21_3 (fun _ _ _ h => h) (by kernel_rfl) ?_ hOld ?_
  rotate_left
  · intro w hSw
    (try dsimp only at hSw)
    go_simp
    try with_reducible rfl
  simp only [Act.put, List.setIfInBounds_toArray, List.set_cons_zero, List.set_cons_succ]
  refine take21 (v := ?_) 4 4 rfl rfl t21_4 (fun _ _ _ h => h) (by kernel_rfl) ?_ hOld ?_
  rotate_left
  · intro w hSw
    (try dsimp only at hSw)
    go_simp
    try with_reducible rfl
  simp only [Act.put, List.setIfInBounds_toArray, List.set_cons_zero, List.set_cons_succ]
  refine take21 (v := ?_) 5 5 rfl rfl t21_5 (fun _ _ _ h => h) (by kernel_rfl) ?_ hOld ?_
  rotate_left
  · intro w hSw
    (try dsimp only at hSw)
    go_simp
    try with_reducible rfl
  simp only [Act.put, List.setIfInBounds_toArray, List.set_cons_zero, List.set_cons_succ]
  refine take21 (v := ?_) 6 6 rfl rfl t21_6 (fun _ _ _ h => h) (by kernel_rfl) ?_ hOld ?_
  rotate_left
  · intro w hSw
    (try dsimp only at hSw)
    go_simp
    try with_reducible rfl
  simp only [Act.put, List.setIfInBounds_toArray, List.set_cons_zero, List.set_cons_succ]
  refine take21 (v := ?_) 7 7 rfl rfl t21_7 (fun _ _ _ h => h) (by kernel_rfl) ?_ hOld ?_
  rotate_left
  · intro w hSw
    (try dsimp only at hSw)
    go_simp
    try with_reducible rfl
  simp only [Act.put, List.setIfInBounds_toArray, List.set_cons_zero, List.set_cons_succ]
  refine take21 (v := ?_) 8 8 rfl rfl t21_8 (fun _ _ _ h => h) (by kernel_rfl) ?_ hOld ?_
  rotate_left
  · intro w hSw
    (try dsimp only at hSw)
    go_simp
    try with_reducible rfl
  simp only [Act.put, List.setIfInBounds_toArray, List.set_cons_zero, List.set_cons_succ]
  refine take21 (v := ?_) 9 9 rfl rfl t21_9 (fun _ _ _ h => h) (by kernel_rfl) ?_ hOld ?_
  rotate_left
  · intro w hSw
    (try dsimp only at hSw)
    go_simp
    try with_reducible rfl
  simp only [Act.put, List.setIfInBounds_toArray, List.set_cons_zero, List.set_cons_succ]
  refine take21 (v := ?_) 10 10 rfl rfl t21_10 (fun _ _ _ h => h) (by kernel_rfl) ?_ hOld ?_
  rotate_left
  · intro w hSw
    (try dsimp only at hSw)
    go_simp
    try with_reducible rfl
  simp only [Act.put, List.setIfInBounds_toArray, List.set_cons_zero, List.set_cons_succ]
  refine take21 (v := ?_) 11 11 rfl rfl t21_11 (fun _ _ _ h => h) (by kernel_rfl) ?_ hOld ?_
  rotate_left
  · intro w hSw
    (try dsimp only at hSw)
    go_simp
    try with_reducible rfl
  simp only [Act.put, List.setIfInBounds_toArray, List.set_cons_zero, List.set_cons_succ]
  refine take21 (v := ?_) 12 12 rfl rfl t21_12 (fun _ _ _ h => h) (by kernel_rfl) ?_ hOld ?_
  rotate_left
  · intro w hSw
    (try dsimp only at hSw)
    go_simp
    try with_reducible rfl
  simp only [Act.put, List.setIfInBounds_toArray, List.set_cons_zero, List.set_cons_succ]
  refine take21 (v := ?_) 13 13 rfl rfl t21_13 (fun _ _ _ h => h) (by kernel_rfl) ?_ hOld ?_
  rotate_left
  · intro w hSw
    (try dsimp only at hSw)
    go_simp
    try with_reducible rfl
  simp only [Act.put, List.setIfInBounds_toArray, List.set_cons_zero, List.set_cons_succ]
  refine take21 (v := ?_) 14 14 rfl rfl t21_14 (fun _ _ _ h => h) (by kernel_rfl) ?_ hOld ?_
  rotate_left
  · intro w hSw
    (try dsimp only at hSw)
    go_simp
    try with_reducible rfl
  simp only [Act.put, List.setIfInBounds_toArray, List.set_cons_zero, List.set_cons_succ]
  refine take21 (v := ?_) 15 15 rfl rfl t21_15 (fun _ _ _ h => h) (by kernel_rfl) ?_ hOld ?_
  rotate_left
  · intro w hSw
    (try dsimp only at hSw)
    go_simp
    try with_reducible rfl
  simp only [Act.put, List.setIfInBounds_toArray, List.set_cons_zero, List.set_cons_succ]
  refine take21 (v := ?_) 16 16 rfl rfl t21_16 (fun _ _ _ h => h) (by kernel_rfl) ?_ hOld ?_
  rotate_left
  · intro w hSw
    (try dsimp only at hSw)
    go_simp
    try with_reducible rfl
  simp only [Act.put, List.setIfInBounds_toArray, List.set_cons_zero, List.set_cons_succ]
  refine take21 (v := ?_) 17 17 rfl rfl t21_17 (fun _ _ _ h => h) (by kernel_rfl) ?_ hOld ?_
  rotate_left
  · intro w hSw
    (try dsimp only at hSw)
    go_simp
    try with_reducible rfl
  simp only [Act.put, List.setIfInBounds_toArray, List.set_cons_zero, List.set_cons_succ]
  refine take21 (v := ?_) 18 18 rfl rfl t21_18 (fun _ _ _ h => h) (by kernel_rfl) ?_ hOld ?_
  rotate_left
  · intro w hSw
    (try dsimp only at hSw)
    go_simp
    try with_reducible rfl
  simp only [Act.put, List.setIfInBounds_toArray, List.set_cons_zero, List.set_cons_succ]
  refine take21 (v := ?_) 19 19 rfl rfl t21_19 (fun _ _ _ h => h) (by kernel_rfl) ?_ hOld ?_
  rotate_left
  · intro w hSw
    (try dsimp only at hSw)
    go_simp
    try with_reducible rfl
  simp only [Act.put, List.setIfInBounds_toArray, List.set_cons_zero, List.set_cons_succ]
  refine take21 (v := ?_) 20 20 rfl rfl t21_20 (fun _ _ _ h => h) (by kernel_rfl) ?_ hOld ?_
  rotate_left
  · intro w hSw
    (try dsimp only at hSw)
    go_simp
    try with_reducible rfl
  simp only [Act.put, List.setIfInBounds_toArray, List.set_cons_zero, List.set_cons_succ]
  refine take21 (v := ?_) 21 21 rfl rfl t21_21 (fun _ _ _ h => h) (by kernel_rfl) ?_ hOld ?_
  rotate_left
  · intro w hSw
    (try dsimp only at hSw)
    go_simp
    try with_reducible rfl
  simp only [Act.put, List.setIfInBounds_toArray, List.set_cons_zero, List.set_cons_succ]
  refine take21 (v := ?_) 22 22 rfl rfl t21_22 (fun _ _ _ h => h) (by kernel_rfl) ?_ hOld ?_
  rotate_left
  · intro w hSw
    (try dsimp only at hSw)
    go_simp
    try with_reducible rfl
  simp only [Act.put, List.setIfInBounds_toArray, List.set_cons_zero, List.set_cons_succ]
  refine take21 (v := ?_) 23 23 rfl rfl t21_23 (fun _ _ _ h => h) (by kernel_rfl) ?_ hOld ?_
  rotate_left
  · intro w hSw
    (try dsimp only at hSw)
    go_simp
    try with_reducible rfl
  simp only [Act.put, List.setIfInBounds_toArray, List.set_cons_zero, List.set_cons_succ]
  refine take21 (v := ?_) 24 24 rfl rfl t21_24 (fun _ _ _ h => h) (by kernel_rfl) ?_ hOld ?_
  rotate_left
  · intro w hSw
    (try dsimp only at hSw)
    go_simp
    try with_reducible rfl
  simp only [Act.put, List.setIfInBounds_toArray, List.set_cons_zero, List.set_cons_succ]
  refine take21 (v := ?_) 25 25 rfl rfl t21_25 (fun _ _ _ h => h) (by kernel_rfl) ?_ hOld ?_
  rotate_left
  · intro w hSw
    (try dsimp only at hSw)
    go_simp
    try with_reducible rfl
  simp only [Act.put, List.setIfInBounds_toArray, List.set_cons_zero, List.set_cons_succ]
  refine take21 (v := ?_) 26 26 rfl rfl t21_26 (fun _ _ _ h => h) (by kernel_rfl) ?_ hOld ?_
  rotate_left
  · intro w hSw
    (try dsimp only at hSw)
    go_simp
    try with_reducible rfl
  simp only [Act.put, List.setIfInBounds_toArray, List.set_cons_zero, List.set_cons_succ]
  refine take21 (v := ?_) 27 27 rfl rfl t21_27 (fun _ _ _ h => h) (by kernel_rfl) ?_ hOld ?_
  rotate_left
  · intro w hSw
    (try dsimp only at hSw)
    go_simp
    try with_reducible rfl
  simp only [Act.put, List.setIfInBounds_toArray, List.set_cons_zero, List.set_cons_succ]
  refine take21 (v := ?_) 28 28 rfl rfl t21_28 (fun _ _ _ h => h) (by kernel_rfl) ?_ hOld ?_
  rotate_left
  · intro w hSw
    (try dsimp only at hSw)
    go_simp
    try with_reducible rfl
  simp only [Act.put, List.setIfInBounds_toArray, List.set_cons_zero, List.set_cons_succ]
  refine take21 (v := ?_) 29 29 rfl rfl t21_29 (fun _ _ _ h => h) (by kernel_rfl) ?_ hOld ?_
  rotate_left
  · intro w hSw
    (try dsimp only at hSw)
    go_simp
    try with_reducible rfl
  simp only [Act.put, List.setIfInBounds_toArray, List.set_cons_zero, List.set_cons_succ]
  refine take21 (v := ?_) 30 30 rfl rfl t21_30 (fun _ _ _ h => h) (by kernel_rfl) ?_ hOld ?_
  rotate_left
  · intro w hSw
    (try dsimp only at hSw)
    go_simp
    try with_reducible rfl
  simp only [Act.put, List.setIfInBounds_toArray, List.set_cons_zero, List.set_cons_succ]
  refine take21 (v := ?_) 31 31 rfl rfl t21_31 (fun _ _ _ h => h) (by kernel_rfl) ?_ hOld ?_
  rotate_left
  · intro w hSw
    (try dsimp only at hSw)
    go_simp
    try with_reducible rfl
  simp only [Act.put, List.setIfInBounds_toArray, List.set_cons_zero, List.set_cons_succ]
  refine take21 (v := ?_) 32 32 rfl rfl t21_32 (fun _ _ _ h => h) (by kernel_rfl) ?_ hOld ?_
  rotate_left
  · intro w hSw
    (try dsimp only at hSw)
    go_simp
    try with_reducible rfl
  simp only [Act.put, List.setIfInBounds_toArray, List.set_cons_zero, List.set_cons_succ]
  refine take21 (v := ?_) 33 33 rfl rfl t21_33 (fun _ _ _ h => h) (by kernel_rfl) ?_ hOld ?_
  rotate_left
  · intro w hSw
    (try dsimp only at hSw)
    go_simp
    try with_reducible rfl
  simp only [Act.put, List.setIfInBounds_toArray, List.set_cons_zero, List.set_cons_succ]
  refine take21 (v := ?_) 34 34 rfl rfl t21_34 (fun _ _ _ h => h) (by kernel_rfl) ?_ hOld ?_
  rotate_left
  · intro w hSw
    (try dsimp only at hSw)
    go_simp
    try with_reducible rfl
  simp only [Act.put, List.setIfInBounds_toArray, List.set_cons_zero, List.set_cons_succ]
  refine take21 (v := ?_) 35 35 rfl rfl t21_35 (fun _ _ _ h => h) (by kernel_rfl) ?_ hOld ?_
  rotate_left
  · intro w hSw
    (try dsimp only at hSw)
    go_simp
    try with_reducible rfl
  simp only [Act.put, List.setIfInBounds_toArray, List.set_cons_zero, List.set_cons_succ]
  refine take21 (v := ?_) 36 36 rfl rfl t21_36 (fun _ _ _ h => h) (by kernel_rfl) ?_ hOld ?_
  rotate_left
  · intro w hSw
    (try dsimp only at hSw)
    go_simp
    try with_reducible rfl
  simp only [Act.put, List.setIfInBounds_toArray, List.set_cons_zero, List.set_cons_succ]
  refine take21 (v := ?_) 37 37 rfl rfl t21_37 (fun _ _ _ h => h) (by kernel_rfl) ?_ hOld ?_
  rotate_left
  · intro w hSw
    (try dsimp only at hSw)
    go_simp
    try with_reducible rfl
  simp only [Act.put, List.setIfInBounds_toArray, List.set_cons_zero, List.set_cons_succ]
  refine call21 38 38 rfl rfl r21_38 (by kernel_rfl) (fun K hK => ?_)
  go_simp
  (go_at_call 33; with_reducible refine (zzSameStrp_self ci _ ((unhide Hci).step (unhide TT).bel)).mono ?_; rintro e wN ⟨rfl, hb⟩; have TN := hide ((unhide TT).step hb); clear TT hb; have TT := TN; clear TN)
  try go_wp2_with fail
  refine hK.out _ _ (TC.cells (unhide TT)) (fun hHeld => ?_)
  clear hK K
  try simp only [Act.put, List.setIfInBounds_toArray, List.set_cons_zero, List.set_cons_succ]
  clear hOld
  have hOld := hHeld
  clear hHeld
  refine take21 (v := ?_) 39 39 rfl rfl t21_39 (fun _ _ _ h => h) (by kernel_rfl) ?_ hOld ?_
  rotate_left
  · intro w hSw
    (try dsimp only at hSw)
    go_simp
    try with_reducible rfl
  simp only [Act.put, List.setIfInBounds_toArray, List.set_cons_zero, List.set_cons_succ]
  refine take21 (v := ?_) 40 40 rfl rfl t21_40 (fun _ _ _ h => h) (by kernel_rfl) ?_ hOld ?_
  rotate_left
  · intro w hSw
    (try dsimp only at hSw)
    go_simp
    try with_reducible rfl
  simp only [Act.put, List.setIfInBounds_toArray, List.set_cons_zero, List.set_cons_succ]
  refine take21 (v := ?_) 41 41 rfl rfl t21_41 (fun _ _ _ h => h) (by kernel_rfl) ?_ hOld ?_
  rotate_left
  · intro w hSw
    (try dsimp only at hSw)
    go_simp
    try with_reducible rfl
  simp only [Act.put, List.setIfInBounds_toArray, List.set_cons_zero, List.set_cons_succ]
  refine take21 (v := ?_) 42 42 rfl rfl t21_42 (fun _ _ _ h => h) (by kernel_rfl) ?_ hOld ?_
  rotate_left
  · intro w hSw
    (try dsimp only at hSw)
    go_simp
    try with_reducible rfl
  simp only [Act.put, List.setIfInBounds_toArray, List.set_cons_zero, List.set_cons_succ]
  refine take21 (v := ?_) 43 43 rfl rfl t21_43 (fun _ _ _ h => h) (by kernel_rfl) ?_ hOld ?_
  rotate_left
  · intro w hSw
    (try dsimp only at hSw)
    go_simp
    try with_reducible rfl
  simp only [Act.put, List.setIfInBounds_toArray, List.set_cons_zero, List.set_cons_succ]
  refine take21 (v := ?_) 44 44 rfl rfl t21_44 (fun _ _ _ h => h) (by kernel_rfl) ?_ hOld ?_
  rotate_left
  · intro w hSw
    (try dsimp only at hSw)
    go_simp
    try with_reducible rfl
  simp only [Act.put, List.setIfInBounds_toArray, List.set_cons_zero, List.set_cons_succ]
  refine call21 45 45 rfl rfl r21_45 (by kernel_rfl) (fun K hK => ?_)
  go_simp
  (go_at_call 33; with_reducible refine (zzSameStrp_self nm _ ((unhide Hnm).step (unhide TT).bel)).mono ?_; rintro e wN ⟨rfl, hb⟩; have TN := hide ((unhide TT).step hb); clear TT hb; have TT := TN; clear TN)
  try go_wp2_with fail
  refine hK.out _ _ (TC.cells (unhide TT)) (fun hHeld => ?_)
  clear hK K
  try simp only [Act.put, List.setIfInBounds_toArray, List.set_cons_zero, List.set_cons_succ]
  clear hOld
  have hOld := hHeld
  clear hHeld
  refine take21 (v := ?_) 46 46 rfl rfl t21_46 (fun _ _ _ h => h) (by kernel_rfl) ?_ hOld ?_
  rotate_left
  · intro w hSw
    (try dsimp only at hSw)
    go_simp
    try with_reducible rfl
  simp only [Act.put, List.setIfInBounds_toArray, List.set_cons_zero, List.set_cons_succ]
  refine take21 (v := ?_) 47 47 rfl rfl t21_47 (fun _ _ _ h => h) (by kernel_rfl) ?_ hOld ?_
  rotate_left
  · intro w hSw
    (try dsimp only at hSw)
    go_simp
    try with_reducible rfl
  simp only [Act.put, List.setIfInBounds_toArray, List.set_cons_zero, List.set_cons_succ]
  refine take21 (v := ?_) 48 48 rfl rfl t21_48 (fun _ _ _ h => h) (by kernel_rfl) ?_ hOld ?_
  rotate_left
  · intro w hSw
    (try dsimp only at hSw)
    go_simp
    try with_reducible rfl
  simp only [Act.put, List.setIfInBounds_toArray, List.set_cons_zero, List.set_cons_succ]
  refine take21 (v := ?_) 49 49 rfl rfl t21_49 (fun _ _ _ h => h) (by kernel_rfl) ?_ hOld ?_
  rotate_left
  · intro w hSw
    (try dsimp only at hSw)
    go_simp
    try with_reducible rfl
  simp only [Act.put, List.setIfInBounds_toArray, List.set_cons_zero, List.set_cons_succ]
  refine take21 (v := ?_) 50 50 rfl rfl t21_50 (fun _ _ _ h => h) (by kernel_rfl) ?_ hOld ?_
  rotate_left
  · intro w hSw
    (try dsimp only at hSw)
    go_simp
    try with_reducible rfl
  simp only [Act.put, List.setIfInBounds_toArray, List.set_cons_zero, List.set_cons_succ]
  refine take21 (v := ?_) 51 51 rfl rfl t21_51 (fun _ _ _ h => h) (by kernel_rfl) ?_ hOld ?_
  rotate_left
  · intro w hSw
    (try dsimp only at hSw)
    go_simp
    try with_reducible rfl
  simp only [Act.put, List.setIfInBounds_toArray, List.set_cons_zero, List.set_cons_succ]
  refine call21 52 52 rfl rfl r21_52 (by kernel_rfl) (fun K hK => ?_)
  go_simp
  (go_at_call 33; with_reducible refine (zzSameStrp_self ar _ ((unhide Har).step (unhide TT).bel)).mono ?_; rintro e wN ⟨rfl, hb⟩; have TN := hide ((unhide TT).step hb); clear TT hb; have TT := TN; clear TN)
  try go_wp2_with fail
  refine hK.out _ _ (TC.cells (unhide TT)) (fun hHeld => ?_)
  clear hK K
  try simp only [Act.put, List.setIfInBounds_toArray, List.set_cons_zero, List.set_cons_succ]
  clear hOld
  have hOld := hHeld
  clear hHeld
  refine take21 (v := ?_) 53 53 rfl rfl t21_53 (fun _ _ _ h => h) (by kernel_rfl) ?_ hOld ?_
  rotate_left
  · intro w hSw
    (try dsimp only at hSw)
    go_simp
    try with_reducible rfl
  simp only [Act.put, List.setIfInBounds_toArray, List.set_cons_zero, List.set_cons_succ]
  refine take21 (v := ?_) 54 54 rfl rfl t21_54 (fun _ _ _ h => h) (by kernel_rfl) ?_ hOld ?_
  rotate_left
  · intro w hSw
    (try dsimp only at hSw)
    go_simp
    try with_reducible rfl
  simp only [Act.put, List.setIfInBounds_toArray, List.set_cons_zero, List.set_cons_succ]
  refine take21 (v := ?_) 55 55 rfl rfl t21_55 (fun _ _ _ h => h) (by kernel_rfl) ?_ hOld ?_
  rotate_left
  · intro w hSw
    (try dsimp only at hSw)
    go_simp
    try with_reducible rfl
  simp only [Act.put, List.setIfInBounds_toArray, List.set_cons_zero, List.set_cons_succ]
  refine take21 (v := ?_) 56 56 rfl rfl t21_56 (fun _ _ _ h => h) (by kernel_rfl) ?_ hOld ?_
  rotate_left
  · intro w hSw
    (try dsimp only at hSw)
    go_simp
    try with_reducible rfl
  simp only [Act.put, List.setIfInBounds_toArray, List.set_cons_zero, List.set_cons_succ]
  refine take21 (v := ?_) 57 57 rfl rfl t21_57 (fun _ _ _ h => h) (by kernel_rfl) ?_ hOld ?_
  rotate_left
  · intro w hSw
    (try dsimp only at hSw)
    go_simp
    try with_reducible rfl
  simp only [Act.put, List.setIfInBounds_toArray, List.set_cons_zero, List.set_cons_succ]
  refine take21 (v := ?_) 58 58 rfl rfl t21_58 (fun _ _ _ h => h) (by kernel_rfl) ?_ hOld ?_
  rotate_left
  · intro w hSw
    (try dsimp only at hSw)
    go_simp
    try with_reducible rfl
  simp only [Act.put, List.setIfInBounds_toArray, List.set_cons_zero, List.set_cons_succ]
  refine call21 59 59 rfl rfl r21_59 (by kernel_rfl) (fun K hK => ?_)
  go_simp
  (go_at_call 33; with_reducible refine (zzSameStrp_self inp _ ((unhide Hinp).step (unhide TT).bel)).mono ?_; rintro e wN ⟨rfl, hb⟩; have TN := hide ((unhide TT).step hb); clear TT hb; have TT := TN; clear TN)
  try go_wp2_with fail
  refine hK.out _ _ (TC.cells (unhide TT)) (fun hHeld => ?_)
  clear hK K
  try simp only [Act.put, List.setIfInBounds_toArray, List.set_cons_zero, List.set_cons_succ]
  clear hOld
  have hOld := hHeld
  clear hHeld
  refine take21 (v := ?_) 60 60 rfl rfl t21_60 (fun _ _ _ h => h) (by kernel_rfl) ?_ hOld ?_
  rotate_left
  · intro w hSw
    (try dsimp only at hSw)
    go_simp
    try with_reducible rfl
  simp only [Act.put, List.setIfInBounds_toArray, List.set_cons_zero, List.set_cons_succ]
  refine take21 (v := ?_) 61 61 rfl rfl t21_61 (fun _ _ _ h => h) (by kernel_rfl) ?_ hOld ?_
  rotate_left
  · intro w hSw
    (try dsimp only at hSw)
    go_simp
    try with_reducible rfl
  simp only [Act.put, List.setIfInBounds_toArray, List.set_cons_zero, List.set_cons_succ]
  refine take21 (v := ?_) 62 62 rfl rfl t21_62 (fun _ _ _ h => h) (by kernel_rfl) ?_ hOld ?_
  rotate_left
  · intro w hSw
    (try dsimp only at hSw)
    go_simp
    try with_reducible rfl
  simp only [Act.put, List.setIfInBounds_toArray, List.set_cons_zero, List.set_cons_succ]
  refine take21 (v := ?_) 63 63 rfl rfl t21_63 (fun _ _ _ h => h) (by kernel_rfl) ?_ hOld ?_
  rotate_left
  · intro w hSw
    (try dsimp only at hSw)
    go_simp
    try with_reducible rfl
  simp only [Act.put, List.setIfInBounds_toArray, List.set_cons_zero, List.set_cons_succ]
  refine take21 (v := ?_) 64 64 rfl rfl t21_64 (fun _ _ _ h => h) (by kernel_rfl) ?_ hOld ?_
  rotate_left
  · intro w hSw
    (try dsimp only at hSw)
    go_simp
    try with_reducible rfl
  simp only [Act.put, List.setIfInBounds_toArray, List.set_cons_zero, List.set_cons_succ]
  refine take21 (v := ?_) 65 65 rfl rfl t21_65 (fun _ _ _ h => h) (by kernel_rfl) ?_ hOld ?_
  rotate_left
  · intro w hSw
    (try dsimp only at hSw)
    go_simp
    try with_reducible rfl
  simp only [Act.put, List.setIfInBounds_toArray, List.set_cons_zero, List.set_cons_succ]
  refine call21 66 66 rfl rfl r21_66 (by kernel_rfl) (fun K hK => ?_)
  go_simp
  (go_at_call 34; with_reducible refine (zzSameContentValue_same k k' _ ((unhide Hk).up (up_below (unhide TT).bel))).mono ?_; rintro e wN ⟨rfl, hb⟩; have TN := hide ((unhide TT).step hb); clear TT hb; have TT := TN; clear TN)
  try go_wp2_with fail
  refine hK.out _ _ (TC.cells (unhide TT)) (fun hHeld => ?_)
  clear hK K
  try simp only [Act.put, List.setIfInBounds_toArray, List.set_cons_zero, List.set_cons_succ]
  clear hOld
  have hOld := hHeld
  clear hHeld
  refine take21 (v := ?_) 67 67 rfl rfl t21_67 (fun _ _ _ h => h) (by kernel_rfl) ?_ hOld ?_
  rotate_left
  · intro w hSw
    (try dsimp only at hSw)
    go_simp
    try with_reducible rfl
  simp only [Act.put, List.setIfInBounds_toArray, List.set_cons_zero, List.set_cons_succ]
  refine take21 (v := ?_) 68 68 rfl rfl t21_68 (fun _ _ _ h => h) (by kernel_rfl) ?_ hOld ?_
  rotate_left
  · intro w hSw
    (try dsimp only at hSw)
    go_simp
    try with_reducible rfl
  simp only [Act.put, List.setIfInBounds_toArray, List.set_cons_zero, List.set_cons_succ]
  refine take21 (v := ?_) 69 69 rfl rfl t21_69 (fun _ _ _ h => h) (by kernel_rfl) ?_ hOld ?_
  rotate_left
  · intro w hSw
    (try dsimp only at hSw)
    go_simp
    try with_reducible rfl
  simp only [Act.put, List.setIfInBounds_toArray, List.set_cons_zero, List.set_cons_succ]
  refine take21 (v := ?_) 70 70 rfl rfl t21_70 (fun _ _ _ h => h) (by kernel_rfl) ?_ hOld ?_
  rotate_left
  · intro w hSw
    (try dsimp only at hSw)
    go_simp
    try with_reducible rfl
  simp only [Act.put, List.setIfInBounds_toArray, List.set_cons_zero, List.set_cons_succ]
  refine take21 (v := ?_) 71 71 rfl rfl t21_71 (fun _ _ _ h => h) (by kernel_rfl) ?_ hOld ?_
  rotate_left
  · intro w hSw
    (try dsimp only at hSw)
    go_simp
    try with_reducible rfl
  simp only [Act.put, List.setIfInBounds_toArray, List.set_cons_zero, List.set_cons_succ]
  refine take21 (v := ?_) 72 72 rfl rfl t21_72 (fun _ _ _ h => h) (by kernel_rfl) ?_ hOld ?_
  rotate_left
  · intro w hSw
    (try dsimp only at hSw)
    go_simp
    try with_reducible rfl
  simp only [Act.put, List.setIfInBounds_toArray, List.set_cons_zero, List.set_cons_succ]
  refine call21 73 73 rfl rfl r21_73 (by kernel_rfl) (fun K hK => ?_)
  go_simp
  (go_at_call 34; with_reducible refine (zzSameContentValue_same o o' _ ((unhide Ho).up (up_below (unhide TT).bel))).mono ?_; rintro e wN ⟨rfl, hb⟩; have TN := hide ((unhide TT).step hb); clear TT hb; have TT := TN; clear TN)
  try go_wp2_with fail
  refine hK.out _ _ (TC.cells (unhide TT)) (fun hHeld => ?_)
  clear hK K
  try simp only [Act.put, List.setIfInBounds_toArray, List.set_cons_zero, List.set_cons_succ]
  clear hOld
  have hOld := hHeld
  clear hHeld
  refine take21 (v := ?_) 74 74 rfl rfl t21_74 (fun _ _ _ h => h) (by kernel_rfl) ?_ hOld ?_
  rotate_left
  · intro w hSw
    (try dsimp only at hSw)
    go_simp
    try with_reducible rfl
  simp only [Act.put, List.setIfInBounds_toArray, List.set_cons_zero, List.set_cons_succ]
  refine take21 (v := ?_) 75 75 rfl rfl t21_75 (fun _ _ _ h => h) (by kernel_rfl) ?_ hOld ?_
  rotate_left
  · intro w hSw
    (try dsimp only at hSw)
    go_simp
    try with_reducible rfl
  simp only [Act.put, List.setIfInBounds_toArray, List.set_cons_zero, List.set_cons_succ]
  refine take21 (v := ?_) 76 76 rfl rfl t21_76 (fun _ _ _ h => h) (by kernel_rfl) ?_ hOld ?_
  rotate_left
  · intro w hSw
    (try dsimp only at hSw)
    go_simp
    try with_reducible rfl
  simp only [Act.put, List.setIfInBounds_toArray, List.set_cons_zero, List.set_cons_succ]
  refine take21 (v := ?_) 77 77 rfl rfl t21_77 (fun _ _ _ h => h) (by kernel_rfl) ?_ hOld ?_
  rotate_left
  · intro w hSw
    (try dsimp only at hSw)
    go_simp
    try with_reducible rfl
  simp only [Act.put, List.setIfInBounds_toArray, List.set_cons_zero, List.set_cons_succ]
  refine take21 (v := ?_) 78 78 rfl rfl t21_78 (fun _ _ _ h => h) (by kernel_rfl) ?_ hOld ?_
  rotate_left
  · intro w hSw
    (try dsimp only at hSw)
    go_simp
    try with_reducible rfl
  simp only [Act.put, List.setIfInBounds_toArray, List.set_cons_zero, List.set_cons_succ]
  refine take21 (v := ?_) 79 79 rfl rfl t21_79 (fun _ _ _ h => h) (by kernel_rfl) ?_ hOld ?_
  rotate_left
  · intro w hSw
    (try dsimp only at hSw)
    go_simp
    try with_reducible rfl
  simp only [Act.put, List.setIfInBounds_toArray, List.set_cons_zero, List.set_cons_succ]
  refine call21 80 80 rfl rfl r21_80 (by kernel_rfl) (fun K hK => ?_)
  go_simp
  (go_at_call 35; with_reducible refine (zzSamePartsValue_same su su spv spv _ ((unhide Hsu).step (unhide TT).bel) ((unhide Hsu).step (unhide TT).bel) rfl rfl (fun _ _ => rfl)).mono ?_; rintro e wN ⟨rfl, hb⟩; have TN := hide ((unhide TT).step hb); clear TT hb; have TT := TN; clear TN)
  try go_wp2_with fail
  refine hK.out _ _ (TC.cells (unhide TT)) (fun hHeld => ?_)
  clear hK K
  try simp only [Act.put, List.setIfInBounds_toArray, List.set_cons_zero, List.set_cons_succ]
  clear hOld
  have hOld := hHeld
  clear hHeld
  refine take21 (v := ?_) 81 81 rfl rfl t21_81 (fun _ _ _ h => h) (by kernel_rfl) ?_ hOld ?_
  rotate_left
  · intro w hSw
    (try dsimp only at hSw)
    go_simp
    try with_reducible rfl
  simp only [Act.put, List.setIfInBounds_toArray, List.set_cons_zero, List.set_cons_succ]
  refine take21 (v := ?_) 82 82 rfl rfl t21_82 (fun _ _ _ h => h) (by kernel_rfl) ?_ hOld ?_
  rotate_left
  · intro w hSw
    (try dsimp only at hSw)
    go_simp
    try with_reducible rfl
  simp only [Act.put, List.setIfInBounds_toArray, List.set_cons_zero, List.set_cons_succ]
  refine take21 (v := ?_) 83 83 rfl rfl t21_83 (fun _ _ _ h => h) (by kernel_rfl) ?_ hOld ?_
  rotate_left
  · intro w hSw
    (try dsimp only at hSw)
    go_simp
    try with_reducible rfl
  simp only [Act.put, List.setIfInBounds_toArray, List.set_cons_zero, List.set_cons_succ]
  refine take21 (v := ?_) 84 84 rfl rfl t21_84 (fun _ _ _ h => h) (by kernel_rfl) ?_ hOld ?_
  rotate_left
  · intro w hSw
    (try dsimp only at hSw)
    go_simp
    try with_reducible rfl
  simp only [Act.put, List.setIfInBounds_toArray, List.set_cons_zero, List.set_cons_succ]
  refine take21 (v := ?_) 85 85 rfl rfl t21_85 (fun _ _ _ h => h) (by kernel_rfl) ?_ hOld ?_
  rotate_left
  · intro w hSw
    (try dsimp only at hSw)
    go_simp
    try with_reducible rfl
  simp only [Act.put, List.setIfInBounds_toArray, List.set_cons_zero, List.set_cons_succ]
  refine take21 (v := ?_) 86 86 rfl rfl t21_86 (fun _ _ _ h => h) (by kernel_rfl) ?_ hOld ?_
  rotate_left
  · intro w hSw
    (try dsimp only at hSw)
    go_simp
    try with_reducible rfl
  simp only [Act.put, List.setIfInBounds_toArray, List.set_cons_zero, List.set_cons_succ]
  refine call21 87 87 rfl rfl r21_87 (by kernel_rfl) (fun K hK => ?_)
  go_simp
  (go_at_call 15; with_reducible refine (zzSameToolList_self ts _ (unhide Hts)).mono ?_; rintro e wN ⟨rfl, hb⟩; have TN := hide ((unhide TT).step hb); clear TT hb; have TT := TN; clear TN)
  try go_wp2_with fail
  refine hK.out _ _ (TC.cells (unhide TT)) (fun hHeld => ?_)
  clear hK K
  try simp only [Act.put, List.setIfInBounds_toArray, List.set_cons_zero, List.set_cons_succ]
  clear hOld
  have hOld := hHeld
  clear hHeld
  refine take21 (v := ?_) 88 88 rfl rfl t21_88 (fun _ _ _ h => h) (by kernel_rfl) ?_ hOld ?_
  rotate_left
  · intro w hSw
    (try dsimp only at hSw)
    go_simp
    try with_reducible rfl
  simp only [Act.put, List.setIfInBounds_toArray, List.set_cons_zero, List.set_cons_succ]
  refine take21 (v := ?_) 89 89 rfl rfl t21_89 (fun _ _ _ h => h) (by kernel_rfl) ?_ hOld ?_
  rotate_left
  · intro w hSw
    (try dsimp only at hSw)
    go_simp
    try with_reducible rfl
  simp only [Act.put, List.setIfInBounds_toArray, List.set_cons_zero, List.set_cons_succ]
  refine take21 (v := ?_) 90 90 rfl rfl t21_90 (fun _ _ _ h => h) (by kernel_rfl) ?_ hOld ?_
  rotate_left
  · intro w hSw
    (try dsimp only at hSw)
    go_simp
    try with_reducible rfl
  simp only [Act.put, List.setIfInBounds_toArray, List.set_cons_zero, List.set_cons_succ]
  refine take21 (v := ?_) 91 93 rfl rfl t21_91 (fun _ _ _ h => h) (by kernel_rfl) ?_ hOld ?_
  rotate_left
  · intro w hSw
    (try dsimp only at hSw)
    go_simp
    try with_reducible rfl
  simp only [Act.put, List.setIfInBounds_toArray, List.set_cons_zero, List.set_cons_succ]
  refine call21 92 91 rfl rfl r21_92 (by kernel_rfl) (fun K hK => ?_)
  go_simp
  (go_at_call 16; with_reducible refine (zzErrOf_any _ _ _ _ _ _ _ _ _ _ _ _ _ _ _ k1 o1 rfl rfl rfl rfl rfl rfl rfl rfl rfl rfl rfl rfl).mono ?_; rintro e wN ⟨rfl, hb⟩; have TN := hide ((unhide TT).step hb); clear TT hb; have TT := TN; clear TN)
  try go_wp2_with fail
  refine hK.out _ _ (TC.cells (unhide TT)) (fun hHeld => ?_)
  clear hK K
  try simp only [Act.put, List.setIfInBounds_toArray, List.set_cons_zero, List.set_cons_succ]
  clear hOld
  have hOld := hHeld
  clear hHeld
  refine take21 (v := ?_) 93 92 rfl rfl t21_93 (fun _ _ _ h => h) (by kernel_rfl) ?_ hOld ?_
  rotate_left
  · intro w hSw
    (try dsimp only at hSw)
    go_simp
    try with_reducible rfl
  simp only [Act.put, List.setIfInBounds_toArray, List.set_cons_zero, List.set_cons_succ]
  refine call21 94 94 rfl rfl r21_94 (by kernel_rfl) (fun K hK => ?_)
  go_simp
  (go_at_call 16; with_reducible refine (zzErrOf_any _ _ _ _ _ _ _ _ _ _ _ _ _ _ _ k1' o1' rfl rfl rfl rfl rfl rfl rfl rfl rfl rfl rfl rfl).mono ?_; rintro e wN ⟨rfl, hb⟩; have TN := hide ((unhide TT).step hb); clear TT hb; have TT := TN; clear TN)
  try go_wp2_with fail
  refine hK.out _ _ (TC.cells (unhide TT)) (fun hHeld => ?_)
  clear hK K
  try simp only [Act.put, List.setIfInBounds_toArray, List.set_cons_zero, List.set_cons_succ]
  clear hOld
  have hOld := hHeld
  clear hHeld
  refine take21 (v := ?_) 95 95 rfl rfl t21_95 (fun _ _ _ h => h) (by kernel_rfl) ?_ hOld ?_
  rotate_left
  · intro w hSw
    (try dsimp only at hSw)
    go_simp
    try with_reducible rfl
  simp only [Act.put, List.setIfInBounds_toArray, List.set_cons_zero, List.set_cons_succ]
  refine take21 (v := ?_) 96 96 rfl rfl t21_96 (fun _ _ _ h => h) (by kernel_rfl) ?_ hOld ?_
  rotate_left
  · intro w hSw
    (try dsimp only at hSw)
    go_simp
    try with_reducible rfl
  simp only [Act.put, List.setIfInBounds_toArray, List.set_cons_zero, List.set_cons_succ]
  refine take21 (v := ?_) 97 97 rfl rfl t21_97 (fun _ _ _ h => h) (by kernel_rfl) ?_ hOld ?_
  rotate_left
  · intro w hSw
    (try dsimp only at hSw)
    go_simp
    try with_reducible rfl
  simp only [Act.put, List.setIfInBounds_toArray, List.set_cons_zero, List.set_cons_succ]
  refine take21 (v := ?_) 98 98 rfl rfl t21_98 (fun _ _ _ h => h) (by kernel_rfl) ?_ hOld ?_
  rotate_left
  · intro w hSw
    (try dsimp only at hSw)
    go_simp
    try with_reducible rfl
  simp only [Act.put, List.setIfInBounds_toArray, List.set_cons_zero, List.set_cons_succ]
  refine wpAnyH_done r21_99 ?_ _
  refine NoPanic.normal ?_
  go_wp2_with fail
  go_ret
  exact ⟨rfl, (unhide TT).bel⟩

end Go.Proofs.Qxb6616371a
