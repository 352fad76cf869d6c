/-
  zzListedPartOK OF A PART AS LISTED.
-/
import Derived.Test.Qxb6616371aAre
namespace Go.Proofs.Qxb6616371a
open Go.RowKit
set_option linter.unusedVariables false

/-- Two boxes of the call's own. -/
structure TD (w W : World) (cs ds : List Value) : Prop where
  bel : Below w.heap.size w W
  a : BoxAt W w.heap.size cs
  b : BoxAt W (w.heap.size + 1) ds
theorem TD.step {w W W' : World} {cs ds : List Value} (h : TD w W cs ds) (hb : Below W.heap.size W W') : TD w W' cs ds := ⟨h.bel.trans (hb.mono h.bel.size), h.a.step hb, h.b.step hb⟩
theorem TD.made (w : World) (cs ds : List Value) (t t' : TypeId) : TD w ((w.alloc (.cells cs.toArray t)).alloc (.cells ds.toArray t')) cs ds := by
  have z := BoxAt.made w cs t
  have s0 : (w.alloc (.cells cs.toArray t)).heap.size = w.heap.size + 1 := by simp
  have b0 := al w (.cells cs.toArray t)
  generalize w.alloc (.cells cs.toArray t) = W0 at *
  have r := BoxAt.made W0 ds t'
  have b1 := al W0 (.cells ds.toArray t')
  rw [s0] at r
  exact ⟨b0.trans (b1.mono b0.size), z.step b1, r⟩

set_option maxRecDepth 100000 in
set_option maxHeartbeats 1000000 in
theorem lpo_img_auto (ty : ByteArray) (tx rf im : Option Addr) (da : Addr) (xa xz : Option Addr) (xl xc xzc : Nat) (xv : Nat → Raw) (ya yz : Option Addr) (yl yc yzc : Nat) (yv : Nat → Raw) (w : World) (hI : (ty.toList == [105, 110, 112, 117, 116, 95, 105, 109, 97, 103, 101]) = true) (hO : (ty.toList == [111, 117, 116, 112, 117, 116, 95, 116, 101, 120, 116]) = false) (hd : w.cell? da = some (.string autoB)) (xp : RawsAt w ⟨xa, xl, xc⟩ xv) (xq : RawsAt w ⟨xz, xl, xzc⟩ xv) (xn : xa.isNone = xz.isNone) (yp : RawsAt w ⟨ya, yl, yc⟩ yv) (yq : RawsAt w ⟨yz, yl, yzc⟩ yv) (yn : ya.isNone = yz.isNone) :
    Calls Try.prog 32 #[.agg #[.string ty, .pointer tx, .pointer rf, .pointer im, .pointer (some da), .slice xa xl xc, .slice ya yl yc], .agg #[.string ty, .pointer tx, .pointer rf, .pointer im, .pointer none, .slice xz xl xzc, .slice yz yl yzc]] w fun e w' => e = .returned (.bool true) ∧ Below w.heap.size w w' := by
  have Tb := hide (TD.made w [.string ty, .pointer tx, .pointer rf, .pointer im, .pointer (some da), .slice xa xl xc, .slice ya yl yc] [.string ty, .pointer tx, .pointer rf, .pointer im, .pointer none, .slice xz xl xzc, .slice yz yl yzc] 60 83)
  have Xx := hide (And.intro xp (And.intro xq xn))
  clear xp xq xn
  have Xy := hide (And.intro yp (And.intro yq yn))
  clear yp yq yn
  go_enter Try.func32, Try.ntmps32
  go_upto_region 1 with fail
  generalize (w.alloc (.cells (List.toArray [.string ty, .pointer tx, .pointer rf, .pointer im, .pointer (some da), .slice xa xl xc, .slice ya yl yc]) 60)).alloc (.cells (List.toArray [.string ty, .pointer tx, .pointer rf, .pointer im, .pointer none, .slice xz xl xzc, .slice yz yl yzc]) 83) = W1 at *
  replace hd := Below.keep (unhide Tb).bel hd
  simp only [autoB] at hd
  have a0 := (unhide Tb).a.get 0 _ rfl
  have b0 := (unhide Tb).b.get 0 _ rfl
  have a1 := (unhide Tb).a.get 1 _ rfl
  have b1 := (unhide Tb).b.get 1 _ rfl
  have a2 := (unhide Tb).a.get 2 _ rfl
  have b2 := (unhide Tb).b.get 2 _ rfl
  have a3 := (unhide Tb).a.get 3 _ rfl
  have b3 := (unhide Tb).b.get 3 _ rfl
  have a4 := (unhide Tb).a.get 4 _ rfl
  have b4 := (unhide Tb).b.get 4 _ rfl
  have a5 := (unhide Tb).a.get 5 _ rfl
  have b5 := (unhide Tb).b.get 5 _ rfl
  have a6 := (unhide Tb).a.get 6 _ rfl
  have b6 := (unhide Tb).b.get 6 _ rfl
  go_wp2_with fail
  refine (zzAnnotationsAre_same ty tx rf im (some da) xa xl xc ya yl yc xz xzc xv _ (((unhide Xx).1).step (unhide Tb).bel) (((unhide Xx).2.1).step (unhide Tb).bel) (unhide Xx).2.2).mono ?_
  rintro e Wx ⟨rfl, hb⟩
  replace Tb := hide ((unhide Tb).step hb)
  clear hb hd
  clear a0 b0 a1 b1 a2 b2 a3 b3 a4 b4 a5 b5 a6 b6
  have a0 := (unhide Tb).a.get 0 _ rfl
  have b0 := (unhide Tb).b.get 0 _ rfl
  have a1 := (unhide Tb).a.get 1 _ rfl
  have b1 := (unhide Tb).b.get 1 _ rfl
  have a2 := (unhide Tb).a.get 2 _ rfl
  have b2 := (unhide Tb).b.get 2 _ rfl
  have a3 := (unhide Tb).a.get 3 _ rfl
  have b3 := (unhide Tb).b.get 3 _ rfl
  have a4 := (unhide Tb).a.get 4 _ rfl
  have b4 := (unhide Tb).b.get 4 _ rfl
  have a5 := (unhide Tb).a.get 5 _ rfl
  have b5 := (unhide Tb).b.get 5 _ rfl
  have a6 := (unhide Tb).a.get 6 _ rfl
  have b6 := (unhide Tb).b.get 6 _ rfl
  go_wp2_with fail
  refine (zzLogprobsAre_same ty tx rf im (some da) xa xl xc ya yl yc yz yzc yv _ (((unhide Xy).1).step (unhide Tb).bel) (((unhide Xy).2.1).step (unhide Tb).bel) (unhide Xy).2.2).mono ?_
  rintro e Wy ⟨rfl, hb⟩
  replace Tb := hide ((unhide Tb).step hb)
  clear hb 
  clear a0 b0 a1 b1 a2 b2 a3 b3 a4 b4 a5 b5 a6 b6
  have a0 := (unhide Tb).a.get 0 _ rfl
  have b0 := (unhide Tb).b.get 0 _ rfl
  have a1 := (unhide Tb).a.get 1 _ rfl
  have b1 := (unhide Tb).b.get 1 _ rfl
  have a2 := (unhide Tb).a.get 2 _ rfl
  have b2 := (unhide Tb).b.get 2 _ rfl
  have a3 := (unhide Tb).a.get 3 _ rfl
  have b3 := (unhide Tb).b.get 3 _ rfl
  have a4 := (unhide Tb).a.get 4 _ rfl
  have b4 := (unhide Tb).b.get 4 _ rfl
  have a5 := (unhide Tb).a.get 5 _ rfl
  have b5 := (unhide Tb).b.get 5 _ rfl
  have a6 := (unhide Tb).a.get 6 _ rfl
  have b6 := (unhide Tb).b.get 6 _ rfl
  go_wp2_with fail
  go_ret
  exact ⟨rfl, (unhide Tb).bel⟩

set_option maxRecDepth 100000 in
set_option maxHeartbeats 1000000 in
theorem lpo_img_some (ty : ByteArray) (tx rf im : Option Addr) (da : Addr) (xa xz : Option Addr) (xl xc xzc : Nat) (xv : Nat → Raw) (ya yz : Option Addr) (yl yc yzc : Nat) (yv : Nat → Raw) (w : World) (hI : (ty.toList == [105, 110, 112, 117, 116, 95, 105, 109, 97, 103, 101]) = true) (hO : (ty.toList == [111, 117, 116, 112, 117, 116, 95, 116, 101, 120, 116]) = false) (xp : RawsAt w ⟨xa, xl, xc⟩ xv) (xq : RawsAt w ⟨xz, xl, xzc⟩ xv) (xn : xa.isNone = xz.isNone) (yp : RawsAt w ⟨ya, yl, yc⟩ yv) (yq : RawsAt w ⟨yz, yl, yzc⟩ yv) (yn : ya.isNone = yz.isNone) :
    Calls Try.prog 32 #[.agg #[.string ty, .pointer tx, .pointer rf, .pointer im, .pointer (some da), .slice xa xl xc, .slice ya yl yc], .agg #[.string ty, .pointer tx, .pointer rf, .pointer im, .pointer (some da), .slice xz xl xzc, .slice yz yl yzc]] w fun e w' => e = .returned (.bool true) ∧ Below w.heap.size w w' := by
  have Tb := hide (TD.made w [.string ty, .pointer tx, .pointer rf, .pointer im, .pointer (some da), .slice xa xl xc, .slice ya yl yc] [.string ty, .pointer tx, .pointer rf, .pointer im, .pointer (some da), .slice xz xl xzc, .slice yz yl yzc] 60 83)
  have Xx := hide (And.intro xp (And.intro xq xn))
  clear xp xq xn
  have Xy := hide (And.intro yp (And.intro yq yn))
  clear yp yq yn
  go_enter Try.func32, Try.ntmps32
  go_upto_region 1 with fail
  generalize (w.alloc (.cells (List.toArray [.string ty, .pointer tx, .pointer rf, .pointer im, .pointer (some da), .slice xa xl xc, .slice ya yl yc]) 60)).alloc (.cells (List.toArray [.string ty, .pointer tx, .pointer rf, .pointer im, .pointer (some da), .slice xz xl xzc, .slice yz yl yzc]) 83) = W1 at *
  have a0 := (unhide Tb).a.get 0 _ rfl
  have b0 := (unhide Tb).b.get 0 _ rfl
  have a1 := (unhide Tb).a.get 1 _ rfl
  have b1 := (unhide Tb).b.get 1 _ rfl
  have a2 := (unhide Tb).a.get 2 _ rfl
  have b2 := (unhide Tb).b.get 2 _ rfl
  have a3 := (unhide Tb).a.get 3 _ rfl
  have b3 := (unhide Tb).b.get 3 _ rfl
  have a4 := (unhide Tb).a.get 4 _ rfl
  have b4 := (unhide Tb).b.get 4 _ rfl
  have a5 := (unhide Tb).a.get 5 _ rfl
  have b5 := (unhide Tb).b.get 5 _ rfl
  have a6 := (unhide Tb).a.get 6 _ rfl
  have b6 := (unhide Tb).b.get 6 _ rfl
  go_wp2_with fail
  refine (zzAnnotationsAre_same ty tx rf im (some da) xa xl xc ya yl yc xz xzc xv _ (((unhide Xx).1).step (unhide Tb).bel) (((unhide Xx).2.1).step (unhide Tb).bel) (unhide Xx).2.2).mono ?_
  rintro e Wx ⟨rfl, hb⟩
  replace Tb := hide ((unhide Tb).step hb)
  clear hb 
  clear a0 b0 a1 b1 a2 b2 a3 b3 a4 b4 a5 b5 a6 b6
  have a0 := (unhide Tb).a.get 0 _ rfl
  have b0 := (unhide Tb).b.get 0 _ rfl
  have a1 := (unhide Tb).a.get 1 _ rfl
  have b1 := (unhide Tb).b.get 1 _ rfl
  have a2 := (unhide Tb).a.get 2 _ rfl
  have b2 := (unhide Tb).b.get 2 _ rfl
  have a3 := (unhide Tb).a.get 3 _ rfl
  have b3 := (unhide Tb).b.get 3 _ rfl
  have a4 := (unhide Tb).a.get 4 _ rfl
  have b4 := (unhide Tb).b.get 4 _ rfl
  have a5 := (unhide Tb).a.get 5 _ rfl
  have b5 := (unhide Tb).b.get 5 _ rfl
  have a6 := (unhide Tb).a.get 6 _ rfl
  have b6 := (unhide Tb).b.get 6 _ rfl
  go_wp2_with fail
  refine (zzLogprobsAre_same ty tx rf im (some da) xa xl xc ya yl yc yz yzc yv _ (((unhide Xy).1).step (unhide Tb).bel) (((unhide Xy).2.1).step (unhide Tb).bel) (unhide Xy).2.2).mono ?_
  rintro e Wy ⟨rfl, hb⟩
  replace Tb := hide ((unhide Tb).step hb)
  clear hb 
  clear a0 b0 a1 b1 a2 b2 a3 b3 a4 b4 a5 b5 a6 b6
  have a0 := (unhide Tb).a.get 0 _ rfl
  have b0 := (unhide Tb).b.get 0 _ rfl
  have a1 := (unhide Tb).a.get 1 _ rfl
  have b1 := (unhide Tb).b.get 1 _ rfl
  have a2 := (unhide Tb).a.get 2 _ rfl
  have b2 := (unhide Tb).b.get 2 _ rfl
  have a3 := (unhide Tb).a.get 3 _ rfl
  have b3 := (unhide Tb).b.get 3 _ rfl
  have a4 := (unhide Tb).a.get 4 _ rfl
  have b4 := (unhide Tb).b.get 4 _ rfl
  have a5 := (unhide Tb).a.get 5 _ rfl
  have b5 := (unhide Tb).b.get 5 _ rfl
  have a6 := (unhide Tb).a.get 6 _ rfl
  have b6 := (unhide Tb).b.get 6 _ rfl
  go_wp2_with fail
  go_ret
  exact ⟨rfl, (unhide Tb).bel⟩

set_option maxRecDepth 100000 in
set_option maxHeartbeats 1000000 in
theorem lpo_plain (ty : ByteArray) (tx rf im : Option Addr) (d : Option Addr) (xa xz : Option Addr) (xl xc xzc : Nat) (xv : Nat → Raw) (ya yz : Option Addr) (yl yc yzc : Nat) (yv : Nat → Raw) (w : World) (hI : (ty.toList == [105, 110, 112, 117, 116, 95, 105, 109, 97, 103, 101]) = false) (hO : (ty.toList == [111, 117, 116, 112, 117, 116, 95, 116, 101, 120, 116]) = false) (xp : RawsAt w ⟨xa, xl, xc⟩ xv) (xq : RawsAt w ⟨xz, xl, xzc⟩ xv) (xn : xa.isNone = xz.isNone) (yp : RawsAt w ⟨ya, yl, yc⟩ yv) (yq : RawsAt w ⟨yz, yl, yzc⟩ yv) (yn : ya.isNone = yz.isNone) :
    Calls Try.prog 32 #[.agg #[.string ty, .pointer tx, .pointer rf, .pointer im, .pointer d, .slice xa xl xc, .slice ya yl yc], .agg #[.string ty, .pointer tx, .pointer rf, .pointer im, .pointer d, .slice xz xl xzc, .slice yz yl yzc]] w fun e w' => e = .returned (.bool true) ∧ Below w.heap.size w w' := by
  have Tb := hide (TD.made w [.string ty, .pointer tx, .pointer rf, .pointer im, .pointer d, .slice xa xl xc, .slice ya yl yc] [.string ty, .pointer tx, .pointer rf, .pointer im, .pointer d, .slice xz xl xzc, .slice yz yl yzc] 60 83)
  have Xx := hide (And.intro xp (And.intro xq xn))
  clear xp xq xn
  have Xy := hide (And.intro yp (And.intro yq yn))
  clear yp yq yn
  go_enter Try.func32, Try.ntmps32
  go_upto_region 1 with fail
  generalize (w.alloc (.cells (List.toArray [.string ty, .pointer tx, .pointer rf, .pointer im, .pointer d, .slice xa xl xc, .slice ya yl yc]) 60)).alloc (.cells (List.toArray [.string ty, .pointer tx, .pointer rf, .pointer im, .pointer d, .slice xz xl xzc, .slice yz yl yzc]) 83) = W1 at *
  have a0 := (unhide Tb).a.get 0 _ rfl
  have b0 := (unhide Tb).b.get 0 _ rfl
  have a1 := (unhide Tb).a.get 1 _ rfl
  have b1 := (unhide Tb).b.get 1 _ rfl
  have a2 := (unhide Tb).a.get 2 _ rfl
  have b2 := (unhide Tb).b.get 2 _ rfl
  have a3 := (unhide Tb).a.get 3 _ rfl
  have b3 := (unhide Tb).b.get 3 _ rfl
  have a4 := (unhide Tb).a.get 4 _ rfl
  have b4 := (unhide Tb).b.get 4 _ rfl
  have a5 := (unhide Tb).a.get 5 _ rfl
  have b5 := (unhide Tb).b.get 5 _ rfl
  have a6 := (unhide Tb).a.get 6 _ rfl
  have b6 := (unhide Tb).b.get 6 _ rfl
  go_wp2_with fail
  refine (zzAnnotationsAre_same ty tx rf im d xa xl xc ya yl yc xz xzc xv _ (((unhide Xx).1).step (unhide Tb).bel) (((unhide Xx).2.1).step (unhide Tb).bel) (unhide Xx).2.2).mono ?_
  rintro e Wx ⟨rfl, hb⟩
  replace Tb := hide ((unhide Tb).step hb)
  clear hb 
  clear a0 b0 a1 b1 a2 b2 a3 b3 a4 b4 a5 b5 a6 b6
  have a0 := (unhide Tb).a.get 0 _ rfl
  have b0 := (unhide Tb).b.get 0 _ rfl
  have a1 := (unhide Tb).a.get 1 _ rfl
  have b1 := (unhide Tb).b.get 1 _ rfl
  have a2 := (unhide Tb).a.get 2 _ rfl
  have b2 := (unhide Tb).b.get 2 _ rfl
  have a3 := (unhide Tb).a.get 3 _ rfl
  have b3 := (unhide Tb).b.get 3 _ rfl
  have a4 := (unhide Tb).a.get 4 _ rfl
  have b4 := (unhide Tb).b.get 4 _ rfl
  have a5 := (unhide Tb).a.get 5 _ rfl
  have b5 := (unhide Tb).b.get 5 _ rfl
  have a6 := (unhide Tb).a.get 6 _ rfl
  have b6 := (unhide Tb).b.get 6 _ rfl
  go_wp2_with fail
  refine (zzLogprobsAre_same ty tx rf im d xa xl xc ya yl yc yz yzc yv _ (((unhide Xy).1).step (unhide Tb).bel) (((unhide Xy).2.1).step (unhide Tb).bel) (unhide Xy).2.2).mono ?_
  rintro e Wy ⟨rfl, hb⟩
  replace Tb := hide ((unhide Tb).step hb)
  clear hb 
  clear a0 b0 a1 b1 a2 b2 a3 b3 a4 b4 a5 b5 a6 b6
  have a0 := (unhide Tb).a.get 0 _ rfl
  have b0 := (unhide Tb).b.get 0 _ rfl
  have a1 := (unhide Tb).a.get 1 _ rfl
  have b1 := (unhide Tb).b.get 1 _ rfl
  have a2 := (unhide Tb).a.get 2 _ rfl
  have b2 := (unhide Tb).b.get 2 _ rfl
  have a3 := (unhide Tb).a.get 3 _ rfl
  have b3 := (unhide Tb).b.get 3 _ rfl
  have a4 := (unhide Tb).a.get 4 _ rfl
  have b4 := (unhide Tb).b.get 4 _ rfl
  have a5 := (unhide Tb).a.get 5 _ rfl
  have b5 := (unhide Tb).b.get 5 _ rfl
  have a6 := (unhide Tb).a.get 6 _ rfl
  have b6 := (unhide Tb).b.get 6 _ rfl
  go_wp2_with fail
  go_ret
  exact ⟨rfl, (unhide Tb).bel⟩

set_option maxRecDepth 100000 in
set_option maxHeartbeats 1000000 in
theorem lpo_out_aa (ty : ByteArray) (tx rf im : Option Addr) (d : Option Addr) (xa : Addr) (xc xzl xzc : Nat) (ya : Addr) (yc yzl yzc : Nat) (w : World) (hI : (ty.toList == [105, 110, 112, 117, 116, 95, 105, 109, 97, 103, 101]) = false) (hO : (ty.toList == [111, 117, 116, 112, 117, 116, 95, 116, 101, 120, 116]) = true) :
    Calls Try.prog 32 #[.agg #[.string ty, .pointer tx, .pointer rf, .pointer im, .pointer d, .slice (some xa) 0 xc, .slice (some ya) 0 yc], .agg #[.string ty, .pointer tx, .pointer rf, .pointer im, .pointer d, .slice none xzl xzc, .slice none yzl yzc]] w fun e w' => e = .returned (.bool true) ∧ Below w.heap.size w w' := by
  have Tb := hide (TD.made w [.string ty, .pointer tx, .pointer rf, .pointer im, .pointer d, .slice (some xa) 0 xc, .slice (some ya) 0 yc] [.string ty, .pointer tx, .pointer rf, .pointer im, .pointer d, .slice none xzl xzc, .slice none yzl yzc] 60 83)
  go_enter Try.func32, Try.ntmps32
  go_upto_region 1 with fail
  generalize (w.alloc (.cells (List.toArray [.string ty, .pointer tx, .pointer rf, .pointer im, .pointer d, .slice (some xa) 0 xc, .slice (some ya) 0 yc]) 60)).alloc (.cells (List.toArray [.string ty, .pointer tx, .pointer rf, .pointer im, .pointer d, .slice none xzl xzc, .slice none yzl yzc]) 83) = W1 at *
  have a0 := (unhide Tb).a.get 0 _ rfl
  have b0 := (unhide Tb).b.get 0 _ rfl
  have a1 := (unhide Tb).a.get 1 _ rfl
  have b1 := (unhide Tb).b.get 1 _ rfl
  have a2 := (unhide Tb).a.get 2 _ rfl
  have b2 := (unhide Tb).b.get 2 _ rfl
  have a3 := (unhide Tb).a.get 3 _ rfl
  have b3 := (unhide Tb).b.get 3 _ rfl
  have a4 := (unhide Tb).a.get 4 _ rfl
  have b4 := (unhide Tb).b.get 4 _ rfl
  have a5 := (unhide Tb).a.get 5 _ rfl
  have b5 := (unhide Tb).b.get 5 _ rfl
  have a6 := (unhide Tb).a.get 6 _ rfl
  have b6 := (unhide Tb).b.get 6 _ rfl
  go_wp2_with fail
  go_ret
  exact ⟨rfl, (unhide Tb).bel⟩

set_option maxRecDepth 100000 in
set_option maxHeartbeats 1000000 in
theorem lpo_out_as (ty : ByteArray) (tx rf im : Option Addr) (d : Option Addr) (xa : Addr) (xc xzl xzc : Nat) (ya yz : Addr) (yl yc yzc : Nat) (yv : Nat → Raw) (w : World) (hI : (ty.toList == [105, 110, 112, 117, 116, 95, 105, 109, 97, 103, 101]) = false) (hO : (ty.toList == [111, 117, 116, 112, 117, 116, 95, 116, 101, 120, 116]) = true) (yp : RawsAt w ⟨some ya, yl, yc⟩ yv) (yq : RawsAt w ⟨some yz, yl, yzc⟩ yv) :
    Calls Try.prog 32 #[.agg #[.string ty, .pointer tx, .pointer rf, .pointer im, .pointer d, .slice (some xa) 0 xc, .slice (some ya) yl yc], .agg #[.string ty, .pointer tx, .pointer rf, .pointer im, .pointer d, .slice none xzl xzc, .slice (some yz) yl yzc]] w fun e w' => e = .returned (.bool true) ∧ Below w.heap.size w w' := by
  have Tb := hide (TD.made w [.string ty, .pointer tx, .pointer rf, .pointer im, .pointer d, .slice (some xa) 0 xc, .slice (some ya) yl yc] [.string ty, .pointer tx, .pointer rf, .pointer im, .pointer d, .slice none xzl xzc, .slice (some yz) yl yzc] 60 83)
  have Xy := hide (And.intro yp yq)
  clear yp yq
  go_enter Try.func32, Try.ntmps32
  go_upto_region 1 with fail
  generalize (w.alloc (.cells (List.toArray [.string ty, .pointer tx, .pointer rf, .pointer im, .pointer d, .slice (some xa) 0 xc, .slice (some ya) yl yc]) 60)).alloc (.cells (List.toArray [.string ty, .pointer tx, .pointer rf, .pointer im, .pointer d, .slice none xzl xzc, .slice (some yz) yl yzc]) 83) = W1 at *
  have a0 := (unhide Tb).a.get 0 _ rfl
  have b0 := (unhide Tb).b.get 0 _ rfl
  have a1 := (unhide Tb).a.get 1 _ rfl
  have b1 := (unhide Tb).b.get 1 _ rfl
  have a2 := (unhide Tb).a.get 2 _ rfl
  have b2 := (unhide Tb).b.get 2 _ rfl
  have a3 := (unhide Tb).a.get 3 _ rfl
  have b3 := (unhide Tb).b.get 3 _ rfl
  have a4 := (unhide Tb).a.get 4 _ rfl
  have b4 := (unhide Tb).b.get 4 _ rfl
  have a5 := (unhide Tb).a.get 5 _ rfl
  have b5 := (unhide Tb).b.get 5 _ rfl
  have a6 := (unhide Tb).a.get 6 _ rfl
  have b6 := (unhide Tb).b.get 6 _ rfl
  go_wp2_with fail
  refine (zzLogprobsAre_same ty tx rf im d (some xa) 0 xc (some ya) yl yc (some yz) yzc yv _ (((unhide Xy).1).step (unhide Tb).bel) (((unhide Xy).2).step (unhide Tb).bel) rfl).mono ?_
  rintro e Wy ⟨rfl, hb⟩
  replace Tb := hide ((unhide Tb).step hb)
  clear hb 
  clear a0 b0 a1 b1 a2 b2 a3 b3 a4 b4 a5 b5 a6 b6
  have a0 := (unhide Tb).a.get 0 _ rfl
  have b0 := (unhide Tb).b.get 0 _ rfl
  have a1 := (unhide Tb).a.get 1 _ rfl
  have b1 := (unhide Tb).b.get 1 _ rfl
  have a2 := (unhide Tb).a.get 2 _ rfl
  have b2 := (unhide Tb).b.get 2 _ rfl
  have a3 := (unhide Tb).a.get 3 _ rfl
  have b3 := (unhide Tb).b.get 3 _ rfl
  have a4 := (unhide Tb).a.get 4 _ rfl
  have b4 := (unhide Tb).b.get 4 _ rfl
  have a5 := (unhide Tb).a.get 5 _ rfl
  have b5 := (unhide Tb).b.get 5 _ rfl
  have a6 := (unhide Tb).a.get 6 _ rfl
  have b6 := (unhide Tb).b.get 6 _ rfl
  go_wp2_with fail
  go_ret
  exact ⟨rfl, (unhide Tb).bel⟩

set_option maxRecDepth 100000 in
set_option maxHeartbeats 1000000 in
theorem lpo_out_sa (ty : ByteArray) (tx rf im : Option Addr) (d : Option Addr) (xa xz : Addr) (xl xc xzc : Nat) (xv : Nat → Raw) (ya : Addr) (yc yzl yzc : Nat) (w : World) (hI : (ty.toList == [105, 110, 112, 117, 116, 95, 105, 109, 97, 103, 101]) = false) (hO : (ty.toList == [111, 117, 116, 112, 117, 116, 95, 116, 101, 120, 116]) = true) (xp : RawsAt w ⟨some xa, xl, xc⟩ xv) (xq : RawsAt w ⟨some xz, xl, xzc⟩ xv) :
    Calls Try.prog 32 #[.agg #[.string ty, .pointer tx, .pointer rf, .pointer im, .pointer d, .slice (some xa) xl xc, .slice (some ya) 0 yc], .agg #[.string ty, .pointer tx, .pointer rf, .pointer im, .pointer d, .slice (some xz) xl xzc, .slice none yzl yzc]] w fun e w' => e = .returned (.bool true) ∧ Below w.heap.size w w' := by
  have Tb := hide (TD.made w [.string ty, .pointer tx, .pointer rf, .pointer im, .pointer d, .slice (some xa) xl xc, .slice (some ya) 0 yc] [.string ty, .pointer tx, .pointer rf, .pointer im, .pointer d, .slice (some xz) xl xzc, .slice none yzl yzc] 60 83)
  have Xx := hide (And.intro xp xq)
  clear xp xq
  go_enter Try.func32, Try.ntmps32
  go_upto_region 1 with fail
  generalize (w.alloc (.cells (List.toArray [.string ty, .pointer tx, .pointer rf, .pointer im, .pointer d, .slice (some xa) xl xc, .slice (some ya) 0 yc]) 60)).alloc (.cells (List.toArray [.string ty, .pointer tx, .pointer rf, .pointer im, .pointer d, .slice (some xz) xl xzc, .slice none yzl yzc]) 83) = W1 at *
  have a0 := (unhide Tb).a.get 0 _ rfl
  have b0 := (unhide Tb).b.get 0 _ rfl
  have a1 := (unhide Tb).a.get 1 _ rfl
  have b1 := (unhide Tb).b.get 1 _ rfl
  have a2 := (unhide Tb).a.get 2 _ rfl
  have b2 := (unhide Tb).b.get 2 _ rfl
  have a3 := (unhide Tb).a.get 3 _ rfl
  have b3 := (unhide Tb).b.get 3 _ rfl
  have a4 := (unhide Tb).a.get 4 _ rfl
  have b4 := (unhide Tb).b.get 4 _ rfl
  have a5 := (unhide Tb).a.get 5 _ rfl
  have b5 := (unhide Tb).b.get 5 _ rfl
  have a6 := (unhide Tb).a.get 6 _ rfl
  have b6 := (unhide Tb).b.get 6 _ rfl
  go_wp2_with fail
  refine (zzAnnotationsAre_same ty tx rf im d (some xa) xl xc (some ya) 0 yc (some xz) xzc xv _ (((unhide Xx).1).step (unhide Tb).bel) (((unhide Xx).2).step (unhide Tb).bel) rfl).mono ?_
  rintro e Wx ⟨rfl, hb⟩
  replace Tb := hide ((unhide Tb).step hb)
  clear hb 
  clear a0 b0 a1 b1 a2 b2 a3 b3 a4 b4 a5 b5 a6 b6
  have a0 := (unhide Tb).a.get 0 _ rfl
  have b0 := (unhide Tb).b.get 0 _ rfl
  have a1 := (unhide Tb).a.get 1 _ rfl
  have b1 := (unhide Tb).b.get 1 _ rfl
  have a2 := (unhide Tb).a.get 2 _ rfl
  have b2 := (unhide Tb).b.get 2 _ rfl
  have a3 := (unhide Tb).a.get 3 _ rfl
  have b3 := (unhide Tb).b.get 3 _ rfl
  have a4 := (unhide Tb).a.get 4 _ rfl
  have b4 := (unhide Tb).b.get 4 _ rfl
  have a5 := (unhide Tb).a.get 5 _ rfl
  have b5 := (unhide Tb).b.get 5 _ rfl
  have a6 := (unhide Tb).a.get 6 _ rfl
  have b6 := (unhide Tb).b.get 6 _ rfl
  go_wp2_with fail
  go_ret
  exact ⟨rfl, (unhide Tb).bel⟩

set_option maxRecDepth 100000 in
set_option maxHeartbeats 1000000 in
theorem lpo_out_ss (ty : ByteArray) (tx rf im : Option Addr) (d : Option Addr) (xa xz : Addr) (xl xc xzc : Nat) (xv : Nat → Raw) (ya yz : Addr) (yl yc yzc : Nat) (yv : Nat → Raw) (w : World) (hI : (ty.toList == [105, 110, 112, 117, 116, 95, 105, 109, 97, 103, 101]) = false) (hO : (ty.toList == [111, 117, 116, 112, 117, 116, 95, 116, 101, 120, 116]) = true) (xp : RawsAt w ⟨some xa, xl, xc⟩ xv) (xq : RawsAt w ⟨some xz, xl, xzc⟩ xv) (yp : RawsAt w ⟨some ya, yl, yc⟩ yv) (yq : RawsAt w ⟨some yz, yl, yzc⟩ yv) :
    Calls Try.prog 32 #[.agg #[.string ty, .pointer tx, .pointer rf, .pointer im, .pointer d, .slice (some xa) xl xc, .slice (some ya) yl yc], .agg #[.string ty, .pointer tx, .pointer rf, .pointer im, .pointer d, .slice (some xz) xl xzc, .slice (some yz) yl yzc]] w fun e w' => e = .returned (.bool true) ∧ Below w.heap.size w w' := by
  have Tb := hide (TD.made w [.string ty, .pointer tx, .pointer rf, .pointer im, .pointer d, .slice (some xa) xl xc, .slice (some ya) yl yc] [.string ty, .pointer tx, .pointer rf, .pointer im, .pointer d, .slice (some xz) xl xzc, .slice (some yz) yl yzc] 60 83)
  have Xx := hide (And.intro xp xq)
  clear xp xq
  have Xy := hide (And.intro yp yq)
  clear yp yq
  go_enter Try.func32, Try.ntmps32
  go_upto_region 1 with fail
  generalize (w.alloc (.cells (List.toArray [.string ty, .pointer tx, .pointer rf, .pointer im, .pointer d, .slice (some xa) xl xc, .slice (some ya) yl yc]) 60)).alloc (.cells (List.toArray [.string ty, .pointer tx, .pointer rf, .pointer im, .pointer d, .slice (some xz) xl xzc, .slice (some yz) yl yzc]) 83) = W1 at *
  have a0 := (unhide Tb).a.get 0 _ rfl
  have b0 := (unhide Tb).b.get 0 _ rfl
  have a1 := (unhide Tb).a.get 1 _ rfl
  have b1 := (unhide Tb).b.get 1 _ rfl
  have a2 := (unhide Tb).a.get 2 _ rfl
  have b2 := (unhide Tb).b.get 2 _ rfl
  have a3 := (unhide Tb).a.get 3 _ rfl
  have b3 := (unhide Tb).b.get 3 _ rfl
  have a4 := (unhide Tb).a.get 4 _ rfl
  have b4 := (unhide Tb).b.get 4 _ rfl
  have a5 := (unhide Tb).a.get 5 _ rfl
  have b5 := (unhide Tb).b.get 5 _ rfl
  have a6 := (unhide Tb).a.get 6 _ rfl
  have b6 := (unhide Tb).b.get 6 _ rfl
  go_wp2_with fail
  refine (zzAnnotationsAre_same ty tx rf im d (some xa) xl xc (some ya) yl yc (some xz) xzc xv _ (((unhide Xx).1).step (unhide Tb).bel) (((unhide Xx).2).step (unhide Tb).bel) rfl).mono ?_
  rintro e Wx ⟨rfl, hb⟩
  replace Tb := hide ((unhide Tb).step hb)
  clear hb 
  clear a0 b0 a1 b1 a2 b2 a3 b3 a4 b4 a5 b5 a6 b6
  have a0 := (unhide Tb).a.get 0 _ rfl
  have b0 := (unhide Tb).b.get 0 _ rfl
  have a1 := (unhide Tb).a.get 1 _ rfl
  have b1 := (unhide Tb).b.get 1 _ rfl
  have a2 := (unhide Tb).a.get 2 _ rfl
  have b2 := (unhide Tb).b.get 2 _ rfl
  have a3 := (unhide Tb).a.get 3 _ rfl
  have b3 := (unhide Tb).b.get 3 _ rfl
  have a4 := (unhide Tb).a.get 4 _ rfl
  have b4 := (unhide Tb).b.get 4 _ rfl
  have a5 := (unhide Tb).a.get 5 _ rfl
  have b5 := (unhide Tb).b.get 5 _ rfl
  have a6 := (unhide Tb).a.get 6 _ rfl
  have b6 := (unhide Tb).b.get 6 _ rfl
  go_wp2_with fail
  refine (zzLogprobsAre_same ty tx rf im d (some xa) xl xc (some ya) yl yc (some yz) yzc yv _ (((unhide Xy).1).step (unhide Tb).bel) (((unhide Xy).2).step (unhide Tb).bel) rfl).mono ?_
  rintro e Wy ⟨rfl, hb⟩
  replace Tb := hide ((unhide Tb).step hb)
  clear hb 
  clear a0 b0 a1 b1 a2 b2 a3 b3 a4 b4 a5 b5 a6 b6
  have a0 := (unhide Tb).a.get 0 _ rfl
  have b0 := (unhide Tb).b.get 0 _ rfl
  have a1 := (unhide Tb).a.get 1 _ rfl
  have b1 := (unhide Tb).b.get 1 _ rfl
  have a2 := (unhide Tb).a.get 2 _ rfl
  have b2 := (unhide Tb).b.get 2 _ rfl
  have a3 := (unhide Tb).a.get 3 _ rfl
  have b3 := (unhide Tb).b.get 3 _ rfl
  have a4 := (unhide Tb).a.get 4 _ rfl
  have b4 := (unhide Tb).b.get 4 _ rfl
  have a5 := (unhide Tb).a.get 5 _ rfl
  have b5 := (unhide Tb).b.get 5 _ rfl
  have a6 := (unhide Tb).a.get 6 _ rfl
  have b6 := (unhide Tb).b.get 6 _ rfl
  go_wp2_with fail
  go_ret
  exact ⟨rfl, (unhide Tb).bel⟩


theorem or_both {p q r s : Prop} (h : p ∨ q) (f : p → r) (g : q → s) : r ∨ s := by
  rcases h with h | h
  · exact .inl (f h)
  · exact .inr (g h)
/-- g is what Listed makes of the part z that came in. -/
structure Good (W : World) (z g : PartV) : Prop where
  ty : g.ty = z.ty
  tx : g.tx = z.tx
  rf : g.rf = z.rf
  im : g.im = z.im
  dt : (isImg z.ty = true ∧ z.dt = none ∧ ∃ a, g.dt = some a ∧ W.cell? a = some (.string autoB)) ∨ ((isImg z.ty = false ∨ z.dt ≠ none) ∧ g.dt = z.dt)
  an : (isOut z.ty = true ∧ z.an.a = none ∧ g.an.a ≠ none ∧ g.an.l = 0) ∨ ((isOut z.ty = false ∨ z.an.a ≠ none) ∧ g.an.a.isNone = z.an.a.isNone ∧ g.an.l = z.an.l)
  lp : (isOut z.ty = true ∧ z.lp.a = none ∧ g.lp.a ≠ none ∧ g.lp.l = 0) ∨ ((isOut z.ty = false ∨ z.lp.a ≠ none) ∧ g.lp.a.isNone = z.lp.a.isNone ∧ g.lp.l = z.lp.l)
  ar : g.ar = z.ar
  lr : g.lr = z.lr
theorem Good.up {W W' : World} {z g : PartV} (h : Good W z g) (hu : Up W W') : Good W' z g :=
  ⟨h.ty, h.tx, h.rf, h.im, or_left h.dt (fun ⟨x, y, a, e, c⟩ => ⟨x, y, a, e, (hu _ _ c).1⟩), h.an, h.lp, h.ar, h.lr⟩
theorem Good.of {G : Nat} {W : World} {z p g : PartV} (sm : Same z p) (ls : Lst G W p g) : Good W z g := by
  refine ⟨ls.ty.trans sm.ty, ls.tx.trans sm.tx, ls.rf.trans sm.rf, ls.im.trans sm.im, ?_, ?_, ?_, ls.ar.trans sm.ar, ls.lr.trans sm.lr⟩
  · have := ls.dt
    rw [sm.ty, sm.dt] at this
    exact or_left this (fun ⟨x, y, a, e, _, c⟩ => ⟨x, y, a, e, c⟩)
  · have e := sm.an
    rcases ls.an with ⟨x, y, u, v⟩ | ⟨x, y⟩
    · exact .inl ⟨sm.ty ▸ x, by rw [y] at e; exact Option.isNone_iff_eq_none.1 e.symm, u, v⟩
    · refine .inr ⟨or_both x (fun h => sm.ty ▸ h) (fun h h' => h (by rw [h'] at e; exact Option.isNone_iff_eq_none.1 e)), by rw [y]; exact e, by rw [y]; exact sm.al⟩
  · have e := sm.lp
    rcases ls.lp with ⟨x, y, u, v⟩ | ⟨x, y⟩
    · exact .inl ⟨sm.ty ▸ x, by rw [y] at e; exact Option.isNone_iff_eq_none.1 e.symm, u, v⟩
    · refine .inr ⟨or_both x (fun h => sm.ty ▸ h) (fun h h' => h (by rw [h'] at e; exact Option.isNone_iff_eq_none.1 e)), by rw [y]; exact e, by rw [y]; exact sm.ll⟩

theorem bool_or (b : Bool) : b = true ∨ b = false := by cases b <;> simp
theorem ne_none {o : Option Addr} (h : o ≠ none) : ∃ a, o = some a := by
  rcases opt_or o with rfl | h'
  · exact absurd rfl h
  · exact h'

theorem zzListedPartOK_good (z g : PartV) (w : World) (h : Good w z g) (oz : PartOk w z) (og : PartOk w g) :
    Calls Try.prog 32 #[.agg #[.string g.ty, .pointer g.tx, .pointer g.rf, .pointer g.im, .pointer g.dt, .slice g.an.a g.an.l g.an.c, .slice g.lp.a g.lp.l g.lp.c], .agg #[.string z.ty, .pointer z.tx, .pointer z.rf, .pointer z.im, .pointer z.dt, .slice z.an.a z.an.l z.an.c, .slice z.lp.a z.lp.l z.lp.c]] w
      fun e w' => e = .returned (.bool true) ∧ Below w.heap.size w w' := by
  obtain ⟨ty, tx, rf, im, dt, ⟨za, zl, zc⟩, ⟨ua, ul, uc⟩, ar, lr⟩ := z
  obtain ⟨gty, gtx, grf, gim, gdt, ⟨ga, gl, gc⟩, ⟨va, vl, vc⟩, gar, glr⟩ := g
  obtain ⟨e1, e2, e3, e4, hd, ha, hb, e5, e6⟩ := h
  simp only at e1 e2 e3 e4 hd ha hb e5 e6
  subst e1 e2 e3 e4 e5 e6
  have pz := oz.an
  have qz := oz.lp
  have pg := og.an
  have qg := og.lp
  simp only at pz qz pg qg ⊢
  rcases bool_or (isImg gty) with hI | hI
  · have hO : isOut gty = false := by
      rcases bool_or (isOut gty) with x | x
      · rw [out_img x] at hI; cases hI
      · exact x
    obtain ⟨-, hn1, rfl⟩ : (isOut gty = false ∨ za ≠ none) ∧ ga.isNone = za.isNone ∧ gl = zl := by
      rcases ha with ⟨x, _⟩ | x
      · rw [hO] at x; cases x
      · exact x
    obtain ⟨-, hn2, rfl⟩ : (isOut gty = false ∨ ua ≠ none) ∧ va.isNone = ua.isNone ∧ vl = ul := by
      rcases hb with ⟨x, _⟩ | x
      · rw [hO] at x; cases x
      · exact x
    rcases hd with ⟨_, rfl, a, rfl, hc⟩ | ⟨hx, rfl⟩
    · exact lpo_img_auto gty gtx grf gim a ga za gl gc zc _ va ua vl vc uc _ w hI hO hc pg pz hn1 qg qz hn2
    · obtain ⟨a, rfl⟩ : ∃ a, gdt = some a := by
        rcases hx with x | x
        · rw [hI] at x; cases x
        · exact ne_none x
      exact lpo_img_some gty gtx grf gim a ga za gl gc zc _ va ua vl vc uc _ w hI hO pg pz hn1 qg qz hn2
  · obtain rfl : gdt = dt := by
      rcases hd with ⟨x, _⟩ | x
      · rw [hI] at x; cases x
      · exact x.2
    rcases bool_or (isOut gty) with hO | hO
    · rcases ha with ⟨_, rfl, x, rfl⟩ | ⟨x, hn1, rfl⟩
      · obtain ⟨a, rfl⟩ := ne_none x
        rcases hb with ⟨_, rfl, y, rfl⟩ | ⟨y, hn2, rfl⟩
        · obtain ⟨b, rfl⟩ := ne_none y
          exact lpo_out_aa gty gtx grf gim gdt a gc zl zc b vc ul uc w hI hO
        · obtain ⟨b, rfl⟩ : ∃ b, ua = some b := by
            rcases y with y | y
            · rw [hO] at y; cases y
            · exact ne_none y
          obtain ⟨b', rfl⟩ : ∃ b', va = some b' := by
            rcases opt_or va with rfl | h'
            · exact absurd hn2 (by simp)
            · exact h'
          exact lpo_out_as gty gtx grf gim gdt a gc zl zc b' b vl vc uc _ w hI hO qg qz
      · obtain ⟨a, rfl⟩ : ∃ a, za = some a := by
          rcases x with x | x
          · rw [hO] at x; cases x
          · exact ne_none x
        obtain ⟨a', rfl⟩ : ∃ a', ga = some a' := by
          rcases opt_or ga with rfl | h'
          · exact absurd hn1 (by simp)
          · exact h'
        rcases hb with ⟨_, rfl, y, rfl⟩ | ⟨y, hn2, rfl⟩
        · obtain ⟨b, rfl⟩ := ne_none y
          exact lpo_out_sa gty gtx grf gim gdt a' a gl gc zc _ b vc ul uc w hI hO pg pz
        · obtain ⟨b, rfl⟩ : ∃ b, ua = some b := by
            rcases y with y | y
            · rw [hO] at y; cases y
            · exact ne_none y
          obtain ⟨b', rfl⟩ : ∃ b', va = some b' := by
            rcases opt_or va with rfl | h'
            · exact absurd hn2 (by simp)
            · exact h'
          exact lpo_out_ss gty gtx grf gim gdt a' a gl gc zc _ b' b vl vc uc _ w hI hO pg pz qg qz
    · obtain ⟨-, hn1, rfl⟩ : (isOut gty = false ∨ za ≠ none) ∧ ga.isNone = za.isNone ∧ gl = zl := by
        rcases ha with ⟨x, _⟩ | x
        · rw [hO] at x; cases x
        · exact x
      obtain ⟨-, hn2, rfl⟩ : (isOut gty = false ∨ ua ≠ none) ∧ va.isNone = ua.isNone ∧ vl = ul := by
        rcases hb with ⟨x, _⟩ | x
        · rw [hO] at x; cases x
        · exact x
      exact lpo_plain gty gtx grf gim gdt ga za gl gc zc _ va ua vl vc uc _ w hI hO pg pz hn1 qg qz hn2

end Go.Proofs.Qxb6616371a
