/-
  zzMessageTextOK OF A MESSAGE's STRING AS LISTED.
-/
import Derived.Test.Qxb6616371aPartsOK
namespace Go.Proofs.Qxb6616371a
open Go.RowKit
set_option linter.unusedVariables false
set_option linter.unusedSimpArgs false

set_option maxRecDepth 100000 in
set_option maxHeartbeats 1000000 in
theorem mto_true (b : Nat) (gv : Nat → PartV) (s : ByteArray) (a : Addr) (x y : Addr) (xc yc : Nat) (w : World) (hr : w.rangeAt b 0 [.string ⟨#[111, 117, 116, 112, 117, 116, 95, 116, 101, 120, 116]⟩, .pointer (some a), .pointer none, .pointer none, .pointer none, .slice (some x) 0 xc, .slice (some y) 0 yc]) (hs : w.cell? a = some (.string s)) :
    Calls Try.prog 18 #[.iface 56 (.slice (some ⟨b, 0, none⟩) 1 1), .string s, .bool true] w fun e w' => e = .returned (.bool true) ∧ Below w.heap.size w w' := by
  have x0 := hr 0 _ rfl
  have x1 := hr 1 _ rfl
  have x2 := hr 2 _ rfl
  have x3 := hr 3 _ rfl
  have x4 := hr 4 _ rfl
  have x5 := hr 5 _ rfl
  have x6 := hr 6 _ rfl
  simp only [Nat.zero_add] at x0 x1 x2 x3 x4 x5 x6
  have Bx := hide (BoxAt.made w [.string ⟨#[111, 117, 116, 112, 117, 116, 95, 116, 101, 120, 116]⟩, .pointer (some a), .pointer none, .pointer none, .pointer none, .slice (some x) 0 xc, .slice (some y) 0 yc] 60)
  have bel := al w (.cells #[.string ⟨#[111, 117, 116, 112, 117, 116, 95, 116, 101, 120, 116]⟩, .pointer (some a), .pointer none, .pointer none, .pointer none, .slice (some x) 0 xc, .slice (some y) 0 yc] 60)
  have hs' := Below.keep bel hs
  have Bel := hide bel
  clear hr bel hs
  go_enter Try.func18, Try.ntmps18
  go_wp2_with fail
  refine (zzPartsOf_any (.parts ⟨some ⟨b, 0, none⟩, 1, 1⟩ gv) _).mono ?_
  rintro e w1 ⟨rfl, hw1⟩
  obtain rfl : w = w1 := hw1.symm
  clear hw1
  simp only [sl_nil, sl_text, sl_parts, isParts_nil, isParts_text, isParts_parts]
  go_upto_region 5 with fail
  generalize w.alloc (.cells #[.string ⟨#[111, 117, 116, 112, 117, 116, 95, 116, 101, 120, 116]⟩, .pointer (some a), .pointer none, .pointer none, .pointer none, .slice (some x) 0 xc, .slice (some y) 0 yc] 60) = W1 at *
  clear x0 x1 x2 x3 x4 x5 x6
  have y0 := (unhide Bx).get 0 _ rfl
  have y1 := (unhide Bx).get 1 _ rfl
  have y2 := (unhide Bx).get 2 _ rfl
  have y3 := (unhide Bx).get 3 _ rfl
  have y4 := (unhide Bx).get 4 _ rfl
  have y5 := (unhide Bx).get 5 _ rfl
  have y6 := (unhide Bx).get 6 _ rfl
  go_wp2_with fail
  go_ret
  exact ⟨rfl, unhide Bel⟩

set_option maxRecDepth 100000 in
set_option maxHeartbeats 1000000 in
theorem mto_false (b : Nat) (gv : Nat → PartV) (s : ByteArray) (a : Addr) (xc yc : Nat) (w : World) (hr : w.rangeAt b 0 [.string ⟨#[105, 110, 112, 117, 116, 95, 116, 101, 120, 116]⟩, .pointer (some a), .pointer none, .pointer none, .pointer none, .slice none 0 xc, .slice none 0 yc]) (hs : w.cell? a = some (.string s)) :
    Calls Try.prog 18 #[.iface 56 (.slice (some ⟨b, 0, none⟩) 1 1), .string s, .bool false] w fun e w' => e = .returned (.bool true) ∧ Below w.heap.size w w' := by
  have x0 := hr 0 _ rfl
  have x1 := hr 1 _ rfl
  have x2 := hr 2 _ rfl
  have x3 := hr 3 _ rfl
  have x4 := hr 4 _ rfl
  have x5 := hr 5 _ rfl
  have x6 := hr 6 _ rfl
  simp only [Nat.zero_add] at x0 x1 x2 x3 x4 x5 x6
  have Bx := hide (BoxAt.made w [.string ⟨#[105, 110, 112, 117, 116, 95, 116, 101, 120, 116]⟩, .pointer (some a), .pointer none, .pointer none, .pointer none, .slice none 0 xc, .slice none 0 yc] 60)
  have bel := al w (.cells #[.string ⟨#[105, 110, 112, 117, 116, 95, 116, 101, 120, 116]⟩, .pointer (some a), .pointer none, .pointer none, .pointer none, .slice none 0 xc, .slice none 0 yc] 60)
  have hs' := Below.keep bel hs
  have Bel := hide bel
  clear hr bel hs
  go_enter Try.func18, Try.ntmps18
  go_wp2_with fail
  refine (zzPartsOf_any (.parts ⟨some ⟨b, 0, none⟩, 1, 1⟩ gv) _).mono ?_
  rintro e w1 ⟨rfl, hw1⟩
  obtain rfl : w = w1 := hw1.symm
  clear hw1
  simp only [sl_nil, sl_text, sl_parts, isParts_nil, isParts_text, isParts_parts]
  go_upto_region 5 with fail
  generalize w.alloc (.cells #[.string ⟨#[105, 110, 112, 117, 116, 95, 116, 101, 120, 116]⟩, .pointer (some a), .pointer none, .pointer none, .pointer none, .slice none 0 xc, .slice none 0 yc] 60) = W1 at *
  clear x0 x1 x2 x3 x4 x5 x6
  have y0 := (unhide Bx).get 0 _ rfl
  have y1 := (unhide Bx).get 1 _ rfl
  have y2 := (unhide Bx).get 2 _ rfl
  have y3 := (unhide Bx).get 3 _ rfl
  have y4 := (unhide Bx).get 4 _ rfl
  have y5 := (unhide Bx).get 5 _ rfl
  have y6 := (unhide Bx).get 6 _ rfl
  go_wp2_with fail
  go_ret
  exact ⟨rfl, unhide Bel⟩


/-- The one part of a message's string, listed. -/
structure MsgPart (W : World) (s : ByteArray) (asst : Bool) (g : PartV) : Prop where
  ty : g.ty = bif asst then outB else inB
  tx : ∃ a, g.tx = some a ∧ W.cell? a = some (.string s)
  rf : g.rf = none
  im : g.im = none
  dt : g.dt = none
  an : (asst = true ∧ g.an.a ≠ none ∧ g.an.l = 0) ∨ (asst = false ∧ g.an = ⟨none, 0, 0⟩)
  lp : (asst = true ∧ g.lp.a ≠ none ∧ g.lp.l = 0) ∨ (asst = false ∧ g.lp = ⟨none, 0, 0⟩)
theorem isOut_out : isOut outB = true := by kernel_rfl
theorem isOut_in : isOut inB = false := by kernel_rfl
theorem isImg_out : isImg outB = false := by kernel_rfl
theorem isImg_in : isImg inB = false := by kernel_rfl
theorem MsgPart.up {W W' : World} {s : ByteArray} {asst : Bool} {g : PartV} (h : MsgPart W s asst g) (hu : Up W W') : MsgPart W' s asst g :=
  ⟨h.ty, let ⟨a, e, c⟩ := h.tx; ⟨a, e, (hu _ _ c).1⟩, h.rf, h.im, h.dt, h.an, h.lp⟩
theorem MsgPart.of {G : Nat} {W : World} {s : ByteArray} {asst : Bool} {p g : PartV} (o : One W s asst p) (ls : Lst G W p g) : MsgPart W s asst g := by
  have hI : isImg p.ty = false := by rw [o.ty]; cases asst; exact isImg_in; exact isImg_out
  refine ⟨ls.ty.trans o.ty, let ⟨a, e, c⟩ := o.tx; ⟨a, ls.tx.trans e, c⟩, ls.rf.trans o.rf, ls.im.trans o.im, ?_, ?_, ?_⟩
  · rcases ls.dt with ⟨x, _⟩ | ⟨_, x⟩
    · rw [hI] at x; cases x
    · exact x.trans o.dt
  · cases asst with
    | true =>
      have hO : isOut p.ty = true := by rw [o.ty]; exact isOut_out
      rcases ls.an with ⟨_, _, x, y⟩ | ⟨x, _⟩
      · exact .inl ⟨rfl, x, y⟩
      · rcases x with x | x
        · rw [hO] at x; cases x
        · exact absurd (by rw [o.an]) x
    | false =>
      have hO : isOut p.ty = false := by rw [o.ty]; exact isOut_in
      rcases ls.an with ⟨x, _⟩ | ⟨_, x⟩
      · rw [hO] at x; cases x
      · exact .inr ⟨rfl, x.trans o.an⟩
  · cases asst with
    | true =>
      have hO : isOut p.ty = true := by rw [o.ty]; exact isOut_out
      rcases ls.lp with ⟨_, _, x, y⟩ | ⟨x, _⟩
      · exact .inl ⟨rfl, x, y⟩
      · rcases x with x | x
        · rw [hO] at x; cases x
        · exact absurd (by rw [o.lp]) x
    | false =>
      have hO : isOut p.ty = false := by rw [o.ty]; exact isOut_in
      rcases ls.lp with ⟨x, _⟩ | ⟨_, x⟩
      · rw [hO] at x; cases x
      · exact .inr ⟨rfl, x.trans o.lp⟩

theorem zzMessageTextOK_good (b : Nat) (gv : Nat → PartV) (s : ByteArray) (asst : Bool) (w : World) (hg : PartsAt w ⟨some ⟨b, 0, none⟩, 1, 1⟩ gv) (m : MsgPart w s asst (gv 0)) :
    Calls Try.prog 18 #[.iface 56 (.slice (some ⟨b, 0, none⟩) 1 1), .string s, .bool asst] w fun e w' => e = .returned (.bool true) ∧ Below w.heap.size w w' := by
  obtain ⟨b0, off0, eb, hr, -⟩ := hg.2 0 (by show 0 < 1; omega)
  obtain ⟨rfl, rfl⟩ : b = b0 ∧ 0 = off0 := by simpa using eb
  rw [Nat.zero_mul] at hr
  generalize hg0 : gv 0 = g at hr m
  clear hg0
  obtain ⟨gty, gtx, grf, gim, gdt, ⟨ga, gl, gc⟩, ⟨va, vl, vc⟩, gar, glr⟩ := g
  obtain ⟨e1, ⟨a, e2, hc⟩, e3, e4, e5, ha, hb⟩ := m
  simp only at e1 e2 e3 e4 e5 ha hb
  subst e1 e2 e3 e4 e5
  cases asst with
  | true =>
    obtain ⟨⟨x, rfl⟩, rfl⟩ : (∃ x, ga = some x) ∧ gl = 0 := by
      rcases ha with ⟨_, x, y⟩ | ⟨x, _⟩
      · exact ⟨ne_none x, y⟩
      · cases x
    obtain ⟨⟨y, rfl⟩, rfl⟩ : (∃ y, va = some y) ∧ vl = 0 := by
      rcases hb with ⟨_, x, y⟩ | ⟨x, _⟩
      · exact ⟨ne_none x, y⟩
      · cases x
    exact mto_true b gv s a x y gc vc w hr hc
  | false =>
    obtain ⟨rfl, rfl⟩ : ga = none ∧ gl = 0 := by
      rcases ha with ⟨x, _⟩ | ⟨_, x⟩
      · cases x
      · simp at x; exact ⟨x.1, x.2.1⟩
    obtain ⟨rfl, rfl⟩ : va = none ∧ vl = 0 := by
      rcases hb with ⟨x, _⟩ | ⟨_, x⟩
      · cases x
      · simp at x; exact ⟨x.1, x.2.1⟩
    exact mto_false b gv s a gc vc w hr hc

end Go.Proofs.Qxb6616371a
