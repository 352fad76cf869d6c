/-
  listedParts, IN GENERAL: a list of parts is listed in a list of its own.
-/
import Derived.Test.Qxb6616371aItem
import Derived.Test.Qxb6616371aListedNil
namespace Go.Proofs.Qxb6616371a
open Go.RowKit
set_option linter.unusedVariables false

def isOut (t : ByteArray) : Bool := t.toList == [111, 117, 116, 112, 117, 116, 95, 116, 101, 120, 116]
def isImg (t : ByteArray) : Bool := t.toList == [105, 110, 112, 117, 116, 95, 105, 109, 97, 103, 101]
def autoB : ByteArray := ⟨#[97, 117, 116, 111]⟩
theorem out_img {t : ByteArray} (h : isOut t = true) : isImg t = false := by
  simp only [isOut, isImg, beq_iff_eq] at h ⊢
  rw [h]; rfl

theorem or_left {p q r : Prop} (h : p ∨ r) (f : p → q) : q ∨ r := by
  rcases h with h | h
  · exact .inl (f h)
  · exact .inr h

/-- q is the part p as Listed gives it; what was made for it lies in blocks newer than G. -/
structure Lst (G : Nat) (W : World) (p q : PartV) : Prop where
  ty : q.ty = p.ty
  tx : q.tx = p.tx
  rf : q.rf = p.rf
  im : q.im = p.im
  dt : (isImg p.ty = true ∧ p.dt = none ∧ ∃ a, q.dt = some a ∧ G < a.block ∧ W.cell? a = some (.string autoB)) ∨ ((isImg p.ty = false ∨ p.dt ≠ none) ∧ q.dt = p.dt)
  an : (isOut p.ty = true ∧ p.an.a = none ∧ q.an.a ≠ none ∧ q.an.l = 0) ∨ ((isOut p.ty = false ∨ p.an.a ≠ none) ∧ q.an = p.an)
  lp : (isOut p.ty = true ∧ p.lp.a = none ∧ q.lp.a ≠ none ∧ q.lp.l = 0) ∨ ((isOut p.ty = false ∨ p.lp.a ≠ none) ∧ q.lp = p.lp)
  ar : q.ar = p.ar
  lr : q.lr = p.lr

theorem Lst.up {G : Nat} {W W' : World} {p q : PartV} (h : Lst G W p q) (hu : Up W W') : Lst G W' p q :=
  ⟨h.ty, h.tx, h.rf, h.im, or_left h.dt (fun ⟨x, y, a, e, l, c⟩ => ⟨x, y, a, e, l, (hu _ _ c).1⟩), h.an, h.lp, h.ar, h.lr⟩
theorem Lst.put {G : Nat} {W : World} {p q : PartV} (h : Lst G W p q) (o : Nat) (v : Value) : Lst G (W.setCell ⟨G, o, none⟩ v) p q :=
  ⟨h.ty, h.tx, h.rf, h.im, or_left h.dt (fun ⟨x, y, a, e, l, c⟩ => ⟨x, y, a, e, l, by rw [World.cell?_setCell_other _ _ _ _ (fun t => by have := congrArg Addr.block t; simp at this; omega)]; exact c⟩), h.an, h.lp, h.ar, h.lr⟩
theorem Lst.puts {G : Nat} {p q : PartV} : ∀ (vs : List Value) (o : Nat) {W : World}, Lst G W p q → Lst G (W.setCells G o vs) p q
  | [], _, _, h => h
  | v :: r, o, W, h => Lst.puts r (o + 1) (h.put o v)
theorem Lst.hole {G : Nat} {W : World} {p q : PartV} (h : Lst G W p q) {S : Nat → Prop} [DecidablePred S] (hS : ∀ b, S b → b ≤ G) : Lst G (hole W S) p q :=
  ⟨h.ty, h.tx, h.rf, h.im, or_left h.dt (fun ⟨x, y, a, e, l, c⟩ => ⟨x, y, a, e, l, by rw [hole_ne (fun t => by have := hS _ t; omega)]; exact c⟩), h.an, h.lp, h.ar, h.lr⟩

theorem PartOk.listed {G : Nat} {w W : World} {p q : PartV} (ok : PartOk w p) (ls : Lst G W p q) (up : Up w W) : PartOk W q := by
  refine ⟨by rw [ls.ty]; exact ok.ty, by rw [ls.tx]; exact ok.tx.up up, by rw [ls.rf]; exact ok.rf.up up, by rw [ls.im]; exact ok.im.up up, ?_, ?_, ?_⟩
  · rcases ls.dt with ⟨_, _, a, e, _, c⟩ | ⟨_, e⟩
    · intro a' e'
      rw [e] at e'
      obtain rfl : a = a' := by simpa using e'
      exact ⟨autoB, c, by decide⟩
    · rw [e]; exact ok.dt.up up
  · rcases ls.an with ⟨_, _, _, e⟩ | ⟨_, e⟩
    · exact ⟨by rw [e]; exact Nat.zero_le _, fun i hi => absurd hi (by rw [e]; exact Nat.not_lt_zero _)⟩
    · rw [e, ls.ar]; exact ok.an.up up
  · rcases ls.lp with ⟨_, _, _, e⟩ | ⟨_, e⟩
    · exact ⟨by rw [e]; exact Nat.zero_le _, fun i hi => absurd hi (by rw [e]; exact Nat.not_lt_zero _)⟩
    · rw [e, ls.lr]; exact ok.lp.up up

theorem make56 (n : Nat) (hn : n ≤ 1048576) (w : World) : (Instr.makeSlice 56 (.int .i64 (n : Int)) (.int .i64 (n : Int))).run Try.prog w = .ok (.slice (some ⟨w.heap.size, 0, none⟩) n n) (w.alloc (.cells (madeCells #[.string ⟨#[]⟩, .pointer none, .pointer none, .pointer none, .pointer none, .slice none 0 0, .slice none 0 0] (n * 7)) 60)) := by
  obtain ⟨i, hi, hz0, hz1, hz2⟩ := info_parts info60
  have := run_make (P := Try.prog) w 56 60 i _ (by kernel_rfl) hi hz0 .i64 .i64 n n (by omega) (by omega) (by rw [hz2]; omega) (by omega)
  rw [this, hz1]
  simp [Value.cells]

theorem al (W : World) (o : Obj) : Below W.heap.size W (W.alloc o) := (Below.refl _ _).alloc (Nat.le_refl _) _

/-- What holds of the parts listed so far. -/
def Did (G : Nat) (W : World) (pv qv : Nat → PartV) (k : Nat) : Prop := ∀ i, i < k → Lst G W (pv i) (qv i)
theorem did_next {G : Nat} {W W' : World} {pv qv : Nat → PartV} {k : Nat} (h : Did G W pv qv k) (up : Up W W') (q : PartV) (hq : Lst G W' (pv k) q) (vs : List Value) (o : Nat) :
    Did G (W'.setCells G o vs) pv (fun i => if i = k then q else qv i) (k + 1) := fun i hi => by
  by_cases e : i = k
  · subst e; simp only [if_true]; exact hq.puts vs o
  · simp only [if_neg e]
    exact ((h i (by omega)).up up).puts vs o

set_option maxRecDepth 100000 in
set_option maxHeartbeats 2000000 in
theorem listedParts_list (sa : Option Addr) (l c : Nat) (pv : Nat → PartV) (w : World) (hp : PartsAt w ⟨sa, l, c⟩ pv) (fl : l ≤ 1048576) :
    Calls Try.prog 22 #[.iface 56 (.slice sa l c)] w fun e w' => ∃ (G : Nat) (qv : Nat → PartV), e = .returned (.iface 56 (.slice (some ⟨G, 0, none⟩) l l)) ∧ w.heap.size ≤ G ∧ PartsAt w' ⟨some ⟨G, 0, none⟩, l, l⟩ qv ∧ (∀ i, i < l → Lst G w' (pv i) (qv i)) ∧
      (∀ (S : Nat → Prop) [DecidablePred S], (∀ b, S b → b < w.heap.size) → PartsAt (hole w S) ⟨sa, l, c⟩ pv → PartsAt (hole w' S) ⟨some ⟨G, 0, none⟩, l, l⟩ qv) ∧ Below w.heap.size w w' := by
  have Hp := hide hp
  clear hp
  have hmk := make56 l fl
  generalize hz : madeCells #[.string ⟨#[]⟩, .pointer none, .pointer none, .pointer none, .pointer none, .slice none 0 0, .slice none 0 0] (l * 7) = z at hmk
  have rows : RowsAt (w.alloc (.cells z 60)) w.heap.size l 7 (Laid pv 0) := by
    rw [← hz]; exact RowsAt.made w zero7 l 7 60 rfl (by omega)
  have bel : Below w.heap.size w (w.alloc (.cells z 60)) := (Below.refl _ _).alloc (Nat.le_refl _) _
  clear hz
  go_enter Try.func22, Try.ntmps22
  go_wp2_with fail
  generalize w.alloc (.cells z 60) = W1 at *
  clear hmk
  go_loopw [22] (fun i wr => ∃ (k : Nat) (qv : Nat → PartV), k ≤ l ∧ i = .int .i64 k ∧ Below w.heap.size w wr ∧ RowsAt wr w.heap.size l 7 (Laid qv k) ∧ Hid (Did w.heap.size wr pv qv k)) (fun i _ => l - (intOf i).toNat)
  case atStart => exact ⟨0, pv, Nat.zero_le _, rfl, bel, rows, fun i hi => absurd hi (by omega)⟩
  case round =>
    clear bel rows
    obtain ⟨k, qv, hk, rfl, bel, rows, Hd⟩ := hrel
    by_cases hlt : k < l
    · have hlt' : (k : Int) < l := by omega
      obtain ⟨b, off, ea, hc, hy⟩ := ((unhide Hp).step bel).2 k hlt
      simp only at ea
      subst ea
      generalize hpk : pv k = p at hc hy
      have Hpk := hide hpk
      obtain ⟨ty, tx, rf, im, dt, ⟨ana, anl, anc⟩, ⟨lpa, lpl, lpc⟩, ar, lr⟩ := p
      obtain ⟨x0, x1, x2, x3, x4, x5, x6⟩ := part_cells hc
      simp only at x5 x6
      clear hpk hc
      have hG : w.heap.size < wr.heap.size := rows.size
      have hrow : Laid qv k k = zero7 := by simp [Laid]
      have rk := rows.rows k hlt
      rw [hrow] at rk
      have y0 := rk 0 _ rfl
      have y1 := rk 1 _ rfl
      have y2 := rk 2 _ rfl
      have y3 := rk 3 _ rfl
      have y4 := rk 4 _ rfl
      have y5 := rk 5 _ rfl
      have y6 := rk 6 _ rfl
      rw [Nat.add_zero] at y0
      clear hrow rk
      have Bel := hide bel
      have Rows := hide rows
      clear bel rows hy
      by_cases hO : (ty.toList == [111, 117, 116, 112, 117, 116, 95, 116, 101, 120, 116]) = true
      · rcases opt_or ana with rfl | ⟨aa, rfl⟩
        · rcases opt_or lpa with rfl | ⟨la, rfl⟩
          · skip
            have bx : BoxAt (((wr.alloc (.cells #[.string ty, .pointer tx, .pointer rf, .pointer im, .pointer dt, .slice (some ⟨wr.heap.size + 1, 0, none⟩) 0 0, .slice (some ⟨wr.heap.size + 1 + 1, 0, none⟩) 0 0] 60)).alloc (.cells #[] 99)).alloc (.cells #[] 99)) wr.heap.size [.string ty, .pointer tx, .pointer rf, .pointer im, .pointer dt, .slice (some ⟨wr.heap.size + 1, 0, none⟩) 0 0, .slice (some ⟨wr.heap.size + 1 + 1, 0, none⟩) 0 0] := ((BoxAt.made wr [.string ty, .pointer tx, .pointer rf, .pointer im, .pointer dt, .slice (some ⟨wr.heap.size + 1, 0, none⟩) 0 0, .slice (some ⟨wr.heap.size + 1 + 1, 0, none⟩) 0 0] 60).step (al _ _)).step (al _ _)
            have bw : Below wr.heap.size wr (((wr.alloc (.cells #[.string ty, .pointer tx, .pointer rf, .pointer im, .pointer dt, .slice (some ⟨wr.heap.size + 1, 0, none⟩) 0 0, .slice (some ⟨wr.heap.size + 1 + 1, 0, none⟩) 0 0] 60)).alloc (.cells #[] 99)).alloc (.cells #[] 99)) := ((((al _ _).trans ((al _ _).mono (by simp)))).trans ((al _ _).mono (by simp; omega)))
            go_upto_region 18 with fail
            have lst : Lst w.heap.size (((wr.alloc (.cells #[.string ty, .pointer tx, .pointer rf, .pointer im, .pointer dt, .slice (some ⟨wr.heap.size + 1, 0, none⟩) 0 0, .slice (some ⟨wr.heap.size + 1 + 1, 0, none⟩) 0 0] 60)).alloc (.cells #[] 99)).alloc (.cells #[] 99)) ⟨ty, tx, rf, im, dt, ⟨none, anl, anc⟩, ⟨none, lpl, lpc⟩, ar, lr⟩ ⟨ty, tx, rf, im, dt, ⟨some ⟨wr.heap.size + 1, 0, none⟩, 0, 0⟩, ⟨some ⟨wr.heap.size + 1 + 1, 0, none⟩, 0, 0⟩, ar, lr⟩ := ⟨rfl, rfl, rfl, rfl, .inr ⟨.inl (out_img hO), rfl⟩, .inl ⟨hO, rfl, by simp, rfl⟩, .inl ⟨hO, rfl, by simp, rfl⟩, rfl, rfl⟩
            generalize ((wr.alloc (.cells #[.string ty, .pointer tx, .pointer rf, .pointer im, .pointer dt, .slice (some ⟨wr.heap.size + 1, 0, none⟩) 0 0, .slice (some ⟨wr.heap.size + 1 + 1, 0, none⟩) 0 0] 60)).alloc (.cells #[] 99)).alloc (.cells #[] 99) = W2 at *
            have b0 := bx.get 0 _ rfl
            have b1 := bx.get 1 _ rfl
            have b2 := bx.get 2 _ rfl
            have b3 := bx.get 3 _ rfl
            have b4 := bx.get 4 _ rfl
            have b5 := bx.get 5 _ rfl
            have b6 := bx.get 6 _ rfl
            have rows2 := (unhide Rows).step bw
            have g0 := rows2.free (k * 7)
            have g1 := rows2.free (k * 7 + 1)
            have g2 := rows2.free (k * 7 + 2)
            have g3 := rows2.free (k * 7 + 3)
            have g4 := rows2.free (k * 7 + 4)
            have g5 := rows2.free (k * 7 + 5)
            have g6 := rows2.free (k * 7 + 6)
            replace y0 := Below.keep bw y0
            replace y1 := Below.keep bw y1
            replace y2 := Below.keep bw y2
            replace y3 := Below.keep bw y3
            replace y4 := Below.keep bw y4
            replace y5 := Below.keep bw y5
            replace y6 := Below.keep bw y6
            have Lst' := hide lst
            have Rows2 := hide rows2
            have Bw := hide bw
            clear bx bw lst rows2 x0 x1 x2 x3 x4 x5 x6 
            go_wp2_with fail
            go_roundw
            case rel =>
              refine ⟨k + 1, (fun i => if i = k then ⟨ty, tx, rf, im, dt, ⟨some ⟨wr.heap.size + 1, 0, none⟩, 0, 0⟩, ⟨some ⟨wr.heap.size + 1 + 1, 0, none⟩, 0, 0⟩, ar, lr⟩ else qv i), by omega, by go_num, ?_, ?_, ?_⟩
              · exact below_puts (Nat.le_refl _) (PartV.cells ⟨ty, tx, rf, im, dt, ⟨some ⟨wr.heap.size + 1, 0, none⟩, 0, 0⟩, ⟨some ⟨wr.heap.size + 1 + 1, 0, none⟩, 0, 0⟩, ar, lr⟩) (k * 7) ((unhide Bel).trans ((unhide Bw).mono (unhide Bel).size))
              · exact laid_next (unhide Rows2) hlt ⟨ty, tx, rf, im, dt, ⟨some ⟨wr.heap.size + 1, 0, none⟩, 0, 0⟩, ⟨some ⟨wr.heap.size + 1 + 1, 0, none⟩, 0, 0⟩, ar, lr⟩
              · exact hide (did_next (unhide Hd) (up_below (unhide Bw)) ⟨ty, tx, rf, im, dt, ⟨some ⟨wr.heap.size + 1, 0, none⟩, 0, 0⟩, ⟨some ⟨wr.heap.size + 1 + 1, 0, none⟩, 0, 0⟩, ar, lr⟩ (by rw [unhide Hpk]; exact unhide Lst') (PartV.cells ⟨ty, tx, rf, im, dt, ⟨some ⟨wr.heap.size + 1, 0, none⟩, 0, 0⟩, ⟨some ⟨wr.heap.size + 1 + 1, 0, none⟩, 0, 0⟩, ar, lr⟩) (k * 7))
            case measure => simp [intOf]; omega

          · skip
            have bx : BoxAt ((wr.alloc (.cells #[.string ty, .pointer tx, .pointer rf, .pointer im, .pointer dt, .slice (some ⟨wr.heap.size + 1, 0, none⟩) 0 0, .slice (some la) lpl lpc] 60)).alloc (.cells #[] 99)) wr.heap.size [.string ty, .pointer tx, .pointer rf, .pointer im, .pointer dt, .slice (some ⟨wr.heap.size + 1, 0, none⟩) 0 0, .slice (some la) lpl lpc] := (BoxAt.made wr [.string ty, .pointer tx, .pointer rf, .pointer im, .pointer dt, .slice (some ⟨wr.heap.size + 1, 0, none⟩) 0 0, .slice (some la) lpl lpc] 60).step (al _ _)
            have bw : Below wr.heap.size wr ((wr.alloc (.cells #[.string ty, .pointer tx, .pointer rf, .pointer im, .pointer dt, .slice (some ⟨wr.heap.size + 1, 0, none⟩) 0 0, .slice (some la) lpl lpc] 60)).alloc (.cells #[] 99)) := ((al _ _).trans ((al _ _).mono (by simp)))
            go_upto_region 18 with fail
            have lst : Lst w.heap.size ((wr.alloc (.cells #[.string ty, .pointer tx, .pointer rf, .pointer im, .pointer dt, .slice (some ⟨wr.heap.size + 1, 0, none⟩) 0 0, .slice (some la) lpl lpc] 60)).alloc (.cells #[] 99)) ⟨ty, tx, rf, im, dt, ⟨none, anl, anc⟩, ⟨(some la), lpl, lpc⟩, ar, lr⟩ ⟨ty, tx, rf, im, dt, ⟨some ⟨wr.heap.size + 1, 0, none⟩, 0, 0⟩, ⟨(some la), lpl, lpc⟩, ar, lr⟩ := ⟨rfl, rfl, rfl, rfl, .inr ⟨.inl (out_img hO), rfl⟩, .inl ⟨hO, rfl, by simp, rfl⟩, .inr ⟨.inr (by simp), rfl⟩, rfl, rfl⟩
            generalize (wr.alloc (.cells #[.string ty, .pointer tx, .pointer rf, .pointer im, .pointer dt, .slice (some ⟨wr.heap.size + 1, 0, none⟩) 0 0, .slice (some la) lpl lpc] 60)).alloc (.cells #[] 99) = W2 at *
            have b0 := bx.get 0 _ rfl
            have b1 := bx.get 1 _ rfl
            have b2 := bx.get 2 _ rfl
            have b3 := bx.get 3 _ rfl
            have b4 := bx.get 4 _ rfl
            have b5 := bx.get 5 _ rfl
            have b6 := bx.get 6 _ rfl
            have rows2 := (unhide Rows).step bw
            have g0 := rows2.free (k * 7)
            have g1 := rows2.free (k * 7 + 1)
            have g2 := rows2.free (k * 7 + 2)
            have g3 := rows2.free (k * 7 + 3)
            have g4 := rows2.free (k * 7 + 4)
            have g5 := rows2.free (k * 7 + 5)
            have g6 := rows2.free (k * 7 + 6)
            replace y0 := Below.keep bw y0
            replace y1 := Below.keep bw y1
            replace y2 := Below.keep bw y2
            replace y3 := Below.keep bw y3
            replace y4 := Below.keep bw y4
            replace y5 := Below.keep bw y5
            replace y6 := Below.keep bw y6
            have Lst' := hide lst
            have Rows2 := hide rows2
            have Bw := hide bw
            clear bx bw lst rows2 x0 x1 x2 x3 x4 x5 x6 
            go_wp2_with fail
            go_roundw
            case rel =>
              refine ⟨k + 1, (fun i => if i = k then ⟨ty, tx, rf, im, dt, ⟨some ⟨wr.heap.size + 1, 0, none⟩, 0, 0⟩, ⟨(some la), lpl, lpc⟩, ar, lr⟩ else qv i), by omega, by go_num, ?_, ?_, ?_⟩
              · exact below_puts (Nat.le_refl _) (PartV.cells ⟨ty, tx, rf, im, dt, ⟨some ⟨wr.heap.size + 1, 0, none⟩, 0, 0⟩, ⟨(some la), lpl, lpc⟩, ar, lr⟩) (k * 7) ((unhide Bel).trans ((unhide Bw).mono (unhide Bel).size))
              · exact laid_next (unhide Rows2) hlt ⟨ty, tx, rf, im, dt, ⟨some ⟨wr.heap.size + 1, 0, none⟩, 0, 0⟩, ⟨(some la), lpl, lpc⟩, ar, lr⟩
              · exact hide (did_next (unhide Hd) (up_below (unhide Bw)) ⟨ty, tx, rf, im, dt, ⟨some ⟨wr.heap.size + 1, 0, none⟩, 0, 0⟩, ⟨(some la), lpl, lpc⟩, ar, lr⟩ (by rw [unhide Hpk]; exact unhide Lst') (PartV.cells ⟨ty, tx, rf, im, dt, ⟨some ⟨wr.heap.size + 1, 0, none⟩, 0, 0⟩, ⟨(some la), lpl, lpc⟩, ar, lr⟩) (k * 7))
            case measure => simp [intOf]; omega

        · rcases opt_or lpa with rfl | ⟨la, rfl⟩
          · skip
            have bx : BoxAt ((wr.alloc (.cells #[.string ty, .pointer tx, .pointer rf, .pointer im, .pointer dt, .slice (some aa) anl anc, .slice (some ⟨wr.heap.size + 1, 0, none⟩) 0 0] 60)).alloc (.cells #[] 99)) wr.heap.size [.string ty, .pointer tx, .pointer rf, .pointer im, .pointer dt, .slice (some aa) anl anc, .slice (some ⟨wr.heap.size + 1, 0, none⟩) 0 0] := (BoxAt.made wr [.string ty, .pointer tx, .pointer rf, .pointer im, .pointer dt, .slice (some aa) anl anc, .slice (some ⟨wr.heap.size + 1, 0, none⟩) 0 0] 60).step (al _ _)
            have bw : Below wr.heap.size wr ((wr.alloc (.cells #[.string ty, .pointer tx, .pointer rf, .pointer im, .pointer dt, .slice (some aa) anl anc, .slice (some ⟨wr.heap.size + 1, 0, none⟩) 0 0] 60)).alloc (.cells #[] 99)) := ((al _ _).trans ((al _ _).mono (by simp)))
            go_upto_region 18 with fail
            have lst : Lst w.heap.size ((wr.alloc (.cells #[.string ty, .pointer tx, .pointer rf, .pointer im, .pointer dt, .slice (some aa) anl anc, .slice (some ⟨wr.heap.size + 1, 0, none⟩) 0 0] 60)).alloc (.cells #[] 99)) ⟨ty, tx, rf, im, dt, ⟨(some aa), anl, anc⟩, ⟨none, lpl, lpc⟩, ar, lr⟩ ⟨ty, tx, rf, im, dt, ⟨(some aa), anl, anc⟩, ⟨some ⟨wr.heap.size + 1, 0, none⟩, 0, 0⟩, ar, lr⟩ := ⟨rfl, rfl, rfl, rfl, .inr ⟨.inl (out_img hO), rfl⟩, .inr ⟨.inr (by simp), rfl⟩, .inl ⟨hO, rfl, by simp, rfl⟩, rfl, rfl⟩
            generalize (wr.alloc (.cells #[.string ty, .pointer tx, .pointer rf, .pointer im, .pointer dt, .slice (some aa) anl anc, .slice (some ⟨wr.heap.size + 1, 0, none⟩) 0 0] 60)).alloc (.cells #[] 99) = W2 at *
            have b0 := bx.get 0 _ rfl
            have b1 := bx.get 1 _ rfl
            have b2 := bx.get 2 _ rfl
            have b3 := bx.get 3 _ rfl
            have b4 := bx.get 4 _ rfl
            have b5 := bx.get 5 _ rfl
            have b6 := bx.get 6 _ rfl
            have rows2 := (unhide Rows).step bw
            have g0 := rows2.free (k * 7)
            have g1 := rows2.free (k * 7 + 1)
            have g2 := rows2.free (k * 7 + 2)
            have g3 := rows2.free (k * 7 + 3)
            have g4 := rows2.free (k * 7 + 4)
            have g5 := rows2.free (k * 7 + 5)
            have g6 := rows2.free (k * 7 + 6)
            replace y0 := Below.keep bw y0
            replace y1 := Below.keep bw y1
            replace y2 := Below.keep bw y2
            replace y3 := Below.keep bw y3
            replace y4 := Below.keep bw y4
            replace y5 := Below.keep bw y5
            replace y6 := Below.keep bw y6
            have Lst' := hide lst
            have Rows2 := hide rows2
            have Bw := hide bw
            clear bx bw lst rows2 x0 x1 x2 x3 x4 x5 x6 
            go_wp2_with fail
            go_roundw
            case rel =>
              refine ⟨k + 1, (fun i => if i = k then ⟨ty, tx, rf, im, dt, ⟨(some aa), anl, anc⟩, ⟨some ⟨wr.heap.size + 1, 0, none⟩, 0, 0⟩, ar, lr⟩ else qv i), by omega, by go_num, ?_, ?_, ?_⟩
              · exact below_puts (Nat.le_refl _) (PartV.cells ⟨ty, tx, rf, im, dt, ⟨(some aa), anl, anc⟩, ⟨some ⟨wr.heap.size + 1, 0, none⟩, 0, 0⟩, ar, lr⟩) (k * 7) ((unhide Bel).trans ((unhide Bw).mono (unhide Bel).size))
              · exact laid_next (unhide Rows2) hlt ⟨ty, tx, rf, im, dt, ⟨(some aa), anl, anc⟩, ⟨some ⟨wr.heap.size + 1, 0, none⟩, 0, 0⟩, ar, lr⟩
              · exact hide (did_next (unhide Hd) (up_below (unhide Bw)) ⟨ty, tx, rf, im, dt, ⟨(some aa), anl, anc⟩, ⟨some ⟨wr.heap.size + 1, 0, none⟩, 0, 0⟩, ar, lr⟩ (by rw [unhide Hpk]; exact unhide Lst') (PartV.cells ⟨ty, tx, rf, im, dt, ⟨(some aa), anl, anc⟩, ⟨some ⟨wr.heap.size + 1, 0, none⟩, 0, 0⟩, ar, lr⟩) (k * 7))
            case measure => simp [intOf]; omega

          · skip
            have bx : BoxAt (wr.alloc (.cells #[.string ty, .pointer tx, .pointer rf, .pointer im, .pointer dt, .slice (some aa) anl anc, .slice (some la) lpl lpc] 60)) wr.heap.size [.string ty, .pointer tx, .pointer rf, .pointer im, .pointer dt, .slice (some aa) anl anc, .slice (some la) lpl lpc] := BoxAt.made wr [.string ty, .pointer tx, .pointer rf, .pointer im, .pointer dt, .slice (some aa) anl anc, .slice (some la) lpl lpc] 60
            have bw : Below wr.heap.size wr (wr.alloc (.cells #[.string ty, .pointer tx, .pointer rf, .pointer im, .pointer dt, .slice (some aa) anl anc, .slice (some la) lpl lpc] 60)) := al _ _
            go_upto_region 18 with fail
            have lst : Lst w.heap.size (wr.alloc (.cells #[.string ty, .pointer tx, .pointer rf, .pointer im, .pointer dt, .slice (some aa) anl anc, .slice (some la) lpl lpc] 60)) ⟨ty, tx, rf, im, dt, ⟨(some aa), anl, anc⟩, ⟨(some la), lpl, lpc⟩, ar, lr⟩ ⟨ty, tx, rf, im, dt, ⟨(some aa), anl, anc⟩, ⟨(some la), lpl, lpc⟩, ar, lr⟩ := ⟨rfl, rfl, rfl, rfl, .inr ⟨.inl (out_img hO), rfl⟩, .inr ⟨.inr (by simp), rfl⟩, .inr ⟨.inr (by simp), rfl⟩, rfl, rfl⟩
            generalize wr.alloc (.cells #[.string ty, .pointer tx, .pointer rf, .pointer im, .pointer dt, .slice (some aa) anl anc, .slice (some la) lpl lpc] 60) = W2 at *
            have b0 := bx.get 0 _ rfl
            have b1 := bx.get 1 _ rfl
            have b2 := bx.get 2 _ rfl
            have b3 := bx.get 3 _ rfl
            have b4 := bx.get 4 _ rfl
            have b5 := bx.get 5 _ rfl
            have b6 := bx.get 6 _ rfl
            have rows2 := (unhide Rows).step bw
            have g0 := rows2.free (k * 7)
            have g1 := rows2.free (k * 7 + 1)
            have g2 := rows2.free (k * 7 + 2)
            have g3 := rows2.free (k * 7 + 3)
            have g4 := rows2.free (k * 7 + 4)
            have g5 := rows2.free (k * 7 + 5)
            have g6 := rows2.free (k * 7 + 6)
            replace y0 := Below.keep bw y0
            replace y1 := Below.keep bw y1
            replace y2 := Below.keep bw y2
            replace y3 := Below.keep bw y3
            replace y4 := Below.keep bw y4
            replace y5 := Below.keep bw y5
            replace y6 := Below.keep bw y6
            have Lst' := hide lst
            have Rows2 := hide rows2
            have Bw := hide bw
            clear bx bw lst rows2 x0 x1 x2 x3 x4 x5 x6 
            go_wp2_with fail
            go_roundw
            case rel =>
              refine ⟨k + 1, (fun i => if i = k then ⟨ty, tx, rf, im, dt, ⟨(some aa), anl, anc⟩, ⟨(some la), lpl, lpc⟩, ar, lr⟩ else qv i), by omega, by go_num, ?_, ?_, ?_⟩
              · exact below_puts (Nat.le_refl _) (PartV.cells ⟨ty, tx, rf, im, dt, ⟨(some aa), anl, anc⟩, ⟨(some la), lpl, lpc⟩, ar, lr⟩) (k * 7) ((unhide Bel).trans ((unhide Bw).mono (unhide Bel).size))
              · exact laid_next (unhide Rows2) hlt ⟨ty, tx, rf, im, dt, ⟨(some aa), anl, anc⟩, ⟨(some la), lpl, lpc⟩, ar, lr⟩
              · exact hide (did_next (unhide Hd) (up_below (unhide Bw)) ⟨ty, tx, rf, im, dt, ⟨(some aa), anl, anc⟩, ⟨(some la), lpl, lpc⟩, ar, lr⟩ (by rw [unhide Hpk]; exact unhide Lst') (PartV.cells ⟨ty, tx, rf, im, dt, ⟨(some aa), anl, anc⟩, ⟨(some la), lpl, lpc⟩, ar, lr⟩) (k * 7))
            case measure => simp [intOf]; omega

      · replace hO : (ty.toList == [111, 117, 116, 112, 117, 116, 95, 116, 101, 120, 116]) = false := by simpa using hO
        by_cases hI : (ty.toList == [105, 110, 112, 117, 116, 95, 105, 109, 97, 103, 101]) = true
        · rcases opt_or dt with rfl | ⟨da, rfl⟩
          · skip
            have bx : BoxAt ((wr.alloc (.cells #[.string ty, .pointer tx, .pointer rf, .pointer im, .pointer (some ⟨wr.heap.size + 1, 0, none⟩), .slice ana anl anc, .slice lpa lpl lpc] 60)).alloc (.cells #[.string ⟨#[97, 117, 116, 111]⟩] 9)) wr.heap.size [.string ty, .pointer tx, .pointer rf, .pointer im, .pointer (some ⟨wr.heap.size + 1, 0, none⟩), .slice ana anl anc, .slice lpa lpl lpc] := (BoxAt.made wr [.string ty, .pointer tx, .pointer rf, .pointer im, .pointer (some ⟨wr.heap.size + 1, 0, none⟩), .slice ana anl anc, .slice lpa lpl lpc] 60).step (al _ _)
            have bw : Below wr.heap.size wr ((wr.alloc (.cells #[.string ty, .pointer tx, .pointer rf, .pointer im, .pointer (some ⟨wr.heap.size + 1, 0, none⟩), .slice ana anl anc, .slice lpa lpl lpc] 60)).alloc (.cells #[.string ⟨#[97, 117, 116, 111]⟩] 9)) := ((al _ _).trans ((al _ _).mono (by simp)))
            have hauto : ((wr.alloc (.cells #[.string ty, .pointer tx, .pointer rf, .pointer im, .pointer (some ⟨wr.heap.size + 1, 0, none⟩), .slice ana anl anc, .slice lpa lpl lpc] 60)).alloc (.cells #[.string ⟨#[97, 117, 116, 111]⟩] 9)).cell? ⟨wr.heap.size + 1, 0, none⟩ = some (.string autoB) := by
              have h1 := (BoxAt.made (wr.alloc (.cells #[.string ty, .pointer tx, .pointer rf, .pointer im, .pointer (some ⟨wr.heap.size + 1, 0, none⟩), .slice ana anl anc, .slice lpa lpl lpc] 60)) [.string ⟨#[97, 117, 116, 111]⟩] 9).get 0 _ rfl
              have h2 : (wr.alloc (.cells #[.string ty, .pointer tx, .pointer rf, .pointer im, .pointer (some ⟨wr.heap.size + 1, 0, none⟩), .slice ana anl anc, .slice lpa lpl lpc] 60)).heap.size = wr.heap.size + 1 := by simp
              rw [h2] at h1
              exact h1
            go_upto_region 18 with fail
            have lst : Lst w.heap.size ((wr.alloc (.cells #[.string ty, .pointer tx, .pointer rf, .pointer im, .pointer (some ⟨wr.heap.size + 1, 0, none⟩), .slice ana anl anc, .slice lpa lpl lpc] 60)).alloc (.cells #[.string ⟨#[97, 117, 116, 111]⟩] 9)) ⟨ty, tx, rf, im, none, ⟨ana, anl, anc⟩, ⟨lpa, lpl, lpc⟩, ar, lr⟩ ⟨ty, tx, rf, im, (some ⟨wr.heap.size + 1, 0, none⟩), ⟨ana, anl, anc⟩, ⟨lpa, lpl, lpc⟩, ar, lr⟩ := ⟨rfl, rfl, rfl, rfl, .inl ⟨hI, rfl, _, rfl, by simp; omega, hauto⟩, .inr ⟨.inl hO, rfl⟩, .inr ⟨.inl hO, rfl⟩, rfl, rfl⟩
            generalize (wr.alloc (.cells #[.string ty, .pointer tx, .pointer rf, .pointer im, .pointer (some ⟨wr.heap.size + 1, 0, none⟩), .slice ana anl anc, .slice lpa lpl lpc] 60)).alloc (.cells #[.string ⟨#[97, 117, 116, 111]⟩] 9) = W2 at *
            have b0 := bx.get 0 _ rfl
            have b1 := bx.get 1 _ rfl
            have b2 := bx.get 2 _ rfl
            have b3 := bx.get 3 _ rfl
            have b4 := bx.get 4 _ rfl
            have b5 := bx.get 5 _ rfl
            have b6 := bx.get 6 _ rfl
            have rows2 := (unhide Rows).step bw
            have g0 := rows2.free (k * 7)
            have g1 := rows2.free (k * 7 + 1)
            have g2 := rows2.free (k * 7 + 2)
            have g3 := rows2.free (k * 7 + 3)
            have g4 := rows2.free (k * 7 + 4)
            have g5 := rows2.free (k * 7 + 5)
            have g6 := rows2.free (k * 7 + 6)
            replace y0 := Below.keep bw y0
            replace y1 := Below.keep bw y1
            replace y2 := Below.keep bw y2
            replace y3 := Below.keep bw y3
            replace y4 := Below.keep bw y4
            replace y5 := Below.keep bw y5
            replace y6 := Below.keep bw y6
            have Lst' := hide lst
            have Rows2 := hide rows2
            have Bw := hide bw
            clear bx bw lst rows2 x0 x1 x2 x3 x4 x5 x6 hauto
            go_wp2_with fail
            go_roundw
            case rel =>
              refine ⟨k + 1, (fun i => if i = k then ⟨ty, tx, rf, im, (some ⟨wr.heap.size + 1, 0, none⟩), ⟨ana, anl, anc⟩, ⟨lpa, lpl, lpc⟩, ar, lr⟩ else qv i), by omega, by go_num, ?_, ?_, ?_⟩
              · exact below_puts (Nat.le_refl _) (PartV.cells ⟨ty, tx, rf, im, (some ⟨wr.heap.size + 1, 0, none⟩), ⟨ana, anl, anc⟩, ⟨lpa, lpl, lpc⟩, ar, lr⟩) (k * 7) ((unhide Bel).trans ((unhide Bw).mono (unhide Bel).size))
              · exact laid_next (unhide Rows2) hlt ⟨ty, tx, rf, im, (some ⟨wr.heap.size + 1, 0, none⟩), ⟨ana, anl, anc⟩, ⟨lpa, lpl, lpc⟩, ar, lr⟩
              · exact hide (did_next (unhide Hd) (up_below (unhide Bw)) ⟨ty, tx, rf, im, (some ⟨wr.heap.size + 1, 0, none⟩), ⟨ana, anl, anc⟩, ⟨lpa, lpl, lpc⟩, ar, lr⟩ (by rw [unhide Hpk]; exact unhide Lst') (PartV.cells ⟨ty, tx, rf, im, (some ⟨wr.heap.size + 1, 0, none⟩), ⟨ana, anl, anc⟩, ⟨lpa, lpl, lpc⟩, ar, lr⟩) (k * 7))
            case measure => simp [intOf]; omega

          · skip
            have bx : BoxAt (wr.alloc (.cells #[.string ty, .pointer tx, .pointer rf, .pointer im, .pointer (some da), .slice ana anl anc, .slice lpa lpl lpc] 60)) wr.heap.size [.string ty, .pointer tx, .pointer rf, .pointer im, .pointer (some da), .slice ana anl anc, .slice lpa lpl lpc] := BoxAt.made wr [.string ty, .pointer tx, .pointer rf, .pointer im, .pointer (some da), .slice ana anl anc, .slice lpa lpl lpc] 60
            have bw : Below wr.heap.size wr (wr.alloc (.cells #[.string ty, .pointer tx, .pointer rf, .pointer im, .pointer (some da), .slice ana anl anc, .slice lpa lpl lpc] 60)) := al _ _
            go_upto_region 18 with fail
            have lst : Lst w.heap.size (wr.alloc (.cells #[.string ty, .pointer tx, .pointer rf, .pointer im, .pointer (some da), .slice ana anl anc, .slice lpa lpl lpc] 60)) ⟨ty, tx, rf, im, (some da), ⟨ana, anl, anc⟩, ⟨lpa, lpl, lpc⟩, ar, lr⟩ ⟨ty, tx, rf, im, (some da), ⟨ana, anl, anc⟩, ⟨lpa, lpl, lpc⟩, ar, lr⟩ := ⟨rfl, rfl, rfl, rfl, .inr ⟨.inr (by simp), rfl⟩, .inr ⟨.inl hO, rfl⟩, .inr ⟨.inl hO, rfl⟩, rfl, rfl⟩
            generalize wr.alloc (.cells #[.string ty, .pointer tx, .pointer rf, .pointer im, .pointer (some da), .slice ana anl anc, .slice lpa lpl lpc] 60) = W2 at *
            have b0 := bx.get 0 _ rfl
            have b1 := bx.get 1 _ rfl
            have b2 := bx.get 2 _ rfl
            have b3 := bx.get 3 _ rfl
            have b4 := bx.get 4 _ rfl
            have b5 := bx.get 5 _ rfl
            have b6 := bx.get 6 _ rfl
            have rows2 := (unhide Rows).step bw
            have g0 := rows2.free (k * 7)
            have g1 := rows2.free (k * 7 + 1)
            have g2 := rows2.free (k * 7 + 2)
            have g3 := rows2.free (k * 7 + 3)
            have g4 := rows2.free (k * 7 + 4)
            have g5 := rows2.free (k * 7 + 5)
            have g6 := rows2.free (k * 7 + 6)
            replace y0 := Below.keep bw y0
            replace y1 := Below.keep bw y1
            replace y2 := Below.keep bw y2
            replace y3 := Below.keep bw y3
            replace y4 := Below.keep bw y4
            replace y5 := Below.keep bw y5
            replace y6 := Below.keep bw y6
            have Lst' := hide lst
            have Rows2 := hide rows2
            have Bw := hide bw
            clear bx bw lst rows2 x0 x1 x2 x3 x4 x5 x6 
            go_wp2_with fail
            go_roundw
            case rel =>
              refine ⟨k + 1, (fun i => if i = k then ⟨ty, tx, rf, im, (some da), ⟨ana, anl, anc⟩, ⟨lpa, lpl, lpc⟩, ar, lr⟩ else qv i), by omega, by go_num, ?_, ?_, ?_⟩
              · exact below_puts (Nat.le_refl _) (PartV.cells ⟨ty, tx, rf, im, (some da), ⟨ana, anl, anc⟩, ⟨lpa, lpl, lpc⟩, ar, lr⟩) (k * 7) ((unhide Bel).trans ((unhide Bw).mono (unhide Bel).size))
              · exact laid_next (unhide Rows2) hlt ⟨ty, tx, rf, im, (some da), ⟨ana, anl, anc⟩, ⟨lpa, lpl, lpc⟩, ar, lr⟩
              · exact hide (did_next (unhide Hd) (up_below (unhide Bw)) ⟨ty, tx, rf, im, (some da), ⟨ana, anl, anc⟩, ⟨lpa, lpl, lpc⟩, ar, lr⟩ (by rw [unhide Hpk]; exact unhide Lst') (PartV.cells ⟨ty, tx, rf, im, (some da), ⟨ana, anl, anc⟩, ⟨lpa, lpl, lpc⟩, ar, lr⟩) (k * 7))
            case measure => simp [intOf]; omega

        · replace hI : (ty.toList == [105, 110, 112, 117, 116, 95, 105, 109, 97, 103, 101]) = false := by simpa using hI
          have bx : BoxAt (wr.alloc (.cells #[.string ty, .pointer tx, .pointer rf, .pointer im, .pointer dt, .slice ana anl anc, .slice lpa lpl lpc] 60)) wr.heap.size [.string ty, .pointer tx, .pointer rf, .pointer im, .pointer dt, .slice ana anl anc, .slice lpa lpl lpc] := BoxAt.made wr [.string ty, .pointer tx, .pointer rf, .pointer im, .pointer dt, .slice ana anl anc, .slice lpa lpl lpc] 60
          have bw : Below wr.heap.size wr (wr.alloc (.cells #[.string ty, .pointer tx, .pointer rf, .pointer im, .pointer dt, .slice ana anl anc, .slice lpa lpl lpc] 60)) := al _ _
          go_upto_region 18 with fail
          have lst : Lst w.heap.size (wr.alloc (.cells #[.string ty, .pointer tx, .pointer rf, .pointer im, .pointer dt, .slice ana anl anc, .slice lpa lpl lpc] 60)) ⟨ty, tx, rf, im, dt, ⟨ana, anl, anc⟩, ⟨lpa, lpl, lpc⟩, ar, lr⟩ ⟨ty, tx, rf, im, dt, ⟨ana, anl, anc⟩, ⟨lpa, lpl, lpc⟩, ar, lr⟩ := ⟨rfl, rfl, rfl, rfl, .inr ⟨.inl hI, rfl⟩, .inr ⟨.inl hO, rfl⟩, .inr ⟨.inl hO, rfl⟩, rfl, rfl⟩
          generalize wr.alloc (.cells #[.string ty, .pointer tx, .pointer rf, .pointer im, .pointer dt, .slice ana anl anc, .slice lpa lpl lpc] 60) = W2 at *
          have b0 := bx.get 0 _ rfl
          have b1 := bx.get 1 _ rfl
          have b2 := bx.get 2 _ rfl
          have b3 := bx.get 3 _ rfl
          have b4 := bx.get 4 _ rfl
          have b5 := bx.get 5 _ rfl
          have b6 := bx.get 6 _ rfl
          have rows2 := (unhide Rows).step bw
          have g0 := rows2.free (k * 7)
          have g1 := rows2.free (k * 7 + 1)
          have g2 := rows2.free (k * 7 + 2)
          have g3 := rows2.free (k * 7 + 3)
          have g4 := rows2.free (k * 7 + 4)
          have g5 := rows2.free (k * 7 + 5)
          have g6 := rows2.free (k * 7 + 6)
          replace y0 := Below.keep bw y0
          replace y1 := Below.keep bw y1
          replace y2 := Below.keep bw y2
          replace y3 := Below.keep bw y3
          replace y4 := Below.keep bw y4
          replace y5 := Below.keep bw y5
          replace y6 := Below.keep bw y6
          have Lst' := hide lst
          have Rows2 := hide rows2
          have Bw := hide bw
          clear bx bw lst rows2 x0 x1 x2 x3 x4 x5 x6 
          go_wp2_with fail
          go_roundw
          case rel =>
            refine ⟨k + 1, (fun i => if i = k then ⟨ty, tx, rf, im, dt, ⟨ana, anl, anc⟩, ⟨lpa, lpl, lpc⟩, ar, lr⟩ else qv i), by omega, by go_num, ?_, ?_, ?_⟩
            · exact below_puts (Nat.le_refl _) (PartV.cells ⟨ty, tx, rf, im, dt, ⟨ana, anl, anc⟩, ⟨lpa, lpl, lpc⟩, ar, lr⟩) (k * 7) ((unhide Bel).trans ((unhide Bw).mono (unhide Bel).size))
            · exact laid_next (unhide Rows2) hlt ⟨ty, tx, rf, im, dt, ⟨ana, anl, anc⟩, ⟨lpa, lpl, lpc⟩, ar, lr⟩
            · exact hide (did_next (unhide Hd) (up_below (unhide Bw)) ⟨ty, tx, rf, im, dt, ⟨ana, anl, anc⟩, ⟨lpa, lpl, lpc⟩, ar, lr⟩ (by rw [unhide Hpk]; exact unhide Lst') (PartV.cells ⟨ty, tx, rf, im, dt, ⟨ana, anl, anc⟩, ⟨lpa, lpl, lpc⟩, ar, lr⟩) (k * 7))
          case measure => simp [intOf]; omega

    · have hlt' : ¬ (k : Int) < l := by omega
      obtain rfl : k = l := by omega
      go_wp2_with fail
      go_ret
      have main : ∀ u U : World, Up u U → PartsAt u ⟨sa, k, c⟩ pv → RowsAt U w.heap.size k 7 (Laid qv k) → Did w.heap.size U pv qv k → PartsAt U ⟨some ⟨w.heap.size, 0, none⟩, k, k⟩ qv := fun u U up hu hr hd => by
        refine ⟨hu.1, fun i hi => ?_⟩
        have hi' : i < k := hi
        obtain ⟨_, _, _, _, ok⟩ := hu.2 i hi'
        refine ⟨w.heap.size, 0, rfl, ?_, ok.listed (hd i hi') up⟩
        have := hr.rows i hi'
        simp only [Laid, hi', if_true] at this
        rw [Nat.zero_add]; exact this
      refine ⟨w.heap.size, rfl, Nat.le_refl _, qv, main _ _ (up_below bel) (unhide Hp) rows (unhide Hd), unhide Hd, fun S _ hS hx => ?_, bel⟩
      exact main _ _ ((up_below bel).hole S) hx (RowsAt.hole rows (fun e => absurd (hS _ e) (by omega))) (fun i hi => (unhide Hd i hi).hole (fun b e => Nat.le_of_lt (hS b e)))

set_option maxRecDepth 100000 in
set_option maxHeartbeats 400000 in
theorem listedParts_text (v : Value) (w : World) :
    Calls Try.prog 22 #[.iface 57 v] w fun e w' => e = .returned (.iface 57 v) ∧ w' = w := by
  go_enter Try.func22, Try.ntmps22
  go_wp2
  go_ret
  exact ⟨rfl, rfl⟩

/-- What a content is. -/
def CK : Type := Option (ByteArray ⊕ (Raw × (Nat → PartV)))
def CK.nil : CK := none
def CK.text (s : ByteArray) : CK := some (.inl s)
def CK.parts (q : Raw) (qv : Nat → PartV) : CK := some (.inr (q, qv))
theorem CK.three (k : CK) : k = .nil ∨ (∃ s, k = .text s) ∨ ∃ q qv, k = .parts q qv :=
  match k with
  | none => .inl rfl
  | some (.inl s) => .inr (.inl ⟨s, rfl⟩)
  | some (.inr (q, qv)) => .inr (.inr ⟨q, qv, rfl⟩)
def CK.val (k : CK) : Value :=
  match k with
  | none => .nilIface
  | some (.inl s) => .iface 57 (.string s)
  | some (.inr (q, _)) => .iface 56 (.slice q.a q.l q.c)
def CK.ok (W : World) (k : CK) : Prop :=
  match k with
  | none => True
  | some (.inl s) => s.size ≤ maxLen
  | some (.inr (q, qv)) => PartsAt W q qv ∧ q.l ≤ 1048576
theorem CK.one (k : CK) : k.val.oneCell' = true := by
  rcases k.three with rfl | ⟨s, rfl⟩ | ⟨q, qv, rfl⟩
  · rfl
  · rfl
  · rfl
theorem CK.ok.up {W W' : World} {k : CK} (h : k.ok W) (hu : Up W W') : k.ok W' := by
  rcases k.three with rfl | ⟨s, rfl⟩ | ⟨q, qv, rfl⟩
  · exact trivial
  · exact h
  · exact ⟨h.1.up hu, h.2⟩

/-- k' is what listedParts makes of k. -/
def LK (K : Nat) (W : World) (k k' : CK) : Prop :=
  (k = .nil ∧ k' = .nil) ∨ (∃ s, k = .text s ∧ k' = .text s) ∨
  (∃ (q : Raw) (qv : Nat → PartV) (b : Nat) (qv' : Nat → PartV), k = .parts q qv ∧ k' = .parts ⟨some ⟨b, 0, none⟩, q.l, q.l⟩ qv' ∧ K ≤ b ∧ (∀ i, i < q.l → Lst b W (qv i) (qv' i)))
theorem LK.nil {K : Nat} {W : World} : LK K W .nil .nil := .inl ⟨rfl, rfl⟩
theorem LK.text {K : Nat} {W : World} (s : ByteArray) : LK K W (.text s) (.text s) := .inr (.inl ⟨s, rfl, rfl⟩)
theorem LK.parts {K : Nat} {W : World} (q : Raw) (qv : Nat → PartV) (b : Nat) (qv' : Nat → PartV) (h1 : K ≤ b) (h2 : ∀ i, i < q.l → Lst b W (qv i) (qv' i)) : LK K W (.parts q qv) (.parts ⟨some ⟨b, 0, none⟩, q.l, q.l⟩ qv') := .inr (.inr ⟨q, qv, b, qv', rfl, rfl, h1, h2⟩)
theorem LK.up {K : Nat} {W W' : World} {k k' : CK} (h : LK K W k k') (hu : Up W W') : LK K W' k k' := by
  rcases h with ⟨rfl, rfl⟩ | ⟨s, rfl, rfl⟩ | ⟨q, qv, b, qv', rfl, rfl, hb, hl⟩
  · exact .nil
  · exact .text s
  · exact .parts q qv b qv' hb (fun i hi => (hl i hi).up hu)
theorem LK.mono {K K' : Nat} {W : World} {k k' : CK} (h : LK K W k k') (hK : K' ≤ K) : LK K' W k k' := by
  rcases h with ⟨rfl, rfl⟩ | ⟨s, rfl, rfl⟩ | ⟨q, qv, b, qv', rfl, rfl, hb, hl⟩
  · exact .nil
  · exact .text s
  · exact .parts q qv b qv' (Nat.le_trans hK hb) hl
theorem LK.hole {K : Nat} {W : World} {k k' : CK} (h : LK K W k k') {S : Nat → Prop} [DecidablePred S] (hS : ∀ b, S b → b < K) : LK K (hole W S) k k' := by
  rcases h with ⟨rfl, rfl⟩ | ⟨s, rfl, rfl⟩ | ⟨q, qv, b, qv', rfl, rfl, hb, hl⟩
  · exact .nil
  · exact .text s
  · exact .parts q qv b qv' hb (fun i hi => (hl i hi).hole (fun b' e => by have := hS b' e; omega))

theorem listedParts_any (k : CK) (w : World) (ok : k.ok w) :
    Calls Try.prog 22 #[k.val] w fun e w' => ∃ k' : CK, e = .returned k'.val ∧ LK w.heap.size w' k k' ∧ k'.ok w' ∧ (∀ (S : Nat → Prop) [DecidablePred S], (∀ b, S b → b < w.heap.size) → k.ok (hole w S) → k'.ok (hole w' S)) ∧ Below w.heap.size w w' := by
  rcases k.three with rfl | ⟨s, rfl⟩ | ⟨q, qv, rfl⟩
  · skip
    refine (listedParts_nil w).mono ?_
    rintro e w' ⟨rfl, rfl⟩
    exact ⟨.nil, rfl, .nil, trivial, fun _ _ _ h => h, Below.refl _ _⟩
  · skip
    refine (listedParts_text (.string s) w).mono ?_
    rintro e w' ⟨rfl, rfl⟩
    exact ⟨.text s, rfl, .text s, ok, fun _ _ _ h => h, Below.refl _ _⟩
  · skip
    obtain ⟨a, l, c⟩ := q
    refine (listedParts_list a l c qv w ok.1 ok.2).mono ?_
    rintro e w' ⟨G, qv', rfl, hG, hp, hl, hx, hb⟩
    exact ⟨.parts ⟨some ⟨G, 0, none⟩, l, l⟩ qv', rfl, .parts ⟨a, l, c⟩ qv G qv' hG hl, ⟨hp, ok.2⟩, fun S _ hS h => ⟨hx S hS h.1, ok.2⟩, hb⟩

end Go.Proofs.Qxb6616371a
