/-
  BUILDING A LIST OF PARTS: zzParts.
-/
import Derived.Test.Qxb6616371aHole
namespace Go.Proofs.Qxb6616371a
open Go.RowKit
set_option linter.unusedVariables false

theorem make26 (n : Nat) (hn : n ≤ 1048576) (w : World) : (Instr.makeSlice 26 (.int .i64 (n : Int)) (.int .i64 (n : Int))).run Try.prog w = .ok (.slice (some ⟨w.heap.size, 0, none⟩) n n) (w.alloc (.cells (madeCells #[.string ⟨#[]⟩, .pointer none, .pointer none, .pointer none, .pointer none, .slice none 0 0, .slice none 0 0] (n * 7)) 60)) := by
  obtain ⟨i, hi, hz0, hz1, hz2⟩ := info_parts info60
  have := run_make (P := Try.prog) w 26 60 i _ (by kernel_rfl) hi hz0 .i64 .i64 n n (by omega) (by omega) (by rw [hz2]; omega) (by omega)
  rw [this, hz1]
  simp [Value.cells]

@[go_sem] theorem eq26_nil (a : Option Addr) (n c : Nat) (w : World) : (binOp .eql 26 (.slice a n c) (.slice none 0 0)).run Try.prog w = .ok (.bool a.isNone) w := Lib.run_eql_slice_nil w 26 _ a n c 0 0 Try.underlying26
@[go_sem] theorem eq28_nil (a : Option Addr) (n c : Nat) (w : World) : (binOp .eql 28 (.slice a n c) (.slice none 0 0)).run Try.prog w = .ok (.bool a.isNone) w := Lib.run_eql_slice_nil w 28 _ a n c 0 0 Try.underlying28
@[go_sem] theorem eq36_nil (a : Option Addr) (n c : Nat) (w : World) : (binOp .eql 36 (.slice a n c) (.slice none 0 0)).run Try.prog w = .ok (.bool a.isNone) w := Lib.run_eql_slice_nil w 36 _ a n c 0 0 Try.underlying36
@[go_sem] theorem eq37_nil (a : Option Addr) (n c : Nat) (w : World) : (binOp .eql 37 (.slice a n c) (.slice none 0 0)).run Try.prog w = .ok (.bool a.isNone) w := Lib.run_eql_slice_nil w 37 _ a n c 0 0 Try.underlying37
@[go_sem] theorem eq58_nil (a : Option Addr) (n c : Nat) (w : World) : (binOp .eql 58 (.slice a n c) (.slice none 0 0)).run Try.prog w = .ok (.bool a.isNone) w := Lib.run_eql_slice_nil w 58 _ a n c 0 0 Try.underlying58
@[go_sem] theorem eq91_nil (a : Option Addr) (n c : Nat) (w : World) : (binOp .eql 91 (.slice a n c) (.slice none 0 0)).run Try.prog w = .ok (.bool a.isNone) w := Lib.run_eql_slice_nil w 91 _ a n c 0 0 Try.underlying91

def zero7 : List Value := [.string ⟨#[]⟩, .pointer none, .pointer none, .pointer none, .pointer none, .slice none 0 0, .slice none 0 0]

/-- The cells of a list, all of them in blocks newer than G. -/
def Lists (G : Nat) (W : World) (s : Raw) (rv : Nat → Raw) : Prop := ∀ i, i < s.l → ∃ b off, s.a = some ⟨b, off, none⟩ ∧ G < b ∧ W.cell? ⟨b, off + i, none⟩ = some (rv i).val
theorem Lists.step {G : Nat} {W W' : World} {s : Raw} {rv : Nat → Raw} (h : Lists G W s rv) (hb : Below W.heap.size W W') : Lists G W' s rv :=
  fun i hi => let ⟨b, off, e, hn, hc⟩ := h i hi; ⟨b, off, e, hn, Below.keep hb hc⟩
theorem Lists.put {G : Nat} {W : World} {s : Raw} {rv : Nat → Raw} (h : Lists G W s rv) (o : Nat) (v : Value) : Lists G (W.setCell ⟨G, o, none⟩ v) s rv :=
  fun i hi => let ⟨b, off, e, hn, hc⟩ := h i hi
  ⟨b, off, e, hn, by rw [World.cell?_setCell_other _ _ _ _ (fun c => by have := congrArg Addr.block c; simp at this; omega)]; exact hc⟩
theorem Lists.puts {G : Nat} {s : Raw} {rv : Nat → Raw} : ∀ (vs : List Value) (o : Nat) {W : World}, Lists G W s rv → Lists G (W.setCells G o vs) s rv
  | [], _, _, h => h
  | v :: r, o, W, h => Lists.puts r (o + 1) (h.put o v)
theorem Lists.ofRaws {W0 W : World} {G : Nat} {s : Raw} {rv : Nat → Raw} (h : RawsAt W s rv) (hn : ∀ a, s.a = some a → G < a.block) : Lists G W s rv :=
  fun i hi => let ⟨b, off, e, hc, _⟩ := h.2 i hi
  ⟨b, off, e, hn _ e, hc⟩
theorem Lists.hole {G : Nat} {W : World} {s : Raw} {rv : Nat → Raw} (h : Lists G W s rv) {S : Nat → Prop} [DecidablePred S] (hX : ∀ b, S b → b ≤ G) : Lists G (hole W S) s rv :=
  fun i hi => let ⟨b, off, e, hn, hc⟩ := h i hi; ⟨b, off, e, hn, by rw [hole_ne (fun t => by have := hX _ t; simp at this; omega)]; exact hc⟩
theorem RawsAt.ofLists {G : Nat} {w W : World} {s p : Raw} {rv : Nat → Raw} (h : Lists G W s rv) (hp : RawsAt w p rv) (hl : s.l = p.l) (up : Up w W) : RawsAt W s rv :=
  ⟨hl ▸ hp.1, fun i hi => let ⟨b, off, e, _, hc⟩ := h i hi; let ⟨_, _, _, _, hy⟩ := hp.2 i (by omega); ⟨b, off, e, hc, hy.up up⟩⟩

theorem PartOk.rebuild {G : Nat} {w W : World} {p q : PartV} (ok : PartOk w p) (sm : Same p q) (up : Up w W) (ha : Lists G W q.an q.ar) (hl : Lists G W q.lp q.lr) : PartOk W q := by
  refine ⟨by rw [sm.ty]; exact ok.ty, by rw [sm.tx]; exact ok.tx.up up, by rw [sm.rf]; exact ok.rf.up up, by rw [sm.im]; exact ok.im.up up, by rw [sm.dt]; exact ok.dt.up up, ?_, ?_⟩
  · exact RawsAt.ofLists ha (by rw [sm.ar]; exact ok.an) sm.al up
  · exact RawsAt.ofLists hl (by rw [sm.lr]; exact ok.lp) sm.ll up

theorem below_puts {B : Nat} {w : World} {G : Nat} (hG : B ≤ G) : ∀ (vs : List Value) (o : Nat) {W : World}, Below B w W → Below B w (W.setCells G o vs)
  | [], _, _, h => h
  | v :: r, o, W, h => below_puts hG r (o + 1) (h.setCell (p := ⟨G, o, none⟩) hG v)

/-- The rows in the making: the first k are laid. -/
def Laid (qv : Nat → PartV) (k : Nat) : Nat → List Value := fun i => if i < k then (qv i).cells else zero7
theorem laid_len (qv : Nat → PartV) (k i : Nat) : (Laid qv k i).length = 7 := by
  unfold Laid
  split <;> rfl

theorem RowsAt.hole {W : World} {B n k : Nat} {S : Nat → Prop} [DecidablePred S] {row : Nat → List Value} (h : RowsAt W B n k row) (hX : ¬ S B) : RowsAt (hole W S) B n k row :=
  ⟨by rw [hole_size]; exact h.size, fun o => by rw [hole_frozen hX]; exact h.free o, fun i hi j v hv => by rw [hole_ne hX]; exact h.rows i hi j v hv⟩

/-- What holds of the parts laid so far. -/
def Done (G : Nat) (W : World) (pv qv : Nat → PartV) (k : Nat) : Prop := ∀ i, i < k → Same (pv i) (qv i) ∧ Lists G W (qv i).an (qv i).ar ∧ Lists G W (qv i).lp (qv i).lr

theorem laid_next {W : World} {G n k : Nat} {qv : Nat → PartV} (h : RowsAt W G n 7 (Laid qv k)) (hk : k < n) (q : PartV) : RowsAt (W.setCells G (k * 7) q.cells) G n 7 (Laid (fun i => if i = k then q else qv i) (k + 1)) := by
  refine (h.store (fun i _ => laid_len qv k i) k hk q.cells rfl).congr (fun i _ => ?_)
  by_cases e : i = k
  · subst e; simp [Laid]
  · have e2 : (i < k + 1) ↔ i < k := by omega
    simp [Laid, e, e2]

theorem done_next {G : Nat} {W : World} {pv qv : Nat → PartV} {k : Nat} (h : Done G W pv qv k) (q : PartV) (hs : Same (pv k) q) (ha : Lists G W q.an q.ar) (hl : Lists G W q.lp q.lr) (vs : List Value) (o : Nat) :
    Done G (W.setCells G o vs) pv (fun i => if i = k then q else qv i) (k + 1) := fun i hi => by
  by_cases e : i = k
  · subst e; simp only [if_true]; exact ⟨hs, ha.puts vs o, hl.puts vs o⟩
  · simp only [if_neg e]
    obtain ⟨a, b, c⟩ := h i (by omega)
    exact ⟨a, b.puts vs o, c.puts vs o⟩

set_option maxRecDepth 100000 in
set_option maxHeartbeats 1000000 in
theorem zzParts_some (aa : Addr) (l c : Nat) (pv : Nat → PartV) (w : World) (hp : PartsAt w ⟨some aa, l, c⟩ pv) (fit : PartsFit ⟨some aa, l, c⟩ pv) :
    Calls Try.prog 28 #[.slice (some aa) l c] w fun e w' => ∃ (G : Nat) (qv : Nat → PartV), e = .returned (.slice (some ⟨G, 0, none⟩) l l) ∧ PartsAt w' ⟨some ⟨G, 0, none⟩, l, l⟩ qv ∧ (∀ i, i < l → Same (pv i) (qv i)) ∧ (∀ (S : Nat → Prop) [DecidablePred S], (∀ b, S b → b < w.heap.size) → PartsAt (hole w S) ⟨some aa, l, c⟩ pv → PartsAt (hole w' S) ⟨some ⟨G, 0, none⟩, l, l⟩ qv) ∧ w.heap.size ≤ G ∧ Free w' G ∧ Below w.heap.size w w' := by
  have fl : l ≤ 1048576 := fit.1
  have Hp := hide hp
  have Hf := hide fit.2
  clear hp fit
  have hmk := make26 l fl
  generalize hz : madeCells #[.string ⟨#[]⟩, .pointer none, .pointer none, .pointer none, .pointer none, .slice none 0 0, .slice none 0 0] (l * 7) = z at hmk
  have rows : RowsAt (w.alloc (.cells z 60)) w.heap.size l 7 (Laid pv 0) := by
    rw [← hz]; exact RowsAt.made w zero7 l 7 60 rfl (by omega)
  have bel : Below w.heap.size w (w.alloc (.cells z 60)) := (Below.refl _ _).alloc (Nat.le_refl _) _
  clear hz
  go_enter Try.func28, Try.ntmps28
  go_wp2_with fail
  generalize w.alloc (.cells z 60) = W1 at *
  clear hmk
  go_loopw [4] (fun i wr => ∃ (k : Nat) (qv : Nat → PartV), k ≤ l ∧ i = .int .i64 k ∧ Below w.heap.size w wr ∧ RowsAt wr w.heap.size l 7 (Laid qv k) ∧ Hid (Done w.heap.size wr pv qv k)) (fun i _ => l - (intOf i).toNat)
  case atStart => exact ⟨0, pv, Nat.zero_le _, rfl, bel, rows, fun i hi => absurd hi (by omega)⟩
  case round =>
    clear bel rows
    obtain ⟨k, qv, hk, rfl, bel, rows, Hd⟩ := hrel
    by_cases hlt : k < l
    · have hlt' : (k : Int) < l := by omega
      obtain ⟨b, off, ea, hc, hy⟩ := ((unhide Hp).step bel).2 k hlt
      obtain rfl : aa = ⟨b, off, none⟩ := by simpa using ea
      have hfit := unhide Hf k hlt
      generalize hpk : pv k = p at hc hy hfit
      have Hpk := hide hpk
      obtain ⟨ty, tx, rf, im, dt, ⟨ana, anl, anc⟩, ⟨lpa, lpl, lpc⟩, ar, lr⟩ := p
      obtain ⟨x0, x1, x2, x3, x4, x5, x6⟩ := part_cells hc
      simp only at x5 x6
      clear hpk ea hc
      have hG : w.heap.size < wr.heap.size := rows.size
      go_wp2_with fail
      refine (zzPart_any ⟨ty, tx, rf, im, dt, ⟨ana, anl, anc⟩, ⟨lpa, lpl, lpc⟩, ar, lr⟩ _ hy hfit).mono ?_
      rintro e W2 ⟨q, rfl, nw, sm, okq, hb2⟩
      obtain ⟨qty, qtx, qrf, qim, qdt, ⟨qana, qanl, qanc⟩, ⟨qlpa, qlpl, qlpc⟩, qar, qlr⟩ := q
      obtain rfl : qty = ty := sm.ty
      obtain rfl : qtx = tx := sm.tx
      obtain rfl : qrf = rf := sm.rf
      obtain rfl : qim = im := sm.im
      obtain rfl : qdt = dt := sm.dt
      have la : Lists w.heap.size W2 ⟨qana, qanl, qanc⟩ qar := Lists.ofRaws (W0 := wr) okq.an (fun a e => Nat.lt_of_lt_of_le hG (nw.an a e))
      have ll : Lists w.heap.size W2 ⟨qlpa, qlpl, qlpc⟩ qlr := Lists.ofRaws (W0 := wr) okq.lp (fun a e => Nat.lt_of_lt_of_le hG (nw.lp a e))
      have bel2 := bel.trans (hb2.mono bel.size)
      replace rows := rows.step hb2
      have Hd2 : Hid (Done w.heap.size W2 pv qv k) := hide (fun i hi => let ⟨a, b, c⟩ := unhide Hd i hi; ⟨a, b.step hb2, c.step hb2⟩)
      have hrow : Laid qv k k = zero7 := by simp [Laid]
      have rk := rows.rows k hlt
      rw [hrow] at rk
      have y0 := rk 0 _ rfl
      have y1 := rk 1 _ rfl
      have y2 := rk 2 _ rfl
      have y3 := rk 3 _ rfl
      have y4 := rk 4 _ rfl
      have y5 := rk 5 _ rfl
      have y6 := rk 6 _ rfl
      have g0 := rows.free (k * 7)
      have g1 := rows.free (k * 7 + 1)
      have g2 := rows.free (k * 7 + 2)
      have g3 := rows.free (k * 7 + 3)
      have g4 := rows.free (k * 7 + 4)
      have g5 := rows.free (k * 7 + 5)
      have g6 := rows.free (k * 7 + 6)
      rw [Nat.add_zero] at y0
      clear hrow rk x0 x1 x2 x3 x4 x5 x6 hy hfit Hd hb2 nw okq
      have Sm := hide sm
      clear sm
      simp only
      go_wp2_with fail
      go_roundw
      case rel =>
        refine ⟨k + 1, (fun i => if i = k then ⟨qty, qtx, qrf, qim, qdt, ⟨qana, qanl, qanc⟩, ⟨qlpa, qlpl, qlpc⟩, qar, qlr⟩ else qv i), by omega, by go_num, ?_, ?_, ?_⟩
        · exact below_puts (Nat.le_refl _) (PartV.cells ⟨qty, qtx, qrf, qim, qdt, ⟨qana, qanl, qanc⟩, ⟨qlpa, qlpl, qlpc⟩, qar, qlr⟩) (k * 7) bel2
        · exact laid_next rows hlt ⟨qty, qtx, qrf, qim, qdt, ⟨qana, qanl, qanc⟩, ⟨qlpa, qlpl, qlpc⟩, qar, qlr⟩
        · exact hide (done_next (unhide Hd2) ⟨qty, qtx, qrf, qim, qdt, ⟨qana, qanl, qanc⟩, ⟨qlpa, qlpl, qlpc⟩, qar, qlr⟩ (by rw [unhide Hpk]; exact unhide Sm) la ll (PartV.cells ⟨qty, qtx, qrf, qim, qdt, ⟨qana, qanl, qanc⟩, ⟨qlpa, qlpl, qlpc⟩, qar, qlr⟩) (k * 7))
      case measure => simp [intOf]; omega
    · have hlt' : ¬ (k : Int) < l := by omega
      obtain rfl : k = l := by omega
      go_wp2_with fail
      go_ret
      have main : ∀ u U : World, Up u U → PartsAt u ⟨some aa, k, c⟩ pv → RowsAt U w.heap.size k 7 (Laid qv k) → Done w.heap.size U pv qv k → PartsAt U ⟨some ⟨w.heap.size, 0, none⟩, k, k⟩ qv := fun u U up hu hr hd => by
        refine ⟨hu.1, fun i hi => ?_⟩
        have hi' : i < k := hi
        obtain ⟨sm, la, ll⟩ := hd i hi'
        obtain ⟨_, _, _, _, ok⟩ := hu.2 i hi'
        refine ⟨w.heap.size, 0, rfl, ?_, ok.rebuild sm up la ll⟩
        have := hr.rows i hi'
        simp only [Laid, hi', if_true] at this
        rw [Nat.zero_add]; exact this
      refine ⟨w.heap.size, rfl, qv, main _ _ (up_below bel) (unhide Hp) rows (unhide Hd), fun i hi => (unhide Hd i hi).1, fun X _ hX hx => ?_, Nat.le_refl _, rows.free, bel⟩
      refine main _ _ ((up_below bel).hole X) hx (RowsAt.hole rows (fun e => absurd (hX _ e) (by omega))) (fun i hi => ?_)
      obtain ⟨sm, la, ll⟩ := unhide Hd i hi
      exact ⟨sm, la.hole (fun b e => Nat.le_of_lt (hX b e)), ll.hole (fun b e => Nat.le_of_lt (hX b e))⟩

/-- zzParts: nil as nil; else the same parts in a new list. -/
theorem zzParts_any (s : Raw) (pv : Nat → PartV) (w : World) (hp : PartsAt w s pv) (fit : PartsFit s pv) :
    Calls Try.prog 28 #[.slice s.a s.l s.c] w fun e w' => ∃ (q : Raw) (qv : Nat → PartV), e = .returned (.slice q.a q.l q.c) ∧ q.a.isNone = s.a.isNone ∧ q.l = s.l ∧ PartsAt w' q qv ∧ (∀ i, i < s.l → Same (pv i) (qv i)) ∧ PartsFit q qv ∧ (∀ (S : Nat → Prop) [DecidablePred S], (∀ b, S b → b < w.heap.size) → PartsAt (hole w S) s pv → PartsAt (hole w' S) q qv) ∧ (∀ b off, q.a = some ⟨b, off, none⟩ → w.heap.size ≤ b ∧ Free w' b) ∧ Below w.heap.size w w' := by
  obtain ⟨a, l, c⟩ := s
  cases a with
  | none =>
    have hl : l = 0 := by
      rcases Nat.eq_zero_or_pos l with e | e
      · exact e
      · obtain ⟨_, _, e, _⟩ := hp.2 0 e
        exact absurd e (by simp)
    subst hl
    clear hp fit
    go_enter Try.func28, Try.ntmps28
    go_wp2_with fail
    go_ret
    exact ⟨⟨none, 0, 0⟩, pv, rfl, rfl, rfl, ⟨Nat.zero_le _, fun i hi => absurd hi (by simp)⟩, fun i hi => absurd hi (by simp), ⟨Nat.zero_le _, fun i hi => absurd hi (by simp)⟩, fun _ _ _ _ => ⟨Nat.zero_le _, fun i hi => absurd hi (by simp)⟩, fun _ _ e => absurd e (by simp), Below.refl _ _⟩
  | some aa =>
    refine (zzParts_some aa l c pv w hp fit).mono ?_
    rintro e w' ⟨G, qv, rfl, hq, hs, hx, hG, hfr, hb⟩
    refine ⟨⟨some ⟨G, 0, none⟩, l, l⟩, qv, rfl, rfl, rfl, hq, hs, ⟨fit.1, fun i hi => ?_⟩, hx, fun b off e => ?_, hb⟩
    · have sm := hs i hi
      have ft := fit.2 i hi
      exact ⟨by rw [sm.al]; exact ft.1, by rw [sm.ll]; exact ft.2⟩
    · obtain ⟨rfl, rfl⟩ : G = b ∧ 0 = off := by simpa using e
      exact ⟨hG, hfr⟩

end Go.Proofs.Qxb6616371a
