/-
  BUILDING A PART: ZZRawList, zzPart (its two lists nil or not: four walks).
-/
import Derived.Test.Qxb6616371aSize
import Derived.BigQuiet
import Derived.Deep.QuietTactic
import Derived.Deep.RegionWith
namespace Go.Proofs.Qxb6616371a
open Go.RowKit
set_option linter.unusedVariables false

theorem info60 : (Try.prog.info? 60).map (fun i => (i.zero, i.size, i.bytes)) = some (some (.agg #[.string ⟨#[]⟩, .pointer none, .pointer none, .pointer none, .pointer none, .slice none 0 0, .slice none 0 0]), 7, 96) := by kernel_rfl
theorem info99 : (Try.prog.info? 99).map (fun i => (i.zero, i.size, i.bytes)) = some (some (.slice none 0 0), 1, 24) := by kernel_rfl
theorem info77 : (Try.prog.info? 77).map (fun i => (i.zero, i.size, i.bytes)) = some (some (.agg #[.string ⟨#[]⟩, .string ⟨#[]⟩, .string ⟨#[]⟩, .pointer none, .pointer none, .pointer none, .pointer none, .slice none 0 0]), 8, 104) := by kernel_rfl

theorem make58 (n : Nat) (hn : n ≤ 1048576) (w : World) : (Instr.makeSlice 58 (.int .i64 (n : Int)) (.int .i64 (n : Int))).run Try.prog w = .ok (.slice (some ⟨w.heap.size, 0, none⟩) n n) (w.alloc (.cells (madeCells #[.slice none 0 0] (n * 1)) 99)) := by
  obtain ⟨i, hi, hz0, hz1, hz2⟩ := info_parts info99
  have := run_make (P := Try.prog) w 58 99 i _ (by kernel_rfl) hi hz0 .i64 .i64 n n (by omega) (by omega) (by rw [hz2]; omega) (by omega)
  rw [this, hz1]
  simp [Value.cells]

set_option maxHeartbeats 400000 in
theorem zzRawList_any (n : Nat) (hn : n ≤ 1048576) (w : World) :
    Calls Try.prog 42 #[.int .i64 (n : Int)] w fun e w' => e = .returned (.slice (some ⟨w.heap.size, 0, none⟩) n n) ∧ w' = w.alloc (.cells (madeCells #[.slice none 0 0] (n * 1)) 99) := by
  have hmk := make58 n hn
  generalize madeCells #[.slice none 0 0] (n * 1) = z at hmk
  go_enter Try.func42, Try.ntmps42
  go_wp2
  go_ret
  exact ⟨rfl, rfl⟩

/-- What zzPart makes of p: the same part, its two lists in new memory. -/
structure Same (p q : PartV) : Prop where
  ty : q.ty = p.ty
  tx : q.tx = p.tx
  rf : q.rf = p.rf
  im : q.im = p.im
  dt : q.dt = p.dt
  an : q.an.a.isNone = p.an.a.isNone
  al : q.an.l = p.an.l
  ar : q.ar = p.ar
  lp : q.lp.a.isNone = p.lp.a.isNone
  ll : q.lp.l = p.lp.l
  lr : q.lr = p.lr


theorem RowsAt.get1 {W : World} {B n : Nat} {f : Nat → Value} (h : RowsAt W B n 1 (fun i => [f i])) (i : Nat) (hi : i < n) : W.cell? ⟨B, i, none⟩ = some (f i) := by
  have := h.rows i hi 0 (f i) rfl
  simpa using this
theorem RowsAt.put1 {W : World} {B n : Nat} {f : Nat → Value} (h : RowsAt W B n 1 (fun i => [f i])) (m : Nat) (hm : m < n) (v : Value) : RowsAt (W.setCell ⟨B, m, none⟩ v) B n 1 (fun i => [if i = m then v else f i]) := by
  have := h.store (fun _ _ => rfl) m hm [v] rfl
  simp only [World.setCells, Nat.mul_one] at this
  refine this.congr (fun i _ => ?_)
  by_cases e : i = m <;> simp [e]
theorem RowsAt.drew {W : World} {B n k : Nat} {row : Nat → List Value} (h : RowsAt W B n k row) : RowsAt W.drew B n k row := ⟨h.size, h.free, h.rows⟩
theorem BoxAt.drew {W : World} {b : Nat} {cs : List Value} (h : BoxAt W b cs) : BoxAt W.drew b cs := ⟨h.size, h.free, h.get⟩

/-- Its lists, where there are any, lie in new memory. -/
structure New (w : World) (q : PartV) : Prop where
  an : ∀ a, q.an.a = some a → w.heap.size ≤ a.block
  lp : ∀ a, q.lp.a = some a → w.heap.size ≤ a.block

theorem new_some {w : World} {G : Nat} (h : w.heap.size ≤ G) : ∀ a : Addr, some (⟨G, 0, none⟩ : Addr) = some a → w.heap.size ≤ a.block := fun a e => by
  obtain rfl : (⟨G, 0, none⟩ : Addr) = a := by simpa using e
  exact h
theorem new_none {w : World} : ∀ a : Addr, (none : Option Addr) = some a → w.heap.size ≤ a.block := fun a e => absurd e (by simp)

/-- Inside zzPart: the part that came in, the result's variable, the part in the making. -/
structure PZ (w W : World) (ty : ByteArray) (tx rf im dt : Option Addr) (an lp an' lp' : Raw) : Prop where
  bel : Below w.heap.size w W
  z : BoxAt W w.heap.size [.string ty, .pointer tx, .pointer rf, .pointer im, .pointer dt, .slice an.a an.l an.c, .slice lp.a lp.l lp.c]
  r : BoxAt W (w.heap.size + 1) [.string ⟨#[]⟩, .pointer none, .pointer none, .pointer none, .pointer none, .slice none 0 0, .slice none 0 0]
  o : BoxAt W (w.heap.size + 1 + 1) [.string ty, .pointer tx, .pointer rf, .pointer im, .pointer dt, .slice an'.a an'.l an'.c, .slice lp'.a lp'.l lp'.c]

theorem PZ.drew {w W : World} {ty : ByteArray} {tx rf im dt : Option Addr} {an lp an' lp' : Raw} (h : PZ w W ty tx rf im dt an lp an' lp') : PZ w W.drew ty tx rf im dt an lp an' lp' := ⟨h.bel.drew, h.z.drew, h.r.drew, h.o.drew⟩
theorem PZ.step {w W W' : World} {ty : ByteArray} {tx rf im dt : Option Addr} {an lp an' lp' : Raw} (h : PZ w W ty tx rf im dt an lp an' lp') (hb : Below W.heap.size W W') : PZ w W' ty tx rf im dt an lp an' lp' :=
  ⟨h.bel.trans (hb.mono h.bel.size), h.z.step hb, h.r.step hb, h.o.step hb⟩
theorem PZ.other {w W : World} {ty : ByteArray} {tx rf im dt : Option Addr} {an lp an' lp' : Raw} (h : PZ w W ty tx rf im dt an lp an' lp') (a : Addr) (v : Value) (ha : w.heap.size + 1 + 1 < a.block) : PZ w (W.setCell a v) ty tx rf im dt an lp an' lp' :=
  ⟨h.bel.setCell (by omega) v, h.z.other a v (by omega), h.r.other a v (by omega), h.o.other a v (by omega)⟩
theorem PZ.put5 {w W : World} {ty : ByteArray} {tx rf im dt : Option Addr} {an lp an' lp' : Raw} (h : PZ w W ty tx rf im dt an lp an' lp') (q : Raw) : PZ w (W.setCell ⟨w.heap.size + 1 + 1, 5, none⟩ (.slice q.a q.l q.c)) ty tx rf im dt an lp q lp' :=
  ⟨h.bel.setCell (by simp; omega) _, h.z.other _ _ (by simp; omega), h.r.other _ _ (by simp), h.o.put 5 _ (by simp)⟩
theorem PZ.put6 {w W : World} {ty : ByteArray} {tx rf im dt : Option Addr} {an lp an' lp' : Raw} (h : PZ w W ty tx rf im dt an lp an' lp') (q : Raw) : PZ w (W.setCell ⟨w.heap.size + 1 + 1, 6, none⟩ (.slice q.a q.l q.c)) ty tx rf im dt an lp an' q :=
  ⟨h.bel.setCell (by simp; omega) _, h.z.other _ _ (by simp; omega), h.r.other _ _ (by simp), h.o.put 6 _ (by simp)⟩

theorem PZ.made (w : World) (ty : ByteArray) (tx rf im dt : Option Addr) (an lp : Raw) :
    PZ w (((w.alloc (.cells #[.string ty, .pointer tx, .pointer rf, .pointer im, .pointer dt, .slice an.a an.l an.c, .slice lp.a lp.l lp.c] 83)).alloc (.cells #[.string ⟨#[]⟩, .pointer none, .pointer none, .pointer none, .pointer none, .slice none 0 0, .slice none 0 0] 60)).alloc
      (.cells #[.string ty, .pointer tx, .pointer rf, .pointer im, .pointer dt, .slice none 0 0, .slice none 0 0] 60)) ty tx rf im dt an lp ⟨none, 0, 0⟩ ⟨none, 0, 0⟩ := by
  have z := BoxAt.made w [.string ty, .pointer tx, .pointer rf, .pointer im, .pointer dt, .slice an.a an.l an.c, .slice lp.a lp.l lp.c] 83
  have b0 : Below w.heap.size w (w.alloc (.cells #[.string ty, .pointer tx, .pointer rf, .pointer im, .pointer dt, .slice an.a an.l an.c, .slice lp.a lp.l lp.c] 83)) := (Below.refl _ _).alloc (Nat.le_refl _) _
  have s0 : (w.alloc (.cells #[.string ty, .pointer tx, .pointer rf, .pointer im, .pointer dt, .slice an.a an.l an.c, .slice lp.a lp.l lp.c] 83)).heap.size = w.heap.size + 1 := by simp
  generalize w.alloc (.cells #[.string ty, .pointer tx, .pointer rf, .pointer im, .pointer dt, .slice an.a an.l an.c, .slice lp.a lp.l lp.c] 83) = W0 at *
  have r := BoxAt.made W0 [.string ⟨#[]⟩, .pointer none, .pointer none, .pointer none, .pointer none, .slice none 0 0, .slice none 0 0] 60
  have b1 : Below W0.heap.size W0 (W0.alloc (.cells #[.string ⟨#[]⟩, .pointer none, .pointer none, .pointer none, .pointer none, .slice none 0 0, .slice none 0 0] 60)) := (Below.refl _ _).alloc (Nat.le_refl _) _
  have s1 : (W0.alloc (.cells #[.string ⟨#[]⟩, .pointer none, .pointer none, .pointer none, .pointer none, .slice none 0 0, .slice none 0 0] 60)).heap.size = W0.heap.size + 1 := by simp
  generalize W0.alloc (.cells #[.string ⟨#[]⟩, .pointer none, .pointer none, .pointer none, .pointer none, .slice none 0 0, .slice none 0 0] 60) = W1 at *
  have o := BoxAt.made W1 [.string ty, .pointer tx, .pointer rf, .pointer im, .pointer dt, .slice none 0 0, .slice none 0 0] 60
  have b2 : Below W1.heap.size W1 (W1.alloc (.cells #[.string ty, .pointer tx, .pointer rf, .pointer im, .pointer dt, .slice none 0 0, .slice none 0 0] 60)) := (Below.refl _ _).alloc (Nat.le_refl _) _
  rw [s1, s0] at o
  rw [s0] at r
  exact ⟨(b0.trans (b1.mono b0.size)).trans (b2.mono (Nat.le_trans b0.size b1.size)), (z.step b1).step b2, r.step b2, o⟩

/-- The list in the making: its first k cells are laid. -/
def Filled (ar : Nat → Raw) (k : Nat) : Nat → Value := fun i => if i < k then (ar i).val else .slice none 0 0

theorem RawsAt.ofRows {W : World} {G l : Nat} {ar : Nat → Raw} {s : Raw} (h : RowsAt W G l 1 (fun i => [Filled ar l i])) (hr : RawsAt W s ar) (hl : s.l = l) : RawsAt W ⟨some ⟨G, 0, none⟩, l, l⟩ ar := by
  refine ⟨hl ▸ hr.1, fun i hi => ?_⟩
  have hi' : i < l := hi
  obtain ⟨_, _, _, _, hy⟩ := hr.2 i (by omega)
  refine ⟨G, 0, rfl, ?_, hy⟩
  rw [Nat.zero_add, h.get1 i hi']
  simp [Filled, hi']


/-- The result's variable filled. -/
def fin7 (W : World) (B : Nat) (v0 v1 v2 v3 v4 v5 v6 : Value) : World :=
  ((((((W.setCell ⟨B, 0, none⟩ v0).setCell ⟨B, 1, none⟩ v1).setCell ⟨B, 2, none⟩ v2).setCell ⟨B, 3, none⟩ v3).setCell ⟨B, 4, none⟩ v4).setCell ⟨B, 5, none⟩ v5).setCell ⟨B, 6, none⟩ v6
theorem fin7_below {w W : World} {B : Nat} (h : Below w.heap.size w W) (hB : w.heap.size ≤ B) (v0 v1 v2 v3 v4 v5 v6 : Value) : Below w.heap.size w (fin7 W B v0 v1 v2 v3 v4 v5 v6) :=
  ((((((h.setCell (p := ⟨B, 0, none⟩) hB v0).setCell (p := ⟨B, 1, none⟩) hB v1).setCell (p := ⟨B, 2, none⟩) hB v2).setCell (p := ⟨B, 3, none⟩) hB v3).setCell (p := ⟨B, 4, none⟩) hB v4).setCell (p := ⟨B, 5, none⟩) hB v5).setCell (p := ⟨B, 6, none⟩) hB v6
theorem fin7_rows {W : World} {B G n k : Nat} {row : Nat → List Value} (h : RowsAt W G n k row) (hB : B ≠ G) (v0 v1 v2 v3 v4 v5 v6 : Value) : RowsAt (fin7 W B v0 v1 v2 v3 v4 v5 v6) G n k row :=
  ((((((h.other ⟨B, 0, none⟩ v0 hB).other ⟨B, 1, none⟩ v1 hB).other ⟨B, 2, none⟩ v2 hB).other ⟨B, 3, none⟩ v3 hB).other ⟨B, 4, none⟩ v4 hB).other ⟨B, 5, none⟩ v5 hB).other ⟨B, 6, none⟩ v6 hB

theorem filled_next {W : World} {G n : Nat} {ar : Nat → Raw} {k : Nat} (h : RowsAt W G n 1 (fun i => [Filled ar k i])) (hk : k < n) : RowsAt (W.setCell ⟨G, k, none⟩ (.slice (ar k).a (ar k).l (ar k).c)) G n 1 (fun i => [Filled ar (k + 1) i]) := by
  refine (h.put1 k hk _).congr (fun i _ => ?_)
  by_cases e : i = k
  · subst e; simp [Filled, Raw.val]
  · have e2 : (i < k + 1) ↔ i < k := by omega
    simp [Filled, e, e2]

theorem RawsAt.nil_l {w : World} {l c : Nat} {rv : Nat → Raw} (h : RawsAt w ⟨none, l, c⟩ rv) : l = 0 := by
  rcases Nat.eq_zero_or_pos l with e | e
  · exact e
  · obtain ⟨_, _, e, _⟩ := h.2 0 e
    exact absurd e (by simp)
theorem RawsAt.none (w : World) (rv : Nat → Raw) : RawsAt w ⟨none, 0, 0⟩ rv := ⟨Nat.zero_le _, fun i hi => absurd hi (by simp)⟩

theorem part_done {w W' : World} {ty : ByteArray} {tx rf im dt : Option Addr} {an lp an' lp' : Raw} {ar lr : Nat → Raw} (ok : PartOk w ⟨ty, tx, rf, im, dt, an, lp, ar, lr⟩) (bel : Below w.heap.size w W') (ha : RawsAt W' an' ar) (hl : RawsAt W' lp' lr) :
    PartOk W' ⟨ty, tx, rf, im, dt, an', lp', ar, lr⟩ :=
  ⟨ok.ty, ok.tx.step bel, ok.rf.step bel, ok.im.step bel, ok.dt.step bel, ha, hl⟩

set_option maxRecDepth 100000 in
set_option maxHeartbeats 1000000 in
theorem zzPart_nn (ty : ByteArray) (tx rf im dt : Option Addr) (anl anc lpl lpc : Nat) (ar lr : Nat → Raw) (w : World)
    (ok : PartOk w ⟨ty, tx, rf, im, dt, ⟨none, anl, anc⟩, ⟨none, lpl, lpc⟩, ar, lr⟩) (fa : anl ≤ 1048576) (fl : lpl ≤ 1048576) :
    Calls Try.prog 37 #[.agg #[.string ty, .pointer tx, .pointer rf, .pointer im, .pointer dt, .slice (none) anl anc, .slice (none) lpl lpc]] w fun e w' =>
      ∃ q : PartV, e = .returned (.agg #[.string ty, .pointer tx, .pointer rf, .pointer im, .pointer dt, .slice q.an.a q.an.l q.an.c, .slice q.lp.a q.lp.l q.lp.c]) ∧
        New w q ∧ Same ⟨ty, tx, rf, im, dt, ⟨none, anl, anc⟩, ⟨none, lpl, lpc⟩, ar, lr⟩ q ∧ PartOk w' q ∧ Below w.heap.size w w' := by
  have Ok := hide ok
  clear ok
  go_enter Try.func37, Try.ntmps37
  go_wp2_with fail
  have bel : Below w.heap.size w (((w.alloc (.cells #[.string ty, .pointer tx, .pointer rf, .pointer im, .pointer dt, .slice none anl anc, .slice none lpl lpc] 83)).alloc (.cells #[.string ty, .pointer tx, .pointer rf, .pointer im, .pointer dt, .slice none 0 0, .slice none 0 0] 60)).alloc (.cells #[.string ty, .pointer tx, .pointer rf, .pointer im, .pointer dt, .slice none 0 0, .slice none 0 0] 60)) :=
    (((Below.refl _ _).alloc (Nat.le_refl _) _).alloc (by simp) _).alloc (by simp; omega) _
  refine bodyPost_ret (v := .agg #[.string ty, .pointer tx, .pointer rf, .pointer im, .pointer dt, .slice none 0 0, .slice none 0 0]) (by simp [results, Try.results37, go_sem]) rfl ⟨⟨ty, tx, rf, im, dt, ⟨none, 0, 0⟩, ⟨none, 0, 0⟩, ar, lr⟩, rfl, ⟨new_none, new_none⟩, ⟨rfl, rfl, rfl, rfl, rfl, rfl, (by have := (unhide Ok).an.nil_l; simp only; omega), rfl, rfl, (by have := (unhide Ok).lp.nil_l; simp only; omega), rfl⟩, part_done (unhide Ok) bel (RawsAt.none _ _) (RawsAt.none _ _), bel⟩

set_option maxRecDepth 100000 in
set_option maxHeartbeats 1000000 in
theorem zzPart_sn (ty : ByteArray) (tx rf im dt : Option Addr) (aa : Addr) (anl anc lpl lpc : Nat) (ar lr : Nat → Raw) (w : World)
    (ok : PartOk w ⟨ty, tx, rf, im, dt, ⟨some aa, anl, anc⟩, ⟨none, lpl, lpc⟩, ar, lr⟩) (fa : anl ≤ 1048576) (fl : lpl ≤ 1048576) :
    Calls Try.prog 37 #[.agg #[.string ty, .pointer tx, .pointer rf, .pointer im, .pointer dt, .slice (some aa) anl anc, .slice (none) lpl lpc]] w fun e w' =>
      ∃ q : PartV, e = .returned (.agg #[.string ty, .pointer tx, .pointer rf, .pointer im, .pointer dt, .slice q.an.a q.an.l q.an.c, .slice q.lp.a q.lp.l q.lp.c]) ∧
        New w q ∧ Same ⟨ty, tx, rf, im, dt, ⟨some aa, anl, anc⟩, ⟨none, lpl, lpc⟩, ar, lr⟩ q ∧ PartOk w' q ∧ Below w.heap.size w w' := by
  have pz := PZ.made w ty tx rf im dt ⟨some aa, anl, anc⟩ ⟨none, lpl, lpc⟩
  have Ok := hide ok
  clear ok
  simp only at pz
  go_enter Try.func37, Try.ntmps37
  go_wp2_with fail
  generalize ((w.alloc (.cells #[.string ty, .pointer tx, .pointer rf, .pointer im, .pointer dt, .slice (some aa) anl anc, .slice (none) lpl lpc] 83)).alloc (.cells #[.string ⟨#[]⟩, .pointer none, .pointer none, .pointer none, .pointer none, .slice none 0 0, .slice none 0 0] 60)).alloc
      (.cells #[.string ty, .pointer tx, .pointer rf, .pointer im, .pointer dt, .slice none 0 0, .slice none 0 0] 60) = W1 at *
  refine (zzRawList_any _ fa _).mono ?_
  rintro e W2 ⟨rfl, hW2⟩
  have Grows := RowsAt.made W1 [.slice none 0 0] anl 1 99 rfl (by omega)
  rw [← hW2] at Grows
  have hb2 : Below W1.heap.size W1 W2 := by rw [hW2]; exact (Below.refl _ _).alloc (Nat.le_refl _) _
  have hG := pz.o.size
  replace pz := pz.step hb2
  clear hW2 hb2
  generalize W1.heap.size = G at *
  have o5 := pz.o.get 5 _ rfl
  have f5 := pz.o.free 5
  go_wp2_with fail
  replace pz := pz.put5 ⟨some ⟨G, 0, none⟩, anl, anl⟩
  replace Grows := Grows.other ⟨w.heap.size + 1 + 1, 5, none⟩ (.slice (some ⟨G, 0, none⟩) anl anl) (by simp; omega)
  clear o5 f5
  simp only at pz
  generalize W2.setCell ⟨w.heap.size + 1 + 1, 5, none⟩ (.slice (some ⟨G, 0, none⟩) anl anl) = W3 at *
  go_loopw [4] (fun i wr => ∃ k : Nat, k ≤ anl ∧ i = .int .i64 k ∧ PZ w wr ty tx rf im dt ⟨some aa, anl, anc⟩ ⟨none, lpl, lpc⟩ ⟨some ⟨G, 0, none⟩, anl, anl⟩ ⟨none, 0, 0⟩ ∧ RowsAt wr G anl 1 (fun i => [Filled ar k i])) (fun i _ => anl - (intOf i).toNat)
  case atStart => exact ⟨0, Nat.zero_le _, rfl, pz, Grows⟩
  case round =>
    clear pz Grows
    obtain ⟨k, hk, rfl, pz, Grows⟩ := hrel
    have z5 := pz.z.get 5 _ rfl
    simp only at z5
    by_cases hlt : k < anl
    · have hlt' : (k : Int) < anl := by omega
      have o5 := pz.o.get 5 _ rfl
      simp only at o5
      have g := Grows.get1 k hlt
      have f := Grows.free k
      obtain ⟨b, off, ea, hc, hy⟩ := ((unhide Ok).an.step pz.bel).2 k hlt
      obtain rfl : aa = ⟨b, off, none⟩ := by simpa using ea
      have hcc : wr.cell? ⟨b, off + k, none⟩ = some (.slice (ar k).a (ar k).l (ar k).c) := hc
      clear ea hc hy
      go_wp2_with fail
      go_region
      go_wp2_with fail
      go_roundw
      case rel => exact ⟨k + 1, by omega, by go_num, (pz.other _ _ hG).drew, (filled_next Grows hlt).drew⟩
      case measure => simp [intOf]; omega
    · have hlt' : ¬ (k : Int) < anl := by omega
      obtain rfl : k = anl := by omega
      have z6 := pz.z.get 6 _ rfl
      have o0 := pz.o.get 0 _ rfl
      have o1 := pz.o.get 1 _ rfl
      have o2 := pz.o.get 2 _ rfl
      have o3 := pz.o.get 3 _ rfl
      have o4 := pz.o.get 4 _ rfl
      have o5 := pz.o.get 5 _ rfl
      have o6 := pz.o.get 6 _ rfl
      have r0 := pz.r.get 0 _ rfl
      have r1 := pz.r.get 1 _ rfl
      have r2 := pz.r.get 2 _ rfl
      have r3 := pz.r.get 3 _ rfl
      have r4 := pz.r.get 4 _ rfl
      have r5 := pz.r.get 5 _ rfl
      have r6 := pz.r.get 6 _ rfl
      have rf0 := pz.r.free 0
      have rf1 := pz.r.free 1
      have rf2 := pz.r.free 2
      have rf3 := pz.r.free 3
      have rf4 := pz.r.free 4
      have rf5 := pz.r.free 5
      have rf6 := pz.r.free 6
      simp only at z6 o5 o6
      go_wp2_with fail
      have bel := fin7_below pz.bel (Nat.le_add_right w.heap.size 1) (.string ty) (.pointer tx) (.pointer rf) (.pointer im) (.pointer dt) (.slice (some ⟨G, 0, none⟩) k k) (.slice none 0 0)
      have Grows' := fin7_rows Grows (B := w.heap.size + 1) (by omega) (.string ty) (.pointer tx) (.pointer rf) (.pointer im) (.pointer dt) (.slice (some ⟨G, 0, none⟩) k k) (.slice none 0 0)
      refine bodyPost_ret (v := .agg #[.string ty, .pointer tx, .pointer rf, .pointer im, .pointer dt, .slice (some ⟨G, 0, none⟩) k k, .slice none 0 0]) (by simp [results, Try.results37, go_sem, r0, r1, r2, r3, r4, r5, r6]) rfl ⟨⟨ty, tx, rf, im, dt, ⟨some ⟨G, 0, none⟩, k, k⟩, ⟨none, 0, 0⟩, ar, lr⟩, rfl, ⟨(new_some (by omega)), new_none⟩, ⟨rfl, rfl, rfl, rfl, rfl, rfl, rfl, rfl, rfl, (by have := (unhide Ok).lp.nil_l; simp only; omega), rfl⟩, part_done (unhide Ok) bel (RawsAt.ofRows Grows' ((unhide Ok).an.step bel) rfl) (RawsAt.none _ _), bel⟩

set_option maxRecDepth 100000 in
set_option maxHeartbeats 1000000 in
theorem zzPart_ns (ty : ByteArray) (tx rf im dt : Option Addr) (la : Addr) (anl anc lpl lpc : Nat) (ar lr : Nat → Raw) (w : World)
    (ok : PartOk w ⟨ty, tx, rf, im, dt, ⟨none, anl, anc⟩, ⟨some la, lpl, lpc⟩, ar, lr⟩) (fa : anl ≤ 1048576) (fl : lpl ≤ 1048576) :
    Calls Try.prog 37 #[.agg #[.string ty, .pointer tx, .pointer rf, .pointer im, .pointer dt, .slice (none) anl anc, .slice (some la) lpl lpc]] w fun e w' =>
      ∃ q : PartV, e = .returned (.agg #[.string ty, .pointer tx, .pointer rf, .pointer im, .pointer dt, .slice q.an.a q.an.l q.an.c, .slice q.lp.a q.lp.l q.lp.c]) ∧
        New w q ∧ Same ⟨ty, tx, rf, im, dt, ⟨none, anl, anc⟩, ⟨some la, lpl, lpc⟩, ar, lr⟩ q ∧ PartOk w' q ∧ Below w.heap.size w w' := by
  have pz := PZ.made w ty tx rf im dt ⟨none, anl, anc⟩ ⟨some la, lpl, lpc⟩
  have Ok := hide ok
  clear ok
  simp only at pz
  go_enter Try.func37, Try.ntmps37
  go_wp2_with fail
  generalize ((w.alloc (.cells #[.string ty, .pointer tx, .pointer rf, .pointer im, .pointer dt, .slice (none) anl anc, .slice (some la) lpl lpc] 83)).alloc (.cells #[.string ⟨#[]⟩, .pointer none, .pointer none, .pointer none, .pointer none, .slice none 0 0, .slice none 0 0] 60)).alloc
      (.cells #[.string ty, .pointer tx, .pointer rf, .pointer im, .pointer dt, .slice none 0 0, .slice none 0 0] 60) = W1 at *
  refine (zzRawList_any _ fl _).mono ?_
  rintro e W2 ⟨rfl, hW2⟩
  have Grows := RowsAt.made W1 [.slice none 0 0] lpl 1 99 rfl (by omega)
  rw [← hW2] at Grows
  have hb2 : Below W1.heap.size W1 W2 := by rw [hW2]; exact (Below.refl _ _).alloc (Nat.le_refl _) _
  have hG := pz.o.size
  replace pz := pz.step hb2
  clear hW2 hb2
  generalize W1.heap.size = G at *
  have o6 := pz.o.get 6 _ rfl
  have f6 := pz.o.free 6
  go_wp2_with fail
  replace pz := pz.put6 ⟨some ⟨G, 0, none⟩, lpl, lpl⟩
  replace Grows := Grows.other ⟨w.heap.size + 1 + 1, 6, none⟩ (.slice (some ⟨G, 0, none⟩) lpl lpl) (by simp; omega)
  clear o6 f6
  simp only at pz
  generalize W2.setCell ⟨w.heap.size + 1 + 1, 6, none⟩ (.slice (some ⟨G, 0, none⟩) lpl lpl) = W3 at *
  go_loopw [5] (fun i wr => ∃ k : Nat, k ≤ lpl ∧ i = .int .i64 k ∧ PZ w wr ty tx rf im dt ⟨none, anl, anc⟩ ⟨some la, lpl, lpc⟩ ⟨none, 0, 0⟩ ⟨some ⟨G, 0, none⟩, lpl, lpl⟩ ∧ RowsAt wr G lpl 1 (fun i => [Filled lr k i])) (fun i _ => lpl - (intOf i).toNat)
  case atStart => exact ⟨0, Nat.zero_le _, rfl, pz, Grows⟩
  case round =>
    clear pz Grows
    obtain ⟨k, hk, rfl, pz, Grows⟩ := hrel
    have z6 := pz.z.get 6 _ rfl
    simp only at z6
    by_cases hlt : k < lpl
    · have hlt' : (k : Int) < lpl := by omega
      have o6 := pz.o.get 6 _ rfl
      simp only at o6
      have g := Grows.get1 k hlt
      have f := Grows.free k
      obtain ⟨b, off, ea, hc, hy⟩ := ((unhide Ok).lp.step pz.bel).2 k hlt
      obtain rfl : la = ⟨b, off, none⟩ := by simpa using ea
      have hcc : wr.cell? ⟨b, off + k, none⟩ = some (.slice (lr k).a (lr k).l (lr k).c) := hc
      clear ea hc hy
      go_wp2_with fail
      go_region
      go_wp2_with fail
      go_roundw
      case rel => exact ⟨k + 1, by omega, by go_num, (pz.other _ _ hG).drew, (filled_next Grows hlt).drew⟩
      case measure => simp [intOf]; omega
    · have hlt' : ¬ (k : Int) < lpl := by omega
      obtain rfl : k = lpl := by omega
      have o0 := pz.o.get 0 _ rfl
      have o1 := pz.o.get 1 _ rfl
      have o2 := pz.o.get 2 _ rfl
      have o3 := pz.o.get 3 _ rfl
      have o4 := pz.o.get 4 _ rfl
      have o5 := pz.o.get 5 _ rfl
      have o6 := pz.o.get 6 _ rfl
      have r0 := pz.r.get 0 _ rfl
      have r1 := pz.r.get 1 _ rfl
      have r2 := pz.r.get 2 _ rfl
      have r3 := pz.r.get 3 _ rfl
      have r4 := pz.r.get 4 _ rfl
      have r5 := pz.r.get 5 _ rfl
      have r6 := pz.r.get 6 _ rfl
      have rf0 := pz.r.free 0
      have rf1 := pz.r.free 1
      have rf2 := pz.r.free 2
      have rf3 := pz.r.free 3
      have rf4 := pz.r.free 4
      have rf5 := pz.r.free 5
      have rf6 := pz.r.free 6
      simp only at o5 o6
      go_wp2_with fail
      have bel := fin7_below pz.bel (Nat.le_add_right w.heap.size 1) (.string ty) (.pointer tx) (.pointer rf) (.pointer im) (.pointer dt) (.slice none 0 0) (.slice (some ⟨G, 0, none⟩) k k)
      have Grows' := fin7_rows Grows (B := w.heap.size + 1) (by omega) (.string ty) (.pointer tx) (.pointer rf) (.pointer im) (.pointer dt) (.slice none 0 0) (.slice (some ⟨G, 0, none⟩) k k)
      refine bodyPost_ret (v := .agg #[.string ty, .pointer tx, .pointer rf, .pointer im, .pointer dt, .slice none 0 0, .slice (some ⟨G, 0, none⟩) k k]) (by simp [results, Try.results37, go_sem, r0, r1, r2, r3, r4, r5, r6]) rfl ⟨⟨ty, tx, rf, im, dt, ⟨none, 0, 0⟩, ⟨some ⟨G, 0, none⟩, k, k⟩, ar, lr⟩, rfl, ⟨new_none, (new_some (by omega))⟩, ⟨rfl, rfl, rfl, rfl, rfl, rfl, (by have := (unhide Ok).an.nil_l; simp only; omega), rfl, rfl, rfl, rfl⟩, part_done (unhide Ok) bel (RawsAt.none _ _) (RawsAt.ofRows Grows' ((unhide Ok).lp.step bel) rfl), bel⟩

set_option maxRecDepth 100000 in
set_option maxHeartbeats 1000000 in
theorem zzPart_ss (ty : ByteArray) (tx rf im dt : Option Addr) (aa la : Addr) (anl anc lpl lpc : Nat) (ar lr : Nat → Raw) (w : World)
    (ok : PartOk w ⟨ty, tx, rf, im, dt, ⟨some aa, anl, anc⟩, ⟨some la, lpl, lpc⟩, ar, lr⟩) (fa : anl ≤ 1048576) (fl : lpl ≤ 1048576) :
    Calls Try.prog 37 #[.agg #[.string ty, .pointer tx, .pointer rf, .pointer im, .pointer dt, .slice (some aa) anl anc, .slice (some la) lpl lpc]] w fun e w' =>
      ∃ q : PartV, e = .returned (.agg #[.string ty, .pointer tx, .pointer rf, .pointer im, .pointer dt, .slice q.an.a q.an.l q.an.c, .slice q.lp.a q.lp.l q.lp.c]) ∧
        New w q ∧ Same ⟨ty, tx, rf, im, dt, ⟨some aa, anl, anc⟩, ⟨some la, lpl, lpc⟩, ar, lr⟩ q ∧ PartOk w' q ∧ Below w.heap.size w w' := by
  have pz := PZ.made w ty tx rf im dt ⟨some aa, anl, anc⟩ ⟨some la, lpl, lpc⟩
  have Ok := hide ok
  clear ok
  simp only at pz
  go_enter Try.func37, Try.ntmps37
  go_wp2_with fail
  generalize ((w.alloc (.cells #[.string ty, .pointer tx, .pointer rf, .pointer im, .pointer dt, .slice (some aa) anl anc, .slice (some la) lpl lpc] 83)).alloc (.cells #[.string ⟨#[]⟩, .pointer none, .pointer none, .pointer none, .pointer none, .slice none 0 0, .slice none 0 0] 60)).alloc
      (.cells #[.string ty, .pointer tx, .pointer rf, .pointer im, .pointer dt, .slice none 0 0, .slice none 0 0] 60) = W1 at *
  refine (zzRawList_any _ fa _).mono ?_
  rintro e W2 ⟨rfl, hW2⟩
  have Grows := RowsAt.made W1 [.slice none 0 0] anl 1 99 rfl (by omega)
  rw [← hW2] at Grows
  have hb2 : Below W1.heap.size W1 W2 := by rw [hW2]; exact (Below.refl _ _).alloc (Nat.le_refl _) _
  have hG := pz.o.size
  replace pz := pz.step hb2
  clear hW2 hb2
  generalize W1.heap.size = G at *
  have o5 := pz.o.get 5 _ rfl
  have f5 := pz.o.free 5
  go_wp2_with fail
  replace pz := pz.put5 ⟨some ⟨G, 0, none⟩, anl, anl⟩
  replace Grows := Grows.other ⟨w.heap.size + 1 + 1, 5, none⟩ (.slice (some ⟨G, 0, none⟩) anl anl) (by simp; omega)
  clear o5 f5
  simp only at pz
  generalize W2.setCell ⟨w.heap.size + 1 + 1, 5, none⟩ (.slice (some ⟨G, 0, none⟩) anl anl) = W3 at *
  go_loopw [4] (fun i wr => ∃ k : Nat, k ≤ anl ∧ i = .int .i64 k ∧ PZ w wr ty tx rf im dt ⟨some aa, anl, anc⟩ ⟨some la, lpl, lpc⟩ ⟨some ⟨G, 0, none⟩, anl, anl⟩ ⟨none, 0, 0⟩ ∧ RowsAt wr G anl 1 (fun i => [Filled ar k i])) (fun i _ => anl - (intOf i).toNat)
  case atStart => exact ⟨0, Nat.zero_le _, rfl, pz, Grows⟩
  case round =>
    clear pz Grows
    obtain ⟨k, hk, rfl, pz, Grows⟩ := hrel
    have z5 := pz.z.get 5 _ rfl
    simp only at z5
    by_cases hlt : k < anl
    · have hlt' : (k : Int) < anl := by omega
      have o5 := pz.o.get 5 _ rfl
      simp only at o5
      have g := Grows.get1 k hlt
      have f := Grows.free k
      obtain ⟨b, off, ea, hc, hy⟩ := ((unhide Ok).an.step pz.bel).2 k hlt
      obtain rfl : aa = ⟨b, off, none⟩ := by simpa using ea
      have hcc : wr.cell? ⟨b, off + k, none⟩ = some (.slice (ar k).a (ar k).l (ar k).c) := hc
      clear ea hc hy
      go_wp2_with fail
      go_region
      go_wp2_with fail
      go_roundw
      case rel => exact ⟨k + 1, by omega, by go_num, (pz.other _ _ hG).drew, (filled_next Grows hlt).drew⟩
      case measure => simp [intOf]; omega
    · have hlt' : ¬ (k : Int) < anl := by omega
      obtain rfl : anl = k := by omega
      have z6 := pz.z.get 6 _ rfl
      simp only at z6
      go_wp2_with fail
      clear z5 z6 hlt hlt' hk
      obtain ⟨W1, hW1⟩ : ∃ W1, W1 = wr := ⟨_, rfl⟩
      subst hW1
      refine (zzRawList_any _ fl _).mono ?_
      rintro e W2 ⟨rfl, hW2⟩
      have G2rows := RowsAt.made W1 [.slice none 0 0] lpl 1 99 rfl (by omega)
      rw [← hW2] at G2rows
      have hb2 : Below W1.heap.size W1 W2 := by rw [hW2]; exact (Below.refl _ _).alloc (Nat.le_refl _) _
      have hG2 := pz.o.size
      replace pz := pz.step hb2
      have hG2G : G ≠ W1.heap.size := Nat.ne_of_lt Grows.size
      replace Grows := Grows.step hb2
      clear hW2 hb2
      generalize W1.heap.size = G2 at *
      have o6 := pz.o.get 6 _ rfl
      have f6 := pz.o.free 6
      go_wp2_with fail
      replace pz := pz.put6 ⟨some ⟨G2, 0, none⟩, lpl, lpl⟩
      replace G2rows := G2rows.other ⟨w.heap.size + 1 + 1, 6, none⟩ (.slice (some ⟨G2, 0, none⟩) lpl lpl) (by simp; omega)
      replace Grows := Grows.other ⟨w.heap.size + 1 + 1, 6, none⟩ (.slice (some ⟨G2, 0, none⟩) lpl lpl) (by simp; omega)
      clear o6 f6
      simp only at pz
      generalize W2.setCell ⟨w.heap.size + 1 + 1, 6, none⟩ (.slice (some ⟨G2, 0, none⟩) lpl lpl) = W3 at *
      go_loopw [5] (fun i wr => ∃ k : Nat, k ≤ lpl ∧ i = .int .i64 k ∧ PZ w wr ty tx rf im dt ⟨some aa, anl, anc⟩ ⟨some la, lpl, lpc⟩ ⟨some ⟨G, 0, none⟩, anl, anl⟩ ⟨some ⟨G2, 0, none⟩, lpl, lpl⟩ ∧ RowsAt wr G2 lpl 1 (fun i => [Filled lr k i]) ∧ RowsAt wr G anl 1 (fun i => [Filled ar anl i])) (fun i _ => lpl - (intOf i).toNat)
      case atStart => exact ⟨0, Nat.zero_le _, rfl, pz, G2rows, Grows⟩
      case round =>
        clear pz G2rows Grows
        obtain ⟨k, hk, rfl, pz, G2rows, Grows⟩ := hrel
        have z6 := pz.z.get 6 _ rfl
        simp only at z6
        by_cases hlt : k < lpl
        · have hlt' : (k : Int) < lpl := by omega
          have o6 := pz.o.get 6 _ rfl
          simp only at o6
          have g := G2rows.get1 k hlt
          have f := G2rows.free k
          obtain ⟨b, off, ea, hc, hy⟩ := ((unhide Ok).lp.step pz.bel).2 k hlt
          obtain rfl : la = ⟨b, off, none⟩ := by simpa using ea
          have hcc : wr.cell? ⟨b, off + k, none⟩ = some (.slice (lr k).a (lr k).l (lr k).c) := hc
          clear ea hc hy
          go_wp2_with fail
          go_region
          go_wp2_with fail
          go_roundw
          case rel => exact ⟨k + 1, by omega, by go_num, (pz.other _ _ hG2).drew, (filled_next G2rows hlt).drew, (Grows.other _ _ (fun e => hG2G e.symm)).drew⟩
          case measure => simp [intOf]; omega
        · have hlt' : ¬ (k : Int) < lpl := by omega
          obtain rfl : k = lpl := by omega
          have o0 := pz.o.get 0 _ rfl
          have o1 := pz.o.get 1 _ rfl
          have o2 := pz.o.get 2 _ rfl
          have o3 := pz.o.get 3 _ rfl
          have o4 := pz.o.get 4 _ rfl
          have o5 := pz.o.get 5 _ rfl
          have o6 := pz.o.get 6 _ rfl
          have r0 := pz.r.get 0 _ rfl
          have r1 := pz.r.get 1 _ rfl
          have r2 := pz.r.get 2 _ rfl
          have r3 := pz.r.get 3 _ rfl
          have r4 := pz.r.get 4 _ rfl
          have r5 := pz.r.get 5 _ rfl
          have r6 := pz.r.get 6 _ rfl
          have rf0 := pz.r.free 0
          have rf1 := pz.r.free 1
          have rf2 := pz.r.free 2
          have rf3 := pz.r.free 3
          have rf4 := pz.r.free 4
          have rf5 := pz.r.free 5
          have rf6 := pz.r.free 6
          simp only at o5 o6
          go_wp2_with fail
          have bel := fin7_below pz.bel (Nat.le_add_right w.heap.size 1) (.string ty) (.pointer tx) (.pointer rf) (.pointer im) (.pointer dt) (.slice (some ⟨G, 0, none⟩) anl anl) (.slice (some ⟨G2, 0, none⟩) k k)
          have Ga := fin7_rows Grows (B := w.heap.size + 1) (by omega) (.string ty) (.pointer tx) (.pointer rf) (.pointer im) (.pointer dt) (.slice (some ⟨G, 0, none⟩) anl anl) (.slice (some ⟨G2, 0, none⟩) k k)
          have Gb := fin7_rows G2rows (B := w.heap.size + 1) (by omega) (.string ty) (.pointer tx) (.pointer rf) (.pointer im) (.pointer dt) (.slice (some ⟨G, 0, none⟩) anl anl) (.slice (some ⟨G2, 0, none⟩) k k)
          refine bodyPost_ret (v := .agg #[.string ty, .pointer tx, .pointer rf, .pointer im, .pointer dt, .slice (some ⟨G, 0, none⟩) anl anl, .slice (some ⟨G2, 0, none⟩) k k]) (by simp [results, Try.results37, go_sem, r0, r1, r2, r3, r4, r5, r6]) rfl ⟨⟨ty, tx, rf, im, dt, ⟨some ⟨G, 0, none⟩, anl, anl⟩, ⟨some ⟨G2, 0, none⟩, k, k⟩, ar, lr⟩, rfl, ⟨(new_some (by omega)), (new_some (by omega))⟩, ⟨rfl, rfl, rfl, rfl, rfl, rfl, rfl, rfl, rfl, rfl, rfl⟩, part_done (unhide Ok) bel (RawsAt.ofRows Ga ((unhide Ok).an.step bel) rfl) (RawsAt.ofRows Gb ((unhide Ok).lp.step bel) rfl), bel⟩

theorem zzPart_any (p : PartV) (w : World) (ok : PartOk w p) (fit : PartFit p) :
    Calls Try.prog 37 #[.agg #[.string p.ty, .pointer p.tx, .pointer p.rf, .pointer p.im, .pointer p.dt, .slice p.an.a p.an.l p.an.c, .slice p.lp.a p.lp.l p.lp.c]] w fun e w' =>
      ∃ q : PartV, e = .returned (.agg #[.string p.ty, .pointer p.tx, .pointer p.rf, .pointer p.im, .pointer p.dt, .slice q.an.a q.an.l q.an.c, .slice q.lp.a q.lp.l q.lp.c]) ∧ New w q ∧ Same p q ∧ PartOk w' q ∧ Below w.heap.size w w' := by
  obtain ⟨ty, tx, rf, im, dt, ⟨ana, anl, anc⟩, ⟨lpa, lpl, lpc⟩, ar, lr⟩ := p
  cases ana with
  | none =>
    cases lpa with
    | none => exact zzPart_nn ty tx rf im dt anl anc lpl lpc ar lr w ok fit.1 fit.2
    | some la => exact zzPart_ns ty tx rf im dt la anl anc lpl lpc ar lr w ok fit.1 fit.2
  | some aa =>
    cases lpa with
    | none => exact zzPart_sn ty tx rf im dt aa anl anc lpl lpc ar lr w ok fit.1 fit.2
    | some la => exact zzPart_ss ty tx rf im dt aa la anl anc lpl lpc ar lr w ok fit.1 fit.2

end Go.Proofs.Qxb6616371a
