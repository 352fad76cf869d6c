/-
  THE WALKS OF THE CALLEES of the two laws on startsWithin: ZZnewTextLinesScan, ZZtextLinesOf, slices.IndexFunc, slices.ContainsFunc, startsWithin, the length guards; the copy of a slice of bytes; the plain facts on 'has'.
-/
import Derived.Test.Qxb6616375aRaw
namespace Go.Proofs.Qxb6616375a
open Go.RowKit

/-- A line as ZZnewTextLinesScan lays it: all zero but its start. -/
def rowOf (z : Int) : List Value := [.string ⟨#[]⟩, .int .i64 0, .string ⟨#[]⟩, .int .u8 z, .int .u8 0, .int .i64 0, .int .i64 0, .slice none 0 0]

/-- n such lines lie in block L. -/
structure Ln (W : World) (L n : Nat) (st : Nat → Int) : Prop where
  size : L < W.heap.size
  free : ∀ o, W.frozen? ⟨L, o, none⟩ = false
  rows : ∀ i, i < n → W.rangeAt L (i * 8) (rowOf (st i))

theorem Ln.step {W W' : World} {L n : Nat} {st : Nat → Int} (h : Ln W L n st) (hb : Below W.heap.size W W') : Ln W' L n st :=
  ⟨Nat.lt_of_lt_of_le h.size hb.size, fun o => by rw [hb.frozen h.size]; exact h.free o, fun i hi j v hv => by rw [hb.cell h.size]; exact h.rows i hi j v hv⟩

theorem Ln.other {W : World} {L n : Nat} {st : Nat → Int} (h : Ln W L n st) (a : Addr) (v : Value) (ha : a.block ≠ L) : Ln (W.setCell a v) L n st :=
  ⟨by simpa [World.setCell] using h.size, fun o => by rw [World.frozen?_setCell]; exact h.free o, fun i hi j u hu => by
    rw [World.cell?_setCell_other _ _ _ _ (fun e => ha (congrArg Addr.block e))]; exact h.rows i hi j u hu⟩

theorem rowOf_get (z : Int) (j : Nat) (v : Value) (h : (rowOf z)[j]? = some v) : j < 8 := by
  have := (List.getElem?_eq_some_iff.1 h).1
  simpa [rowOf] using this

theorem rowOf_other (z y : Int) (j : Nat) (hj : j ≠ 3) : (rowOf z)[j]? = (rowOf y)[j]? := by
  unfold rowOf
  match j, hj with
  | 0, _ => rfl
  | 1, _ => rfl
  | 2, _ => rfl
  | 3, h => exact absurd rfl h
  | j + 4, _ => rfl

theorem Ln.store {W : World} {L n : Nat} {st : Nat → Int} (h : Ln W L n st) (k : Nat) (z : Int) (hk : k < n) : Ln (W.setCell ⟨L, k * 8 + 3, none⟩ (.int .u8 z)) L n (fun i => if i = k then z else st i) := by
  refine ⟨by simpa [World.setCell] using h.size, fun o => by rw [World.frozen?_setCell]; exact h.free o, fun i hi j u hu => ?_⟩
  by_cases e : i = k
  · subst e
    simp only [if_true] at hu
    by_cases e3 : j = 3
    · subst e3
      simp [rowOf] at hu
      subst hu
      exact World.cell?_setCell_same _ _ _ (h.rows i hi 3 _ rfl)
    · rw [World.cell?_setCell_other _ _ _ _ (fun c => e3 (by have := congrArg Addr.off c; simp at this; omega))]
      exact h.rows i hi j u (by rw [← hu]; exact rowOf_other _ _ _ e3)
  · simp only [if_neg e] at hu
    have hj := rowOf_get _ _ _ hu
    rw [World.cell?_setCell_other _ _ _ _ (fun c => e (by have := congrArg Addr.off c; simp at this; omega))]
    exact h.rows i hi j u hu

theorem Ln.congr {W : World} {L n : Nat} {st st' : Nat → Int} (h : Ln W L n st) (he : ∀ i, i < n → st i = st' i) : Ln W L n st' :=
  ⟨h.size, h.free, fun i hi => by rw [← he i hi]; exact h.rows i hi⟩

theorem info58 : (Try.prog.info? 58).map (fun i => (i.zero, i.size, i.bytes)) = some (some (.agg #[.string ⟨#[]⟩, .int .i64 0, .string ⟨#[]⟩, .int .u8 0, .int .u8 0, .int .i64 0, .int .i64 0, .slice none 0 0]), 8, 88) := by kernel_rfl

/-- n zero lines. -/
def zLines (n : Nat) : Array Value := madeCells #[.string ⟨#[]⟩, .int .i64 0, .string ⟨#[]⟩, .int .u8 0, .int .u8 0, .int .i64 0, .int .i64 0, .slice none 0 0] (n * 8)

theorem make52 (n : Nat) (hn : n ≤ 1000000) (w : World) : (Instr.makeSlice 52 (.int .i64 (n : Int)) (.int .i64 (n : Int))).run Try.prog w = .ok (.slice (some ⟨w.heap.size, 0, none⟩) n n) (w.alloc (.cells (zLines n) 58)) := by
  obtain ⟨i, hi, hz0, hz1, hz2⟩ := info_parts info58
  have := run_make (P := Try.prog) w 52 58 i _ (by kernel_rfl) hi hz0 .i64 .i64 n n (by omega) (by omega) (by rw [hz2]; omega) (by omega)
  rw [this, hz1]
  simp [Value.cells, zLines]

theorem zLines_get (n i j : Nat) (hi : i < n) (v : Value) (h : (rowOf 0)[j]? = some v) : (zLines n)[i * 8 + j]? = some v := by
  have hj := rowOf_get _ _ _ h
  have hs : i * 8 + j < (zLines n).size := by unfold zLines; rw [size_madeCells]; omega
  rw [Array.getElem?_eq_getElem hs]
  simp only [zLines, madeCells]
  simp
  have e : j % 8 = j := by omega
  rw [e]
  have := List.getElem?_eq_some_iff.1 h
  obtain ⟨hl, hv⟩ := this
  rw [← hv]
  match j, hj with
  | 0, _ => rfl
  | 1, _ => rfl
  | 2, _ => rfl
  | 3, _ => rfl
  | 4, _ => rfl
  | 5, _ => rfl
  | 6, _ => rfl
  | 7, _ => rfl

theorem Ln.made (W : World) (n : Nat) : Ln (W.alloc (.cells (zLines n) 58)) W.heap.size n (fun _ => 0) := by
  refine ⟨by simp, fun o => World.frozen?_alloc_at _ _ _ _ rfl, fun i hi j v hv => ?_⟩
  rw [World.cell?_alloc_at _ _ _ _ rfl]
  exact zLines_get n i j hi v hv

/-- The scan that ZZnewTextLinesScan hands back. -/
structure Sc (W : World) (S T L n : Nat) (st : Nat → Int) (parts : Int) : Prop where
  ln : Ln W L n st
  sT : T < W.heap.size
  sS : S < W.heap.size
  nL : L ≠ S
  nT : T ≠ S
  t0 : W.cell? ⟨T, 0, none⟩ = some (.slice (some ⟨L, 0, none⟩) n n)
  s0 : W.cell? ⟨S, 0, none⟩ = some (.pointer (some ⟨T, 0, none⟩))
  s9 : W.cell? ⟨S, 9, none⟩ = some (.int .i64 parts)
  f9 : W.frozen? ⟨S, 9, none⟩ = false

theorem Sc.step {W W' : World} {S T L n : Nat} {st : Nat → Int} {p : Int} (h : Sc W S T L n st p) (hb : Below W.heap.size W W') : Sc W' S T L n st p :=
  ⟨h.ln.step hb, Nat.lt_of_lt_of_le h.sT hb.size, Nat.lt_of_lt_of_le h.sS hb.size, h.nL, h.nT, by rw [hb.cell h.sT]; exact h.t0, by rw [hb.cell h.sS]; exact h.s0, by rw [hb.cell h.sS]; exact h.s9, by rw [hb.frozen h.sS]; exact h.f9⟩

theorem Sc.made {W : World} {L n : Nat} {st : Nat → Int} (h : Ln W L n st) :
    Sc ((W.alloc (.cells #[.slice (some ⟨L, 0, none⟩) n n, .int .i64 0, .bool false, .bool false] 65)).alloc (.cells #[.pointer (some ⟨W.heap.size, 0, none⟩), .bool false, .slice none 0 0, .map none, .bool false, .slice none 0 0, .int .i64 0, .int .i64 0, .int .i64 0, .int .i64 0, .bool false, .slice none 0 0] 72))
      (W.heap.size + 1) W.heap.size L n st 0 := by
  have hs := h.size
  refine ⟨(h.step ((Below.refl _ _).alloc (Nat.le_refl _) _)).step ((Below.refl _ _).alloc (Nat.le_refl _) _), by simp; omega, by simp, by omega, by omega, ?_, ?_, ?_, ?_⟩
  · rw [World.cell?_alloc_past _ _ _ (by simp), World.cell?_alloc_at _ _ _ _ rfl]; rfl
  · rw [World.cell?_alloc_at _ _ _ _ (by simp)]; rfl
  · rw [World.cell?_alloc_at _ _ _ _ (by simp)]; rfl
  · rw [World.frozen?_alloc_at _ _ _ _ (by simp)]

set_option maxRecDepth 100000 in
set_option maxHeartbeats 400000 in
theorem newScan_any (ao : Option Addr) (n c : Nat) (st : Nat → Int) (w : World) (hn : n ≤ 65536) (hc : ∀ i, i < n → ∃ b off, ao = some ⟨b, off, none⟩ ∧ w.cell? ⟨b, off + i, none⟩ = some (.int .u8 (st i))) :
    Calls Try.prog 18 #[.slice ao n c] w fun e w' => ∃ S T L, e = .returned (.pointer (some ⟨S, 0, none⟩)) ∧ Sc w' S T L n st 0 ∧ Below w.heap.size w w' ∧ w.heap.size ≤ S := by
  have hmk := make52 n (by omega)
  have l0 := Ln.made w n
  go_enter Try.func18, Try.ntmps18
  go_wp2
  have b0 : Below w.heap.size w (w.alloc (Obj.cells (zLines n) 58)) := (Below.refl _ _).alloc (Nat.le_refl _) _
  generalize w.alloc (Obj.cells (zLines n) 58) = W0 at *
  go_loopw [10] (fun i wr => ∃ k : Nat, k ≤ n ∧ i = .int .i64 k ∧ Below w.heap.size w wr ∧ Ln wr w.heap.size n (fun i => if i < k then st i else 0)) (fun i _ => n - (intOf i).toNat)
  case atStart => exact ⟨0, Nat.zero_le _, rfl, b0, l0⟩
  case round =>
    clear l0 b0
    obtain ⟨k, hk, rfl, hb, ln⟩ := hrel
    by_cases hlt : k < n
    · have hlt' : (k : Int) < n := by omega
      obtain ⟨b, off, rfl, hz⟩ := hc k hlt
      have hz' : wr.cell? ⟨b, off + k, none⟩ = some (.int .u8 (st k)) := by rw [← hz]; exact hb.cell (lt_of_cell hz)
      have g := ln.rows k hlt 3 _ rfl
      have f := ln.free (k * 8 + 3)
      clear hz hc
      go_wp2
      go_roundw
      case rel =>
        refine ⟨k + 1, by omega, by go_num, hb.setCell (Nat.le_refl _) _, (ln.store k (st k) hlt).congr (fun i _ => ?_)⟩
        by_cases e1 : i = k
        · subst e1; simp
        · have e2 : (i < k + 1) ↔ i < k := by omega
          simp [e1, e2]
      case measure => simp [intOf]; omega
    · have hlt' : ¬ (k : Int) < n := by omega
      have ln' : Ln wr w.heap.size n st := ln.congr (fun i hi => by rw [if_pos (by omega)])
      clear ln hc
      go_wp2
      go_ret
      refine ⟨_, rfl, ⟨_, _, Sc.made ln'⟩, (hb.alloc hb.size _).alloc (by have := hb.size; simp; omega) _, by have := hb.size; omega⟩

theorem Ln.cells {W : World} {L n : Nat} {st : Nat → Int} (h : Ln W L n st) (i o : Nat) (hi : i < n) (ho : o = i * 8) :
    W.cell? ⟨L, o, none⟩ = some (.string ⟨#[]⟩) ∧ W.cell? ⟨L, o + 1, none⟩ = some (.int .i64 0) ∧ W.cell? ⟨L, o + 2, none⟩ = some (.string ⟨#[]⟩) ∧ W.cell? ⟨L, o + 3, none⟩ = some (.int .u8 (st i)) ∧
    W.cell? ⟨L, o + 4, none⟩ = some (.int .u8 0) ∧ W.cell? ⟨L, o + 5, none⟩ = some (.int .i64 0) ∧ W.cell? ⟨L, o + 6, none⟩ = some (.int .i64 0) ∧ W.cell? ⟨L, o + 7, none⟩ = some (.slice none 0 0) := by
  subst ho
  have r := h.rows i hi
  exact ⟨r 0 _ rfl, r 1 _ rfl, r 2 _ rfl, r 3 _ rfl, r 4 _ rfl, r 5 _ rfl, r 6 _ rfl, r 7 _ rfl⟩

/-- Is some line among the m lines from lo on no carriesOn? -/
def has (st : Nat → Int) (lo m : Nat) : Bool := (List.range m).any fun i => st (lo + i) != 0

set_option maxRecDepth 100000 in
set_option maxHeartbeats 400000 in
theorem closure_any (z : Int) (w : World) :
    Calls Try.prog 37 #[.agg #[.string ⟨#[]⟩, .int .i64 0, .string ⟨#[]⟩, .int .u8 z, .int .u8 0, .int .i64 0, .int .i64 0, .slice none 0 0]] w fun e w' => e = .returned (.bool (z != 0)) ∧ Below w.heap.size w w' := by
  go_enter Try.func37, Try.ntmps37
  go_wp2
  go_ret
  exact ⟨rfl, (Below.refl _ _).alloc (Nat.le_refl _) _⟩

set_option maxRecDepth 100000 in
set_option maxHeartbeats 400000 in
theorem textLinesOf_any (S T L n : Nat) (st : Nat → Int) (p : Int) (w : World) (h : Sc w S T L n st p) :
    Calls Try.prog 17 #[.pointer (some ⟨S, 0, none⟩)] w fun e w' => e = .returned (.pointer (some ⟨T, 0, none⟩)) ∧ w' = w := by
  have h0 := h.s0
  go_enter Try.func17, Try.ntmps17
  go_wp2
  go_ret
  exact ⟨rfl, rfl⟩

set_option maxRecDepth 100000 in
set_option maxHeartbeats 400000 in
theorem indexFunc_any (L lo m c n : Nat) (st : Nat → Int) (w : World) (ao : Option Addr) (hlm : lo + m ≤ n) (hn : n ≤ 65536) (hao : 0 < m → ao = some ⟨L, lo * 8, none⟩) (ln : Ln w L n st) :
    Calls Try.prog 44 #[.slice ao m c, .func (.func 37) #[] #[]] w fun e w' => ∃ r : Int, e = .returned (.int .i64 r) ∧ (decide (0 ≤ r) = has st lo m) ∧ Below w.heap.size w w' := by
  go_enter Try.func44, Try.ntmps44
  go_wp2
  go_loopw [8] (fun i wr => ∃ k : Nat, k ≤ m ∧ i = .int .i64 k ∧ Below w.heap.size w wr ∧ ∀ t, t < k → st (lo + t) = 0) (fun i _ => m - (intOf i).toNat)
  case atStart => exact ⟨0, Nat.zero_le _, rfl, Below.refl _ _, fun t ht => absurd ht (by omega)⟩
  case round =>
    obtain ⟨k, hk, rfl, hb, hz⟩ := hrel
    have Hz := hide hz
    clear hz
    by_cases hlt : k < m
    · have hlt' : (k : Int) < m := by omega
      obtain rfl := hao (by omega)
      obtain ⟨q0, q1, q2, q3, q4, q5, q6, q7⟩ := (ln.step hb).cells (lo + k) (lo * 8 + k * 8) (by omega) (by omega)
      clear hao
      go_wp2_with fail
      refine (closure_any _ _).mono ?_
      rintro e W1 ⟨rfl, hb1⟩
      have hb2 : Below w.heap.size w W1 := hb.trans (hb1.mono hb.size)
      clear hb1 q0 q1 q2 q3 q4 q5 q6 q7 hb
      cases hs : (st (lo + k) != 0)
      · have hz' : st (lo + k) = 0 := by simpa using hs
        have Hz' := hide hz'
        clear hz'
        go_wp2_with fail
        go_roundw
        case rel => exact ⟨k + 1, by omega, by go_num, hb2, fun t ht => by
          by_cases e : t = k
          · subst e; exact unhide Hz'
          · exact unhide Hz t (by omega)⟩
        case measure => simp [intOf]; omega
      · go_wp2_with fail
        go_ret
        refine ⟨_, rfl, ?_, hb2⟩
        have : has st lo m = true := List.any_eq_true.2 ⟨k, List.mem_range.2 hlt, hs⟩
        rw [this]; simp
    · have hlt' : ¬ (k : Int) < m := by omega
      clear hao
      go_wp2_with fail
      go_ret
      refine ⟨_, rfl, ?_, hb⟩
      have : has st lo m = false := by
        rw [has, List.any_eq_false]
        intro t ht
        simp [unhide Hz t (by have := List.mem_range.1 ht; omega)]
      rw [this]; simp

set_option maxRecDepth 100000 in
set_option maxHeartbeats 400000 in
theorem containsFunc_any (L lo m c n : Nat) (st : Nat → Int) (w : World) (ao : Option Addr) (hlm : lo + m ≤ n) (hn : n ≤ 65536) (hao : 0 < m → ao = some ⟨L, lo * 8, none⟩) (ln : Ln w L n st) :
    Calls Try.prog 36 #[.slice ao m c, .func (.func 37) #[] #[]] w fun e w' => e = .returned (.bool (has st lo m)) ∧ Below w.heap.size w w' := by
  go_enter Try.func36, Try.ntmps36
  go_wp2_with fail
  refine (indexFunc_any L lo m c n st w ao hlm hn hao ln).mono ?_
  rintro e w' ⟨r, rfl, hr, hb⟩
  have Hr := hide hr
  clear hr hao
  go_wp2_with fail
  go_ret
  exact ⟨ret_bool (unhide Hr), hb⟩

set_option maxRecDepth 100000 in
set_option maxHeartbeats 400000 in
theorem startsWithin_any (S T L lo hi n : Nat) (st : Nat → Int) (p : Int) (w : World) (h1 : lo ≤ hi) (h2 : hi ≤ n) (hn : n ≤ 65536) (h : Sc w S T L n st p) :
    Calls Try.prog 28 #[.pointer (some ⟨T, 0, none⟩), .int .i64 ((lo : Int) - 1), .int .i64 ((hi : Int) - 1)] w fun e w' => e = .returned (.bool (has st lo (hi - lo))) ∧ Below w.heap.size w w' := by
  have ht := h.t0
  by_cases hnl : n = lo
  · go_enter Try.func28, Try.ntmps28
    go_wp2_with fail
    refine (containsFunc_any L lo (hi - lo) 0 n st w _ (by omega) hn (fun hp => absurd hp (by omega)) h.ln).mono ?_
    rintro e w' ⟨rfl, hb⟩
    go_wp2_with fail
    go_ret
    exact ⟨rfl, hb⟩
  · go_enter Try.func28, Try.ntmps28
    go_wp2_with fail
    refine (containsFunc_any L lo (hi - lo) (n - lo) n st w _ (by omega) hn (fun _ => rfl) h.ln).mono ?_
    rintro e w' ⟨rfl, hb⟩
    go_wp2_with fail
    go_ret
    exact ⟨rfl, hb⟩

set_option maxRecDepth 100000 in
set_option maxHeartbeats 400000 in
theorem zzStartsWithin_any (S T L lo hi n : Nat) (st : Nat → Int) (p : Int) (w : World) (h1 : lo ≤ hi) (h2 : hi ≤ n) (hn : n ≤ 65536) (h : Sc w S T L n st p) :
    Calls Try.prog 19 #[.pointer (some ⟨T, 0, none⟩), .int .i64 ((lo : Int) - 1), .int .i64 ((hi : Int) - 1)] w fun e w' => e = .returned (.bool (has st lo (hi - lo))) ∧ Below w.heap.size w w' := by
  go_enter Try.func19, Try.ntmps19
  go_wp2_with fail
  refine (startsWithin_any S T L lo hi n st p w h1 h2 hn h).mono ?_
  rintro e w' ⟨rfl, hb⟩
  go_wp2_with fail
  go_ret
  exact ⟨rfl, hb⟩

set_option maxHeartbeats 400000 in
theorem zzBytesSplit_any (a : Option Addr) (l c : Nat) (i k j : Int) (w : World) (hl : l ≤ maxLen) :
    Calls Try.prog 16 #[.slice a l c, .int .i64 i, .int .i64 k, .int .i64 j] w fun e w' => ∃ b, e = .returned (.bool b) ∧ w' = w := by
  unfold maxLen at hl
  go_enter Try.func16, Try.ntmps16
  go_wp2
  all_goals (go_ret; exact ⟨_, rfl, rfl⟩)

set_option maxHeartbeats 400000 in
theorem zzBytesBound_any (a : Option Addr) (l c : Nat) (i j : Int) (w : World) (hl : l ≤ maxLen) :
    Calls Try.prog 20 #[.slice a l c, .int .i64 i, .int .i64 j] w fun e w' => ∃ b, e = .returned (.bool b) ∧ w' = w := by
  unfold maxLen at hl
  go_enter Try.func20, Try.ntmps20
  go_wp2
  all_goals (go_ret; exact ⟨_, rfl, rfl⟩)

theorem info5 : (Try.prog.info? 5).map (fun i => (i.zero, i.size, i.bytes)) = some (some (.int .u8 0), 1, 1) := by kernel_rfl

theorem make35 (n : Nat) (hn : n ≤ 1000000) (w : World) : (Instr.makeSlice 35 (.int .i64 (n : Int)) (.int .i64 (n : Int))).run Try.prog w = .ok (.slice (some ⟨w.heap.size, 0, none⟩) n n) (w.alloc (.cells (madeCells #[.int .u8 0] n) 5)) := by
  obtain ⟨i, hi, hz0, hz1, hz2⟩ := info_parts info5
  have := run_make (P := Try.prog) w 35 5 i _ (by kernel_rfl) hi hz0 .i64 .i64 n n (by omega) (by omega) (by rw [hz2]; omega) (by omega)
  rw [this, hz1]
  simp [Value.cells]

theorem copy35 (W : World) (m : Array Value) (x : Addr) (n c : Nat) (cs : List Value) (ty : TypeId) (hm : m.size = n) (hl : cs.length = n) (h1 : ∀ v ∈ cs, v.oneCell' = true) (hc : ∀ j v, cs[j]? = some v → W.cell? (x.add j) = some v) :
    (Builtin.copy_ #[35, 35] ty #[.slice (some ⟨W.heap.size, 0, none⟩) n n, .slice (some x) n c]).run Try.prog (W.alloc (.cells m 5)) = .ok (goInt n) (W.alloc (.cells cs.toArray 5)) := by
  have h := run_copy_row (P := Try.prog) (W.alloc (.cells m 5)) 35 35 ty 5 W.heap.size 0 n n x n c m 5 cs (by kernel_rfl) (by kernel_rfl) (heap_alloc_last W _) (by simp [hl]) (fun j v hv => by rw [← hc j v hv]; exact World.cell?_of_block (Below.heap_alloc _ _ _ (lt_of_cell (hc j v hv)))) (by omega) h1
  have e : (m.toList.take 0 ++ cs ++ m.toList.drop (0 + cs.length)).toArray = cs.toArray := by
    rw [List.drop_eq_nil_of_le (by simp; omega)]; simp
  rw [h, e, World.setRow_alloc_new, hl]

theorem has_split (st : Nat → Int) (lo k hi : Nat) (h1 : lo ≤ k) (h2 : k ≤ hi) : has st lo (hi - lo) = (has st lo (k - lo) || has st k (hi - k)) := by
  rw [Bool.eq_iff_iff]
  simp only [has, Bool.or_eq_true, List.any_eq_true, List.mem_range]
  constructor
  · rintro ⟨t, ht, hz⟩
    by_cases e : t < k - lo
    · exact .inl ⟨t, e, hz⟩
    · exact .inr ⟨t - (k - lo), by omega, by rw [show k + (t - (k - lo)) = lo + t by omega]; exact hz⟩
  · rintro (⟨t, ht, hz⟩ | ⟨t, ht, hz⟩)
    · exact ⟨t, by omega, hz⟩
    · exact ⟨k - lo + t, by omega, by rw [show lo + (k - lo + t) = k + t by omega]; exact hz⟩

theorem has_none (st : Nat → Int) (lo m : Nat) (h : ∀ p, lo ≤ p → p < lo + m → st p = 0) : has st lo m = false := by
  rw [has, List.any_eq_false]
  intro t ht
  simp [h (lo + t) (by omega) (by have := List.mem_range.1 ht; omega)]

theorem has_some (st : Nat → Int) (lo m p : Nat) (h1 : lo ≤ p) (h2 : p < lo + m) (h : st p ≠ 0) : has st lo m = true :=
  List.any_eq_true.2 ⟨p - lo, List.mem_range.2 (by omega), by rw [show lo + (p - lo) = p by omega]; simpa using h⟩

end Go.Proofs.Qxb6616375a
