/-
  THE WALK OF FnStartsWithinSplitsAtAnyLine.
-/
import Derived.Test.Qxb6616375aScan
namespace Go.Proofs.Qxb6616375a
open Go.RowKit

set_option maxRecDepth 100000 in
set_option maxHeartbeats 400000 in
theorem split_walk (x : Addr) (n c lo k hi : Nat) (zs : List Int) (w : World) (h1 : lo ≤ k) (h2 : k ≤ hi) (h3 : hi ≤ n) (hn : n ≤ 65536) (hl : zs.length = n) (hc : ∀ i, i < n → w.cell? (x.add i) = some (.int .u8 (zs.getD i 0))) :
    Calls Try.prog 4 #[.slice (some x) n c, .int .i64 ((lo : Int) - 1), .int .i64 ((k : Int) - 1), .int .i64 ((hi : Int) - 1)] w fun e w' => e = .returned (.bool true) ∧ Below w.heap.size w w' := by
  have hmk := make35 n (by omega)
  have t1 : ¬ (lo : Int) - 1 < -1 := by omega
  have t2 : ¬ (k : Int) - 1 < (lo : Int) - 1 := by omega
  have t3 : ¬ (hi : Int) - 1 < (k : Int) - 1 := by omega
  have t4 : ¬ (n : Int) ≤ (hi : Int) - 1 := by omega
  have t5 : ¬ 65536 < (n : Int) := by omega
  go_enter Try.func4, Try.ntmps4
  go_wp2_with fail
  refine (zzBytesSplit_any _ _ _ _ _ _ _ (by unfold maxLen; omega)).mono ?_
  rintro e w' ⟨bb, rfl, rfl⟩
  cases bb
  · go_wp2_with fail
    go_ret
    exact ⟨rfl, Below.refl _ _⟩
  have hcp := copy35 w' (madeCells #[.int .u8 0] n) x n c (zs.map (Value.int .u8)) 3 (size_madeCells _ _) (by simp [hl]) (by simp [Value.oneCell']) (fun j v hv => by
    rw [List.getElem?_map] at hv
    obtain ⟨z, hz, rfl⟩ := Option.map_eq_some_iff.1 hv
    have hj : j < n := by rw [← hl]; exact (List.getElem?_eq_some_iff.1 hz).1
    rw [hc j hj]; simp [List.getD, hz])
  have hcc : ∀ i, i < n → (w'.alloc (.cells (zs.map (Value.int .u8)).toArray 5)).cell? ⟨w'.heap.size, i, none⟩ = some (.int .u8 (zs.getD i 0)) := fun i hi => by
    rw [World.cell?_alloc_at _ _ _ _ rfl]
    have : i < zs.length := by omega
    simp [this]
  generalize (zs.map (Value.int .u8)).toArray = cs at hcp hcc
  have Hc := hide hcc
  clear hcc hc
  go_wp2_with fail
  refine (newScan_any (some ⟨w'.heap.size, 0, none⟩) n n (fun i => zs.getD i 0) _ hn (fun i hi => ⟨_, 0, rfl, by rw [Nat.zero_add]; exact unhide Hc i hi⟩)).mono ?_
  rintro e W1 ⟨S, T, L, rfl, sc, hb1, -⟩
  have hw : Below w'.heap.size w' W1 := ((Below.refl _ _).alloc (Nat.le_refl _) _).trans (hb1.mono (by simp))
  have hcc : ∀ i, i < n → W1.cell? ⟨w'.heap.size, i, none⟩ = some (.int .u8 (zs.getD i 0)) := fun i hi => by rw [hb1.cell (by simp)]; exact unhide Hc i hi
  have hsz : w'.heap.size < W1.heap.size := by have := hb1.size; simp at this; omega
  clear hb1 Hc hcp hmk
  generalize hst : (fun i => zs.getD i 0) = st at sc
  have hcs : ∀ i, i < n → W1.cell? ⟨w'.heap.size, i, none⟩ = some (.int .u8 (st i)) := fun i hi => by rw [hcc i hi, ← hst]
  have Hc := hide hcs
  clear hst hcc hcs
  go_wp2_with fail
  refine (textLinesOf_any S T L n st 0 _ sc).mono ?_
  rintro e W2 ⟨rfl, rfl⟩
  go_wp2_with fail
  refine (zzStartsWithin_any S T L lo hi n st 0 _ (by omega) h3 hn sc).mono ?_
  rintro e W3 ⟨rfl, hb3⟩
  replace sc := sc.step hb3
  go_wp2_with fail
  refine (zzStartsWithin_any S T L lo k n st 0 _ h1 (by omega) hn sc).mono ?_
  rintro e W4 ⟨rfl, hb4⟩
  replace sc := sc.step hb4
  go_wp2_with fail
  refine (zzStartsWithin_any S T L k hi n st 0 _ h2 h3 hn sc).mono ?_
  rintro e W5 ⟨rfl, hb5⟩
  replace hb5 := (hb3.trans (hb4.mono hb3.size)).trans (hb5.mono (Nat.le_trans hb3.size hb4.size))
  have bel := hw.trans (hb5.mono (Nat.le_of_lt hsz))
  have hcs : ∀ i, i < n → W5.cell? ⟨w'.heap.size, i, none⟩ = some (.int .u8 (st i)) := fun i hi => by rw [hb5.cell hsz]; exact unhide Hc i hi
  clear hb3 hb4 hb5 hw Hc sc hsz
  have Hc := hide hcs
  clear hcs
  rw [has_split st lo k hi h1 h2]
  go_wp2_with fail
  go_loop [14, 15] (fun l m => ∃ t : Nat, t ≤ hi ∧ l = .int .i64 (-1) ∧ m = .int .i64 ((t : Int) - 1) ∧ Hid (∀ p, t ≤ p → p < hi → st p = 0)) (fun _ m => (intOf m + 1).toNat)
  case atStart => exact ⟨hi, Nat.le_refl _, rfl, rfl, hide (fun p q r => absurd r (by omega))⟩
  case round =>
    obtain ⟨t, ht, rfl, rfl, Hz⟩ := hrel
    by_cases ht0 : t = 0
    · subst ht0
      have hA := has_none st lo (k - lo) (fun p _ q => unhide Hz p (by omega) (by omega))
      have hB := has_none st k (hi - k) (fun p _ q => unhide Hz p (by omega) (by omega))
      have hlast : ¬ (lo : Int) - 1 < -1 := by omega
      go_wp2
      go_ret
      exact ⟨rfl, bel⟩
    · obtain ⟨u, rfl⟩ : ∃ u, t = u + 1 := ⟨t - 1, by omega⟩
      have eu : (((u + 1 : Nat) : Int) - 1) = (u : Int) := by omega
      rw [eu]
      clear eu
      have hcu := unhide Hc u (by omega)
      have hun : (u : Int) < n := by omega
      have hu0 : (0 : Int) ≤ u := by omega
      cases hs : (st u != 0)
      · go_wp2
        go_round
        case rel =>
          refine ⟨u, by omega, rfl, rfl, hide (fun p hp hq => ?_)⟩
          by_cases e : p = u
          · subst e; simpa using hs
          · exact unhide Hz p (by omega) hq
        case measure => simp [intOf]
      · have hne : st u ≠ 0 := by simpa using hs
        by_cases hlu : lo ≤ u
        · have hlast : (lo : Int) - 1 < u := by omega
          have hAB : (has st lo (k - lo) || has st k (hi - k)) = true := by rw [← has_split st lo k hi h1 h2]; exact has_some st lo (hi - lo) u hlu (by omega) hne
          clear hne
          cases hA : has st lo (k - lo) <;> cases hB : has st k (hi - k)
          · rw [hA, hB] at hAB; exact absurd hAB (by simp)
          all_goals
            clear hAB
            go_wp2
            go_ret
            exact ⟨rfl, bel⟩
        · have hlast : ¬ (lo : Int) - 1 < u := by omega
          have hA := has_none st lo (k - lo) (fun p _ q => unhide Hz p (by omega) (by omega))
          have hB := has_none st k (hi - k) (fun p _ q => unhide Hz p (by omega) (by omega))
          clear hne
          go_wp2
          go_ret
          exact ⟨rfl, bel⟩

set_option maxRecDepth 100000 in
set_option maxHeartbeats 400000 in
theorem split_nil (w : World) :
    Calls Try.prog 4 #[.slice none 0 0, .int .i64 (-1), .int .i64 (-1), .int .i64 (-1)] w fun e w' => e = .returned (.bool true) ∧ Below w.heap.size w w' := by
  have z0 : has (fun _ => 0) 0 (0 - 0) = false := rfl
  go_enter Try.func4, Try.ntmps4
  go_wp2_with fail
  refine (zzBytesSplit_any _ _ _ _ _ _ _ (Nat.zero_le _)).mono ?_
  rintro e w' ⟨bb, rfl, rfl⟩
  cases bb
  · go_wp2_with fail
    go_ret
    exact ⟨rfl, Below.refl _ _⟩
  go_wp2_with fail
  refine (newScan_any none 0 0 (fun _ => 0) _ (by omega) (fun i hi => absurd hi (by omega))).mono ?_
  rintro e W1 ⟨S, T, L, rfl, sc, bel, -⟩
  go_wp2_with fail
  refine (textLinesOf_any S T L 0 _ 0 _ sc).mono ?_
  rintro e W2 ⟨rfl, rfl⟩
  go_wp2_with fail
  refine (zzStartsWithin_any S T L 0 0 0 _ 0 _ (by omega) (by omega) (by omega) sc).mono ?_
  rintro e W3 ⟨rfl, hb3⟩
  replace sc := sc.step hb3
  replace bel := bel.trans (hb3.mono bel.size)
  clear hb3
  go_wp2_with fail
  refine (zzStartsWithin_any S T L 0 0 0 _ 0 _ (by omega) (by omega) (by omega) sc).mono ?_
  rintro e W4 ⟨rfl, hb4⟩
  replace sc := sc.step hb4
  replace bel := bel.trans (hb4.mono bel.size)
  clear hb4
  go_wp2_with fail
  refine (zzStartsWithin_any S T L 0 0 0 _ 0 _ (by omega) (by omega) (by omega) sc).mono ?_
  rintro e W5 ⟨rfl, hb5⟩
  replace bel := bel.trans (hb5.mono bel.size)
  clear hb5 sc
  go_wp2_with fail
  refine wp_loop_once ?_
  go_wp2
  go_ret
  exact ⟨rfl, bel⟩

set_option maxRecDepth 100000 in
set_option maxHeartbeats 1000000 in
theorem split_out (a : Option Addr) (n c : Nat) (i k j : Int) (w : World) (hl : n ≤ maxLen) (ho : 65536 < (n : Int) ∨ i < -1 ∨ k < i ∨ j < k ∨ (n : Int) ≤ j) :
    Calls Try.prog 4 #[.slice a n c, .int .i64 i, .int .i64 k, .int .i64 j] w fun e w' => e = .returned (.bool true) ∧ Below w.heap.size w w' := by
  go_enter Try.func4, Try.ntmps4
  go_wp2_with fail
  refine (zzBytesSplit_any _ _ _ _ _ _ _ hl).mono ?_
  rintro e w' ⟨bb, rfl, rfl⟩
  unfold maxLen at hl
  cases bb
  · go_wp2_with fail
    go_ret
    exact ⟨rfl, Below.refl _ _⟩
  by_cases h1 : 65536 < (n : Int)
  · go_wp2_with fail
    go_ret
    exact ⟨rfl, Below.refl _ _⟩
  by_cases h2 : i < -1
  · go_wp2_with fail
    go_ret
    exact ⟨rfl, Below.refl _ _⟩
  by_cases h3 : k < i
  · go_wp2_with fail
    go_ret
    exact ⟨rfl, Below.refl _ _⟩
  by_cases h4 : j < k
  · go_wp2_with fail
    go_ret
    exact ⟨rfl, Below.refl _ _⟩
  have h5 : (n : Int) ≤ j := by omega
  go_wp2_with fail
  go_ret
  exact ⟨rfl, Below.refl _ _⟩

theorem split_all (a : Option Addr) (n c : Nat) (i k j : Int) (zs : List Int) (w : World) (hr : IsRow .u8 w a n c zs) :
    Calls Try.prog 4 #[.slice a n c, .int .i64 i, .int .i64 k, .int .i64 j] w fun e w' => e = .returned (.bool true) ∧ Below w.heap.size w w' := by
  have hl : n ≤ maxLen := by
    rcases hr with ⟨_, rfl, _, _⟩ | ⟨x, _, h1, h2, _⟩
    · exact Nat.zero_le _
    · exact Nat.le_trans h1 h2
  by_cases ho : 65536 < (n : Int) ∨ i < -1 ∨ k < i ∨ j < k ∨ (n : Int) ≤ j
  · exact split_out a n c i k j w hl ho
  obtain ⟨lo, rfl⟩ : ∃ m : Nat, i = (m : Int) - 1 := ⟨(i + 1).toNat, by omega⟩
  obtain ⟨kk, rfl⟩ : ∃ m : Nat, k = (m : Int) - 1 := ⟨(k + 1).toNat, by omega⟩
  obtain ⟨hi, rfl⟩ : ∃ m : Nat, j = (m : Int) - 1 := ⟨(j + 1).toNat, by omega⟩
  rcases hr with ⟨rfl, rfl, rfl, _⟩ | ⟨x, rfl, h1, _, h3, h4, _⟩
  · have e1 : lo = 0 := by omega
    have e2 : kk = 0 := by omega
    have e3 : hi = 0 := by omega
    subst e1 e2 e3
    exact split_nil w
  · refine split_walk x n c lo kk hi (zs.take n) w (by omega) (by omega) (by omega) (by omega) (by simp; omega) (fun i hi => ?_)
    rw [h4 i (by omega)]
    simp [List.getD, hi]

end Go.Proofs.Qxb6616375a
