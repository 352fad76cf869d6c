/-
  THE WALK OF FnStartsWithinAgreesWithBound.
-/
import Derived.Test.Qxb6616375aScan
namespace Go.Proofs.Qxb6616375a
open Go.RowKit

theorem Sc.put {W : World} {S T L n : Nat} {st : Nat → Int} {p : Int} (h : Sc W S T L n st p) (q : Int) : Sc (W.setCell ⟨S, 9, none⟩ (.int .i64 q)) S T L n st q := by
  have hsz : (W.setCell ⟨S, 9, none⟩ (.int .i64 q)).heap.size = W.heap.size := by simp [World.setCell]
  refine ⟨h.ln.other _ _ (fun e => h.nL e.symm), by rw [hsz]; exact h.sT, by rw [hsz]; exact h.sS, h.nL, h.nT, ?_, ?_, World.cell?_setCell_same _ _ _ h.s9, by rw [World.frozen?_setCell]; exact h.f9⟩
  · rw [World.cell?_setCell_other _ _ _ _ (fun e => h.nT (congrArg Addr.block e).symm)]; exact h.t0
  · rw [World.cell?_setCell_other _ _ _ _ (fun e => absurd (congrArg Addr.off e) (by simp))]; exact h.s0

theorem Sc.drew {W : World} {S T L n : Nat} {st : Nat → Int} {p : Int} (h : Sc W S T L n st p) (k : Nat) : Sc (W.drewN k) S T L n st p := by
  induction k with
  | zero => exact h
  | succ k ih => exact ⟨⟨ih.ln.size, ih.ln.free, ih.ln.rows⟩, ih.sT, ih.sS, ih.nL, ih.nT, ih.t0, ih.s0, ih.s9, ih.f9⟩

theorem below_draws {B : Nat} {w W : World} (h : Below B w W) (k : Nat) : Below B w (W.drewN k) := by
  induction k with
  | zero => exact h
  | succ k ih => exact ih.drew

theorem bound_round {S T L n lo q : Nat} {st : Nat → Int} {w wr : World} (sc : Sc wr S T L n st q) (hb : Below S w wr) (hq : q < n) (hz : ∀ p, lo ≤ p → p < q + 1 → st p = 0) (nq : Nat) :
    (∃ q1 : Nat, q1 ≤ n ∧ Sc ((wr.drewN nq).setCell ⟨S, 9, none⟩ (.int .i64 ((q : Int) + 1))) S T L n st q1 ∧ Below S w ((wr.drewN nq).setCell ⟨S, 9, none⟩ (.int .i64 ((q : Int) + 1))) ∧ Hid (∀ p, lo ≤ p → p < q1 → st p = 0)) ∧
      n - (intOf ((((wr.drewN nq).setCell ⟨S, 9, none⟩ (.int .i64 ((q : Int) + 1))).cell? ⟨S, 9, none⟩).getD undef)).toNat < n - (intOf ((wr.cell? ⟨S, 9, none⟩).getD undef)).toNat := by
  have sp := (sc.drew nq).put ((q : Int) + 1)
  refine ⟨⟨q + 1, by omega, sp, (below_draws hb nq).setCell (Nat.le_refl _) _, hide hz⟩, ?_⟩
  rw [sp.s9, sc.s9]
  simp [intOf]
  omega

set_option maxRecDepth 100000 in
set_option maxHeartbeats 400000 in
theorem bound_any (S T L lo n : Nat) (st : Nat → Int) (w : World) (hlo : lo ≤ n) (hn : n ≤ 65536) (h : Sc w S T L n st 0) :
    Calls Try.prog 29 #[.pointer (some ⟨S, 0, none⟩), .int .i64 ((lo : Int) - 1)] w fun e w' => ∃ q : Nat, e = .returned (.int .i64 q) ∧ lo ≤ q ∧ q ≤ n ∧ (∀ p, lo ≤ p → p < q → st p = 0) ∧ (q < n → st q ≠ 0) ∧ Below S w w' := by
  go_enter Try.func29, Try.ntmps29
  go_wp2_with fail
  go_loopw [] (fun wr => ∃ q : Nat, q ≤ n ∧ Sc wr S T L n st q ∧ Below S w wr ∧ Hid (∀ p, lo ≤ p → p < q → st p = 0)) (fun wr => n - (intOf ((wr.cell? ⟨S, 9, none⟩).getD undef)).toNat)
  case atStart => exact ⟨0, Nat.zero_le _, h, Below.refl _ _, fun p _ hp => absurd hp (by omega)⟩
  case round =>
    clear h
    obtain ⟨q, hq, sc, hb, Hz⟩ := hrel
    have s9 := sc.s9
    have s0 := sc.s0
    have t0 := sc.t0
    have f9 := sc.f9
    by_cases hql : q < lo
    · have hd : (q : Int) ≤ (lo : Int) - 1 := by omega
      go_wp2_with fail
      go_quiet (fail)
      go_wp2
      exact bound_round sc hb (by omega) (fun p h1 h2 => absurd h2 (by omega)) nq
    · have hd : decide ((q : Int) ≤ (lo : Int) - 1) = false := decide_eq_false (by omega)
      by_cases hqn : q < n
      · have hd2 : (q : Int) < n := by omega
        obtain ⟨-, -, -, q3, -⟩ := sc.ln.cells q (q * 8) hqn rfl
        cases hs : (st q == 0)
        · go_wp2_with fail
          go_quiet (fail)
          go_wp2
          go_ret
          exact ⟨q, rfl, by omega, hq, unhide Hz, fun _ => by simpa using hs, below_draws hb nq⟩
        · go_wp2_with fail
          go_quiet (fail)
          go_wp2
          refine bound_round sc hb hqn (fun p h1 h2 => ?_) nq
          by_cases e : p = q
          · subst e; simpa using hs
          · exact unhide Hz p h1 (by omega)
      · have hd2 : decide ((q : Int) < n) = false := decide_eq_false (by omega)
        go_wp2_with fail
        go_quiet (fail)
        go_wp2
        go_ret
        exact ⟨q, rfl, by omega, hq, unhide Hz, fun h => absurd h hqn, below_draws hb nq⟩

set_option maxRecDepth 100000 in
set_option maxHeartbeats 400000 in
theorem zzBound_any (S T L lo n : Nat) (st : Nat → Int) (w : World) (hlo : lo ≤ n) (hn : n ≤ 65536) (h : Sc w S T L n st 0) :
    Calls Try.prog 21 #[.pointer (some ⟨S, 0, none⟩), .int .i64 ((lo : Int) - 1)] w fun e w' => ∃ q : Nat, e = .returned (.int .i64 q) ∧ lo ≤ q ∧ q ≤ n ∧ (∀ p, lo ≤ p → p < q → st p = 0) ∧ (q < n → st q ≠ 0) ∧ Below S w w' := by
  go_enter Try.func21, Try.ntmps21
  go_wp2_with fail
  refine (bound_any S T L lo n st w hlo hn h).mono ?_
  rintro e w' ⟨q, rfl, h1, h2, h3, h4, hb⟩
  have H3 := hide h3
  have H4 := hide h4
  clear h3 h4
  go_wp2_with fail
  go_ret
  exact ⟨q, rfl, h1, h2, unhide H3, unhide H4, hb⟩

set_option maxRecDepth 100000 in
set_option maxHeartbeats 400000 in
theorem agree_walk (x : Addr) (n c lo hi : Nat) (zs : List Int) (w : World) (h1 : lo ≤ hi) (h3 : hi ≤ n) (hn : n ≤ 65536) (hl : zs.length = n) (hc : ∀ i, i < n → w.cell? (x.add i) = some (.int .u8 (zs.getD i 0))) :
    Calls Try.prog 5 #[.slice (some x) n c, .int .i64 ((lo : Int) - 1), .int .i64 ((hi : Int) - 1)] w fun e w' => e = .returned (.bool true) ∧ Below w.heap.size w w' := by
  have hmk := make35 n (by omega)
  have t1 : ¬ (lo : Int) - 1 < -1 := by omega
  have t2 : ¬ (hi : Int) - 1 < (lo : Int) - 1 := by omega
  have t4 : ¬ (n : Int) ≤ (hi : Int) - 1 := by omega
  have t5 : ¬ 65536 < (n : Int) := by omega
  go_enter Try.func5, Try.ntmps5
  go_wp2_with fail
  refine (zzBytesBound_any _ _ _ _ _ _ (by unfold maxLen; omega)).mono ?_
  rintro e w' ⟨bb, rfl, rfl⟩
  cases bb
  · go_wp2_with fail
    go_ret
    exact ⟨rfl, Below.refl _ _⟩
  have hcp := copy35 w' (madeCells #[.int .u8 0] n) x n c (zs.map (Value.int .u8)) 3 (size_madeCells _ _) (by simp [hl]) (by simp [Value.oneCell']) (fun j v hv => by
    rw [List.getElem?_map] at hv
    obtain ⟨z, hz, rfl⟩ := Option.map_eq_some_iff.1 hv
    have hj : j < n := by rw [← hl]; exact (List.getElem?_eq_some_iff.1 hz).1
    rw [hc j hj]; simp [List.getD, hz])
  have hcc : ∀ i, i < n → (w'.alloc (.cells (zs.map (Value.int .u8)).toArray 5)).cell? ⟨w'.heap.size, i, none⟩ = some (.int .u8 (zs.getD i 0)) := fun i hi => by
    rw [World.cell?_alloc_at _ _ _ _ rfl]
    have : i < zs.length := by omega
    simp [this]
  generalize (zs.map (Value.int .u8)).toArray = cs at hcp hcc
  have Hc := hide hcc
  clear hcc hc
  go_wp2_with fail
  refine (newScan_any (some ⟨w'.heap.size, 0, none⟩) n n (fun i => zs.getD i 0) _ hn (fun i hi => ⟨_, 0, rfl, by rw [Nat.zero_add]; exact unhide Hc i hi⟩)).mono ?_
  rintro e W1 ⟨S, T, L, rfl, sc, hb1, hS⟩
  have hw : Below w'.heap.size w' W1 := ((Below.refl _ _).alloc (Nat.le_refl _) _).trans (hb1.mono (by simp))
  have hcc : ∀ i, i < n → W1.cell? ⟨w'.heap.size, i, none⟩ = some (.int .u8 (zs.getD i 0)) := fun i hi => by rw [hb1.cell (by simp)]; exact unhide Hc i hi
  have hsz : w'.heap.size < W1.heap.size := by have := hb1.size; simp at this; omega
  have hgS : w'.heap.size < S := by simp at hS; omega
  clear hb1 Hc hcp hmk hS
  generalize hst : (fun i => zs.getD i 0) = st at sc
  have hcs : ∀ i, i < n → W1.cell? ⟨w'.heap.size, i, none⟩ = some (.int .u8 (st i)) := fun i hi => by rw [hcc i hi, ← hst]
  have Hc := hide hcs
  clear hst hcc hcs
  go_wp2_with fail
  refine (textLinesOf_any S T L n st 0 _ sc).mono ?_
  rintro e W2 ⟨rfl, rfl⟩
  go_wp2_with fail
  refine (zzStartsWithin_any S T L lo hi n st 0 _ (by omega) h3 hn sc).mono ?_
  rintro e W3 ⟨rfl, hb3⟩
  replace sc := sc.step hb3
  go_wp2_with fail
  refine (zzBound_any S T L lo n st _ (by omega) hn sc).mono ?_
  rintro e W4 ⟨q, rfl, hq1, hq2, hq3, hq4, hb4⟩
  have bel : Below w'.heap.size w' W4 := (hw.trans (hb3.mono (Nat.le_of_lt hsz))).trans (hb4.mono (Nat.le_of_lt hgS))
  have hcs : ∀ i, i < n → W4.cell? ⟨w'.heap.size, i, none⟩ = some (.int .u8 (st i)) := fun i hi => by rw [hb4.cell hgS, hb3.cell hsz]; exact unhide Hc i hi
  by_cases hqh : q < hi
  · rw [has_some st lo (hi - lo) q hq1 (by omega) (hq4 (by omega))]
    clear hb3 hb4 hw Hc sc hsz hgS
    have Hc := hide hcs
    have H3 := hide hq3
    have H4 := hide hq4
    clear hcs hq3 hq4
    have hj : (q : Int) ≤ (hi : Int) - 1 := by omega
    go_wp2_with fail
    go_loop [11, 12] (fun f m => ∃ t : Nat, lo ≤ t ∧ t ≤ q ∧ f = .int .i64 n ∧ m = .int .i64 t) (fun _ m => n - (intOf m).toNat)
    case atStart => exact ⟨lo, Nat.le_refl _, hq1, rfl, rfl⟩
    case round =>
      obtain ⟨t, ht1, ht2, rfl, rfl⟩ := hrel
      by_cases htn : t < n
      · have htn' : (t : Int) < n := by omega
        have hct := unhide Hc t htn
        by_cases htq : t < q
        · have hs : (st t != 0) = false := by simp [unhide H3 t ht1 htq]
          go_wp2
          go_round
          case rel => exact ⟨t + 1, by omega, by omega, rfl, by go_num⟩
          case measure => simp [intOf]; omega
        · have e : t = q := by omega
          subst e
          have hs : (st t != 0) = true := by simpa using unhide H4 htn
          go_wp2
          go_ret
          exact ⟨rfl, bel⟩
      · have e1 : t = n := by omega
        have e2 : q = n := by omega
        subst e1
        subst e2
        go_wp2
        go_ret
        exact ⟨rfl, bel⟩
  · rw [has_none st lo (hi - lo) (fun p a b => hq3 p a (by omega))]
    clear hb3 hb4 hw Hc sc hsz hgS
    have Hc := hide hcs
    have H3 := hide hq3
    have H4 := hide hq4
    clear hcs hq3 hq4
    have hj : ¬ (q : Int) ≤ (hi : Int) - 1 := by omega
    go_wp2_with fail
    go_loop [11, 12] (fun f m => ∃ t : Nat, lo ≤ t ∧ t ≤ q ∧ f = .int .i64 n ∧ m = .int .i64 t) (fun _ m => n - (intOf m).toNat)
    case atStart => exact ⟨lo, Nat.le_refl _, hq1, rfl, rfl⟩
    case round =>
      obtain ⟨t, ht1, ht2, rfl, rfl⟩ := hrel
      by_cases htn : t < n
      · have htn' : (t : Int) < n := by omega
        have hct := unhide Hc t htn
        by_cases htq : t < q
        · have hs : (st t != 0) = false := by simp [unhide H3 t ht1 htq]
          go_wp2
          go_round
          case rel => exact ⟨t + 1, by omega, by omega, rfl, by go_num⟩
          case measure => simp [intOf]; omega
        · have e : t = q := by omega
          subst e
          have hs : (st t != 0) = true := by simpa using unhide H4 htn
          go_wp2
          go_ret
          exact ⟨ret_bool (by simp; omega), bel⟩
      · have e1 : t = n := by omega
        have e2 : q = n := by omega
        subst e1
        subst e2
        go_wp2
        go_ret
        exact ⟨ret_bool (by simp; omega), bel⟩


set_option maxRecDepth 100000 in
set_option maxHeartbeats 400000 in
theorem agree_nil (w : World) :
    Calls Try.prog 5 #[.slice none 0 0, .int .i64 (-1), .int .i64 (-1)] w fun e w' => e = .returned (.bool true) ∧ Below w.heap.size w w' := by
  have z0 : has (fun _ => 0) 0 (0 - 0) = false := rfl
  go_enter Try.func5, Try.ntmps5
  go_wp2_with fail
  refine (zzBytesBound_any _ _ _ _ _ _ (Nat.zero_le _)).mono ?_
  rintro e w' ⟨bb, rfl, rfl⟩
  cases bb
  · go_wp2_with fail
    go_ret
    exact ⟨rfl, Below.refl _ _⟩
  go_wp2_with fail
  refine (newScan_any none 0 0 (fun _ => 0) _ (by omega) (fun i hi => absurd hi (by omega))).mono ?_
  rintro e W1 ⟨S, T, L, rfl, sc, bel, hS⟩
  go_wp2_with fail
  refine (textLinesOf_any S T L 0 _ 0 _ sc).mono ?_
  rintro e W2 ⟨rfl, rfl⟩
  go_wp2_with fail
  refine (zzStartsWithin_any S T L 0 0 0 _ 0 _ (by omega) (by omega) (by omega) sc).mono ?_
  rintro e W3 ⟨rfl, hb3⟩
  replace sc := sc.step hb3
  replace bel := bel.trans (hb3.mono bel.size)
  clear hb3
  go_wp2_with fail
  refine (zzBound_any S T L 0 0 _ _ (by omega) (by omega) sc).mono ?_
  rintro e W4 ⟨q, rfl, -, hq, -, -, hb4⟩
  obtain rfl : q = 0 := by omega
  replace bel := bel.trans (hb4.mono hS)
  clear hb4 sc hq
  go_wp2_with fail
  refine wp_loop_once ?_
  go_wp2
  go_ret
  exact ⟨rfl, bel⟩

set_option maxRecDepth 100000 in
set_option maxHeartbeats 1000000 in
theorem agree_out (a : Option Addr) (n c : Nat) (i j : Int) (w : World) (hl : n ≤ maxLen) (ho : 65536 < (n : Int) ∨ i < -1 ∨ j < i ∨ (n : Int) ≤ j) :
    Calls Try.prog 5 #[.slice a n c, .int .i64 i, .int .i64 j] w fun e w' => e = .returned (.bool true) ∧ Below w.heap.size w w' := by
  go_enter Try.func5, Try.ntmps5
  go_wp2_with fail
  refine (zzBytesBound_any _ _ _ _ _ _ hl).mono ?_
  rintro e w' ⟨bb, rfl, rfl⟩
  unfold maxLen at hl
  cases bb
  · go_wp2_with fail
    go_ret
    exact ⟨rfl, Below.refl _ _⟩
  by_cases h1 : 65536 < (n : Int)
  · go_wp2_with fail
    go_ret
    exact ⟨rfl, Below.refl _ _⟩
  by_cases h2 : i < -1
  · go_wp2_with fail
    go_ret
    exact ⟨rfl, Below.refl _ _⟩
  by_cases h3 : j < i
  · go_wp2_with fail
    go_ret
    exact ⟨rfl, Below.refl _ _⟩
  have h5 : (n : Int) ≤ j := by omega
  go_wp2_with fail
  go_ret
  exact ⟨rfl, Below.refl _ _⟩

theorem agree_all (a : Option Addr) (n c : Nat) (i j : Int) (zs : List Int) (w : World) (hr : IsRow .u8 w a n c zs) :
    Calls Try.prog 5 #[.slice a n c, .int .i64 i, .int .i64 j] w fun e w' => e = .returned (.bool true) ∧ Below w.heap.size w w' := by
  have hl : n ≤ maxLen := by
    rcases hr with ⟨_, rfl, _, _⟩ | ⟨x, _, h1, h2, _⟩
    · exact Nat.zero_le _
    · exact Nat.le_trans h1 h2
  by_cases ho : 65536 < (n : Int) ∨ i < -1 ∨ j < i ∨ (n : Int) ≤ j
  · exact agree_out a n c i j w hl ho
  obtain ⟨lo, rfl⟩ : ∃ m : Nat, i = (m : Int) - 1 := ⟨(i + 1).toNat, by omega⟩
  obtain ⟨hi, rfl⟩ : ∃ m : Nat, j = (m : Int) - 1 := ⟨(j + 1).toNat, by omega⟩
  rcases hr with ⟨rfl, rfl, rfl, _⟩ | ⟨x, rfl, h1, _, h3, h4, _⟩
  · have e1 : lo = 0 := by omega
    have e3 : hi = 0 := by omega
    subst e1 e3
    exact agree_nil w
  · refine agree_walk x n c lo hi (zs.take n) w (by omega) (by omega) (by omega) (by simp; omega) (fun i hi => ?_)
    rw [h4 i (by omega)]
    simp [List.getD, hi]

end Go.Proofs.Qxb6616375a
