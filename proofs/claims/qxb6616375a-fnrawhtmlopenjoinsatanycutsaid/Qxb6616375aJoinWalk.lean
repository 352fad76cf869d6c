/-
  THE WALK OF FnRawHTMLOpenJoinsAtAnyCut.
-/
import Derived.Test.Qxb6616375aRaw
namespace Go.Proofs.Qxb6616375a
open Go.RowKit

set_option maxRecDepth 100000 in
set_option maxHeartbeats 400000 in
theorem join_walk (b0 b1 b2 b3 : Bool) (x : Addr) (n c k : Nat) (zs : List Int) (w : World) (hkn : k ≤ n) (hn : n ≤ 65536) (hl : zs.length = n) (hc : ∀ i, i < n → w.cell? (x.add i) = some (.int .i64 (zs.getD i 0))) :
    Calls Try.prog 6 #[.agg #[.bool b0, .bool b1, .bool b2, .bool b3], .slice (some x) n c, .int .i64 (k : Int)] w fun e w' => e = .returned (.bool true) ∧ Below w.heap.size w w' := by
  have hmk : ∀ w : World, (Instr.makeSlice 24 (.int .i64 (n : Int)) (.int .i64 (n : Int))).run Try.prog w = .ok (.slice (some ⟨w.heap.size, 0, none⟩) n n) (w.alloc (.cells (madeCells #[.int .i64 0] n) 3)) := make24 n (by omega)
  have hk0' : ¬ (k : Int) < 0 := by omega
  have hkn' : ¬ (n : Int) < (k : Int) := by omega
  have hn' : ¬ 65536 < (n : Int) := by omega
  go_enter Try.func6, Try.ntmps6
  go_wp2_with fail
  refine (zzBytesJoin_any _ _ _ _ _ _ _ _ _ (by unfold maxLen; omega)).mono ?_
  rintro e w1 ⟨bb, rfl, hb⟩
  cases bb
  · go_wp2_with fail
    go_ret
    exact ⟨rfl, ((Below.refl _ _).alloc (Nat.le_refl _) _).trans (hb.mono (by simp))⟩
  have hcw : ∀ i, i < n → w1.cell? (x.add i) = some (.int .i64 (zs.getD i 0)) := fun i hi => by
    rw [← hc i hi]
    have hlt := lt_of_cell (hc i hi)
    rw [hb.cell (by simp; omega)]
    exact ((Below.refl w.heap.size w).alloc (Nat.le_refl _) _).cell hlt
  have hcp := copy24 w1 (madeCells #[.int .i64 0] n) x n c (zs.map (Value.int .i64)) 3 (size_madeCells _ _) (by simp [hl]) (by simp [Value.oneCell']) (fun j v hv => by
    rw [List.getElem?_map] at hv
    obtain ⟨z, hz, rfl⟩ := Option.map_eq_some_iff.1 hv
    have hj : j < n := by rw [← hl]; exact (List.getElem?_eq_some_iff.1 hz).1
    rw [hcw j hj]; simp [List.getD, hz])
  generalize hcs : (zs.map (Value.int .i64)).toArray = cs at hcp
  have Hcs := hide hcs
  clear hcs
  have ok : Ok w (w1.alloc (.cells cs 3)) w1.heap.size n b0 b1 b2 b3 := by
    have hz1 : w.heap.size < w1.heap.size := by have := hb.size; simp at this; omega
    have hbb : Below w.heap.size w w1 := ((Below.refl _ _).alloc (Nat.le_refl _) _).trans (hb.mono (by simp))
    have hbx : ∀ o, (w1.alloc (.cells cs 3)).cell? ⟨w.heap.size, o, none⟩ = (w.alloc (Obj.cells #[Value.bool b0, Value.bool b1, Value.bool b2, Value.bool b3] 43)).cell? ⟨w.heap.size, o, none⟩ := fun o => by
      rw [World.cell?_alloc_past _ _ _ hz1]
      exact hb.cell (p := ⟨w.heap.size, o, none⟩) (by simp)
    refine ⟨hbb.alloc hbb.size _, by simp; omega, by simp, fun i hi => ?_, ?_, ?_, ?_, ?_⟩
    · rw [World.cell?_alloc_at _ _ _ _ rfl, ← unhide Hcs]
      have : i < zs.length := by omega
      exact ⟨zs[i], by simp [this]⟩
    all_goals rw [hbx, World.cell?_alloc_at _ _ _ _ rfl]; rfl
  clear hb hc hcw Hcs
  have c0 := ok.c0
  have c1 := ok.c1
  have c2 := ok.c2
  have c3 := ok.c3
  go_wp2_with fail
  clear c0 c1 c2 c3
  revert hcp ok
  generalize w1.alloc (Obj.cells cs 3) = W2
  generalize w1.heap.size = g
  intro hcp ok
  clear hcp hmk
  refine (newRaw_any b0 b1 b2 b3 (some ⟨g, 0, none⟩) n n W2 (by omega) (fun i hi => by obtain ⟨z, hz⟩ := ok.cells i hi; exact ⟨g, 0, z, rfl, by simpa using hz⟩)).mono ?_
  rintro e W3 ⟨g1, rfl, hb3⟩
  replace ok := ok.step hb3
  clear hb3
  go_wp2_with fail
  refine (zzOpen_any _ _ _ _ _ _ _ _).mono ?_
  rintro e W4 ⟨rfl, hb4⟩
  replace ok := ok.step hb4
  clear hb4
  obtain ⟨c0, c1, c2, c3⟩ := And.intro ok.c0 (And.intro ok.c1 (And.intro ok.c2 ok.c3))
  go_wp2_with fail
  go_region_with (first
    | (go_at_call 24; refine (newRaw_any b0 b1 b2 b3 (some ⟨g, 0, none⟩) k n _ (by omega) ?_).mono ?_; (exact fun i hi => by obtain ⟨z, hz⟩ := ok.cells i (by omega); exact ⟨g, 0, z, rfl, by simpa using hz⟩); rintro e W5 ⟨g2, rfl, hb5⟩)
    | (go_at_call 23; refine (zzOpen_any _ _ _ _ _ _ _ _).mono ?_; rintro e W6 ⟨rfl, hb6⟩))
  replace ok := (ok.drew.step hb5).step hb6
  clear hb5 hb6 c0 c1 c2 c3
  go_wp2_with fail
  all_goals
    refine (newRaw_any false false false false _ _ _ _ ?_ ?_).mono ?_
    · omega
    · intro i hi
      first
        | (obtain ⟨z, hz⟩ := ok.cells (k + i) (by omega); exact ⟨g, k, z, rfl, hz⟩)
        | (exact absurd hi (by omega))
    rintro e W7 ⟨g3, rfl, hb7⟩
    replace ok := ok.step hb7
    clear hb7
    go_wp2_with fail
    refine (zzOpen_any _ _ _ _ _ _ _ _).mono ?_
    rintro e W8 ⟨rfl, hb8⟩
    replace ok := ok.step hb8
    have c0 := ok.c0
    have c1 := ok.c1
    have c2 := ok.c2
    have c3 := ok.c3
    clear hb8
    go_wp2_with fail
    refine (anySection_any _ _ _ _ _).mono ?_
    rintro e W9 ⟨rfl, hb9⟩
    replace ok := ok.step hb9
    clear hb9 c0 c1 c2 c3
    have hA0 := any4_none
    cases hA : any4 b0 b1 b2 b3 <;> by_cases hk : 0 < k <;> by_cases hn0 : 0 < n <;> by_cases hd : 0 < n - k
    all_goals first
      | omega
      | (go_wp2_with fail; go_ret; exact ⟨rfl, ok.below⟩)

set_option maxRecDepth 100000 in
set_option maxHeartbeats 400000 in
theorem join_out (b0 b1 b2 b3 : Bool) (a : Option Addr) (n c : Nat) (k : Int) (w : World) (hl : n ≤ maxLen) (ho : 65536 < (n : Int) ∨ k < 0 ∨ (n : Int) < k) :
    Calls Try.prog 6 #[.agg #[.bool b0, .bool b1, .bool b2, .bool b3], .slice a n c, .int .i64 k] w fun e w' => e = .returned (.bool true) ∧ Below w.heap.size w w' := by
  by_cases h1 : 65536 < (n : Int)
  all_goals by_cases h2 : k < 0
  all_goals by_cases h3 : (n : Int) < k
  all_goals first
    | (exfalso; omega)
    | skip
  all_goals
    go_enter Try.func6, Try.ntmps6
    go_wp2_with fail
    refine (zzBytesJoin_any _ _ _ _ _ _ _ _ _ hl).mono ?_
    rintro e w1 ⟨bb, rfl, hb⟩
    unfold maxLen at hl
    have bel : Below w.heap.size w w1 := ((Below.refl _ _).alloc (Nat.le_refl _) _).trans (hb.mono (by simp))
    clear hb
    cases bb
    all_goals (go_wp2_with fail; go_ret; exact ⟨rfl, bel⟩)

set_option maxRecDepth 100000 in
set_option maxHeartbeats 400000 in
theorem join_nil (b0 b1 b2 b3 : Bool) (w : World) :
    Calls Try.prog 6 #[.agg #[.bool b0, .bool b1, .bool b2, .bool b3], .slice none 0 0, .int .i64 0] w fun e w' => e = .returned (.bool true) ∧ Below w.heap.size w w' := by
  go_enter Try.func6, Try.ntmps6
  go_wp2_with fail
  refine (zzBytesJoin_any _ _ _ _ _ _ _ _ _ (Nat.zero_le _)).mono ?_
  rintro e w1 ⟨bb, rfl, hb⟩
  have ok : Ok w w1 w.heap.size 0 b0 b1 b2 b3 := by
    have hz1 : w.heap.size < w1.heap.size := by have := hb.size; simp at this; omega
    have hbb : Below w.heap.size w w1 := ((Below.refl _ _).alloc (Nat.le_refl _) _).trans (hb.mono (by simp))
    have hbx : ∀ o, w1.cell? ⟨w.heap.size, o, none⟩ = (w.alloc (Obj.cells #[Value.bool b0, Value.bool b1, Value.bool b2, Value.bool b3] 43)).cell? ⟨w.heap.size, o, none⟩ := fun o => hb.cell (p := ⟨w.heap.size, o, none⟩) (by simp)
    refine ⟨hbb, hz1, hz1, fun i hi => absurd hi (by omega), ?_, ?_, ?_, ?_⟩
    all_goals rw [hbx, World.cell?_alloc_at _ _ _ _ rfl]; rfl
  clear hb
  cases bb
  · go_wp2_with fail
    go_ret
    exact ⟨rfl, ok.below⟩
  have c0 := ok.c0
  have c1 := ok.c1
  have c2 := ok.c2
  have c3 := ok.c3
  go_wp2_with fail
  clear c0 c1 c2 c3
  refine (newRaw_any b0 b1 b2 b3 none 0 0 _ (by omega) (fun i hi => absurd hi (by omega))).mono ?_
  rintro e W3 ⟨g1, rfl, hb3⟩
  replace ok := ok.step hb3
  clear hb3
  go_wp2_with fail
  refine (zzOpen_any _ _ _ _ _ _ _ _).mono ?_
  rintro e W4 ⟨rfl, hb4⟩
  replace ok := ok.step hb4
  clear hb4
  have c0 := ok.c0
  have c1 := ok.c1
  have c2 := ok.c2
  have c3 := ok.c3
  go_wp2_with fail
  go_region_with (first
    | (go_at_call 24; refine (newRaw_any b0 b1 b2 b3 none 0 0 _ (by omega) ?_).mono ?_; (exact fun i hi => absurd hi (by omega)); rintro e W5 ⟨g2, rfl, hb5⟩)
    | (go_at_call 23; refine (zzOpen_any _ _ _ _ _ _ _ _).mono ?_; rintro e W6 ⟨rfl, hb6⟩))
  replace ok := (ok.drew.step hb5).step hb6
  clear hb5 hb6 c0 c1 c2 c3
  go_wp2_with fail
  refine (newRaw_any false false false false none 0 0 _ (by omega) (fun i hi => absurd hi (by omega))).mono ?_
  rintro e W7 ⟨g3, rfl, hb7⟩
  replace ok := ok.step hb7
  clear hb7
  go_wp2_with fail
  refine (zzOpen_any _ _ _ _ _ _ _ _).mono ?_
  rintro e W8 ⟨rfl, hb8⟩
  replace ok := ok.step hb8
  have c0 := ok.c0
  have c1 := ok.c1
  have c2 := ok.c2
  have c3 := ok.c3
  clear hb8
  go_wp2_with fail
  refine (anySection_any _ _ _ _ _).mono ?_
  rintro e W9 ⟨rfl, hb9⟩
  replace ok := ok.step hb9
  clear hb9 c0 c1 c2 c3
  have hA0 := any4_none
  cases hA : any4 b0 b1 b2 b3
  all_goals (go_wp2_with fail; go_ret; exact ⟨rfl, ok.below⟩)
theorem join_all (b0 b1 b2 b3 : Bool) (a : Option Addr) (n c : Nat) (k : Int) (zs : List Int) (w : World) (hr : IsRow .i64 w a n c zs) :
    Calls Try.prog 6 #[.agg #[.bool b0, .bool b1, .bool b2, .bool b3], .slice a n c, .int .i64 k] w fun e w' => e = .returned (.bool true) ∧ Below w.heap.size w w' := by
  have hl : n ≤ maxLen := by
    rcases hr with ⟨_, rfl, _, _⟩ | ⟨x, _, h1, h2, _⟩
    · exact Nat.zero_le _
    · exact Nat.le_trans h1 h2
  by_cases ho : 65536 < (n : Int) ∨ k < 0 ∨ (n : Int) < k
  · exact join_out b0 b1 b2 b3 a n c k w hl ho
  have hk0 : 0 ≤ k := by omega
  obtain ⟨kn, rfl⟩ := Int.eq_ofNat_of_zero_le hk0
  rcases hr with ⟨rfl, rfl, rfl, _⟩ | ⟨x, rfl, h1, _, h3, h4, _⟩
  · have : kn = 0 := by omega
    subst this
    exact join_nil b0 b1 b2 b3 w
  · refine join_walk b0 b1 b2 b3 x n c kn (zs.take n) w (by omega) (by omega) (by simp; omega) (fun i hi => ?_)
    rw [h4 i (by omega)]
    simp [List.getD, hi]

end Go.Proofs.Qxb6616375a
