/-
  THE WALK OF FnRawHTMLOpensOnAnyAddition.
-/
import Derived.Test.Qxb6616375aRaw
namespace Go.Proofs.Qxb6616375a
open Go.RowKit

/-- Behind the copy: the box, the copy's cells. Then 'grown' is laid: block G, n + 1 cells. -/
structure Gr (w W : World) (g G n : Nat) (b0 b1 b2 b3 : Bool) : Prop where
  ok : Ok w W g n b0 b1 b2 b3
  lo : w.heap.size < G
  ne : g ≠ G
  size : G < W.heap.size
  cells : ∀ i, i < n + 1 → ∃ z, W.cell? ⟨G, i, none⟩ = some (.int .i64 z)
  free : ∀ i, W.frozen? ⟨G, i, none⟩ = false

theorem Gr.store {w W : World} {g G n : Nat} {b0 b1 b2 b3 : Bool} (h : Gr w W g G n b0 b1 b2 b3) (i : Nat) (z : Int) : Gr w (W.setCell ⟨G, i, none⟩ (.int .i64 z)) g G n b0 b1 b2 b3 := by
  have hlo := h.lo
  have oth : ∀ b o, b ≠ G → (W.setCell ⟨G, i, none⟩ (.int .i64 z)).cell? ⟨b, o, none⟩ = W.cell? ⟨b, o, none⟩ := fun b o hb => World.cell?_setCell_other _ _ _ _ (fun e => hb (congrArg Addr.block e).symm)
  have hsz : (W.setCell ⟨G, i, none⟩ (.int .i64 z)).heap.size = W.heap.size := by simp [World.setCell]
  refine ⟨⟨h.ok.below.setCell (Nat.le_of_lt h.lo) _, by rw [hsz]; exact h.ok.s1, by rw [hsz]; exact h.ok.s2, fun j hj => ?_, ?_, ?_, ?_, ?_⟩, h.lo, h.ne, by rw [hsz]; exact h.size, fun j hj => ?_, fun j => ?_⟩
  · rw [oth _ _ h.ne]; exact h.ok.cells j hj
  · rw [oth _ _ (by omega)]; exact h.ok.c0
  · rw [oth _ _ (by omega)]; exact h.ok.c1
  · rw [oth _ _ (by omega)]; exact h.ok.c2
  · rw [oth _ _ (by omega)]; exact h.ok.c3
  · obtain ⟨y, hy⟩ := h.cells j hj
    by_cases e : i = j
    · subst e; exact ⟨z, World.cell?_setCell_same _ _ _ hy⟩
    · exact ⟨y, by rw [World.cell?_setCell_other _ _ _ _ (fun c => e (congrArg Addr.off c))]; exact hy⟩
  · rw [World.frozen?_setCell]; exact h.free j

theorem Gr.step {w W W' : World} {g G n : Nat} {b0 b1 b2 b3 : Bool} (h : Gr w W g G n b0 b1 b2 b3) (hb : Below W.heap.size W W') : Gr w W' g G n b0 b1 b2 b3 := by
  refine ⟨h.ok.step hb, h.lo, h.ne, Nat.lt_of_lt_of_le h.size hb.size, fun i hi => ?_, fun i => ?_⟩
  · rw [hb.cell h.size]; exact h.cells i hi
  · rw [hb.frozen h.size]; exact h.free i

theorem Gr.made {w W : World} {g n : Nat} {b0 b1 b2 b3 : Bool} (h : Ok w W g n b0 b1 b2 b3) : Gr w (W.alloc (.cells (madeCells #[.int .i64 0] (n + 1)) 3)) g W.heap.size n b0 b1 b2 b3 := by
  refine ⟨h.step ((Below.refl _ _).alloc (Nat.le_refl _) _), h.s1, Nat.ne_of_lt h.s2, by simp, fun i hi => ?_, fun i => ?_⟩
  · rw [World.cell?_alloc_at _ _ _ _ rfl]
    refine ⟨0, ?_⟩
    have hh : i < (madeCells #[.int .i64 0] (n + 1)).size := by rw [size_madeCells]; exact hi
    rw [Array.getElem?_eq_getElem hh]
    simp [madeCells, Nat.mod_one]
  · exact World.frozen?_alloc_at _ _ _ _ rfl

structure Mo (w W : World) (g G M n : Nat) (b0 b1 b2 b3 m0 m1 m2 m3 : Bool) : Prop where
  gr : Gr w W g G n b0 b1 b2 b3
  s : M < W.heap.size
  e0 : W.cell? ⟨M, 0, none⟩ = some (.bool m0)
  e1 : W.cell? ⟨M, 1, none⟩ = some (.bool m1)
  e2 : W.cell? ⟨M, 2, none⟩ = some (.bool m2)
  e3 : W.cell? ⟨M, 3, none⟩ = some (.bool m3)

theorem Mo.step {w W W' : World} {g G M n : Nat} {b0 b1 b2 b3 m0 m1 m2 m3 : Bool} (h : Mo w W g G M n b0 b1 b2 b3 m0 m1 m2 m3) (hb : Below W.heap.size W W') : Mo w W' g G M n b0 b1 b2 b3 m0 m1 m2 m3 := by
  refine ⟨h.gr.step hb, Nat.lt_of_lt_of_le h.s hb.size, ?_, ?_, ?_, ?_⟩
  · rw [hb.cell h.s]; exact h.e0
  · rw [hb.cell h.s]; exact h.e1
  · rw [hb.cell h.s]; exact h.e2
  · rw [hb.cell h.s]; exact h.e3

theorem Mo.made {w W : World} {g G n : Nat} {b0 b1 b2 b3 : Bool} (m0 m1 m2 m3 : Bool) (h : Gr w W g G n b0 b1 b2 b3) : Mo w (W.alloc (.cells #[.bool m0, .bool m1, .bool m2, .bool m3] 43)) g G W.heap.size n b0 b1 b2 b3 m0 m1 m2 m3 := by
  refine ⟨h.step ((Below.refl _ _).alloc (Nat.le_refl _) _), by simp, ?_, ?_, ?_, ?_⟩
  all_goals rw [World.cell?_alloc_at _ _ _ _ rfl]; rfl

set_option maxRecDepth 100000 in
set_option maxHeartbeats 400000 in
theorem add_walk (b0 b1 b2 b3 : Bool) (x : Addr) (n c k s : Nat) (pt : Int) (zs : List Int) (w : World) (hkn : k ≤ n) (hs : s ≤ 3) (hn : n ≤ 65536) (hl : zs.length = n) (hc : ∀ i, i < n → w.cell? (x.add i) = some (.int .i64 (zs.getD i 0))) :
    Calls Try.prog 7 #[.agg #[.bool b0, .bool b1, .bool b2, .bool b3], .slice (some x) n c, .int .i64 (k : Int), .int .i64 pt, .int .i64 (s : Int)] w fun e w' => e = .returned (.bool true) ∧ Below w.heap.size w w' := by
  have hmk : ∀ w : World, (Instr.makeSlice 24 (.int .i64 (n : Int)) (.int .i64 (n : Int))).run Try.prog w = .ok (.slice (some ⟨w.heap.size, 0, none⟩) n n) (w.alloc (.cells (madeCells #[.int .i64 0] n) 3)) := make24 n (by omega)
  have hmk1 : ∀ w : World, (Instr.makeSlice 24 (.int .i64 ((n : Int) + 1)) (.int .i64 ((n : Int) + 1))).run Try.prog w = .ok (.slice (some ⟨w.heap.size, 0, none⟩) (n + 1) (n + 1)) (w.alloc (.cells (madeCells #[.int .i64 0] (n + 1)) 3)) := make24 (n + 1) (by omega)
  have hk0' : ¬ (k : Int) < 0 := by omega
  have hkn' : ¬ (n : Int) < (k : Int) := by omega
  have hn' : ¬ 65536 < (n : Int) := by omega
  have hs0 : ¬ (s : Int) < 0 := by omega
  have hs3 : ¬ 3 < (s : Int) := by omega
  go_enter Try.func7, Try.ntmps7
  go_wp2_with fail
  refine (zzBytesAdd_any _ _ _ _ _ _ _ _ _ _ _ (by unfold maxLen; omega)).mono ?_
  rintro e w1 ⟨bb, rfl, hb⟩
  cases bb
  · go_wp2_with fail
    go_ret
    exact ⟨rfl, ((Below.refl _ _).alloc (Nat.le_refl _) _).trans (hb.mono (by simp))⟩
  have hcw : ∀ i, i < n → w1.cell? (x.add i) = some (.int .i64 (zs.getD i 0)) := fun i hi => by
    rw [← hc i hi]
    have hlt := lt_of_cell (hc i hi)
    rw [hb.cell (by simp; omega)]
    exact ((Below.refl w.heap.size w).alloc (Nat.le_refl _) _).cell hlt
  have hcp := copy24 w1 (madeCells #[.int .i64 0] n) x n c (zs.map (Value.int .i64)) 3 (size_madeCells _ _) (by simp [hl]) (by simp [Value.oneCell']) (fun j v hv => by
    rw [List.getElem?_map] at hv
    obtain ⟨z, hz, rfl⟩ := Option.map_eq_some_iff.1 hv
    have hj : j < n := by rw [← hl]; exact (List.getElem?_eq_some_iff.1 hz).1
    rw [hcw j hj]; simp [List.getD, hz])
  generalize hcs : (zs.map (Value.int .i64)).toArray = cs at hcp
  have Hcs := hide hcs
  clear hcs
  have ok : Ok w (w1.alloc (.cells cs 3)) w1.heap.size n b0 b1 b2 b3 := by
    have hz1 : w.heap.size < w1.heap.size := by have := hb.size; simp at this; omega
    have hbb : Below w.heap.size w w1 := ((Below.refl _ _).alloc (Nat.le_refl _) _).trans (hb.mono (by simp))
    have hbx : ∀ o, (w1.alloc (.cells cs 3)).cell? ⟨w.heap.size, o, none⟩ = (w.alloc (Obj.cells #[Value.bool b0, Value.bool b1, Value.bool b2, Value.bool b3] 43)).cell? ⟨w.heap.size, o, none⟩ := fun o => by
      rw [World.cell?_alloc_past _ _ _ hz1]
      exact hb.cell (p := ⟨w.heap.size, o, none⟩) (by simp)
    refine ⟨hbb.alloc hbb.size _, by simp; omega, by simp, fun i hi => ?_, ?_, ?_, ?_, ?_⟩
    · rw [World.cell?_alloc_at _ _ _ _ rfl, ← unhide Hcs]
      have : i < zs.length := by omega
      exact ⟨zs[i], by simp [this]⟩
    all_goals rw [hbx, World.cell?_alloc_at _ _ _ _ rfl]; rfl
  clear hb hc hcw Hcs
  go_wp2_with fail
  have gr := Gr.made ok
  have hsz : (w1.alloc (.cells cs 3)).heap.size = w1.heap.size + 1 := by simp
  rw [hsz] at gr
  revert gr ok hcp
  generalize (w1.alloc (Obj.cells cs 3)).alloc (Obj.cells (madeCells #[.int .i64 0] (n + 1)) 3) = W2
  generalize w1.heap.size + 1 = G
  generalize w1.alloc (Obj.cells cs 3) = W1
  generalize w1.heap.size = g
  intro hcp ok gr
  clear hcp ok hmk hmk1 hsz
  go_loopw [13] (fun i wr => ∃ m : Nat, m ≤ k ∧ i = .int .i64 m ∧ Gr w wr g G n b0 b1 b2 b3) (fun i _ => k - (intOf i).toNat)
  case atStart => exact ⟨0, Nat.zero_le _, rfl, gr⟩
  case round =>
    clear gr
    obtain ⟨m, hm, rfl, gr⟩ := hrel
    by_cases hlt : m < k
    · have hlt' : (m : Int) < k := by omega
      have hmn : (m : Int) < n := by omega
      have hmn1 : (m : Int) < (n : Int) + 1 := by omega
      obtain ⟨z, hz⟩ := gr.ok.cells m (by omega)
      obtain ⟨y, hy⟩ := gr.cells m (by omega)
      have hf := gr.free m
      go_wp2
      go_roundw
      case rel => exact ⟨m + 1, by omega, by go_num, gr.store _ _⟩
      case measure => simp [intOf]; omega
    · have hlt' : ¬ (m : Int) < k := by omega
      have hk1 : (k : Int) < (n : Int) + 1 := by omega
      obtain ⟨y, hy⟩ := gr.cells k (by omega)
      have hf := gr.free k
      go_wp2
      replace gr := gr.store k pt
      generalize wr.setCell ⟨G, k, none⟩ (.int .i64 pt) = wq at *
      clear hy hf
      go_loopw [14] (fun i wr => ∃ m : Nat, k ≤ m ∧ m ≤ n ∧ i = .int .i64 m ∧ Gr w wr g G n b0 b1 b2 b3) (fun i _ => n - (intOf i).toNat)
      case atStart => exact ⟨k, Nat.le_refl _, hkn, rfl, gr⟩
      case round =>
        clear gr
        obtain ⟨m2, hm1, hm2, rfl, gr⟩ := hrel
        by_cases hlt2 : m2 < n
        · have hlt2' : (m2 : Int) < n := by omega
          have hmn1 : (m2 : Int) + 1 < (n : Int) + 1 := by omega
          obtain ⟨z, hz⟩ := gr.ok.cells m2 (by omega)
          obtain ⟨y, hy⟩ := gr.cells (m2 + 1) (by omega)
          have hf := gr.free (m2 + 1)
          go_wp2
          go_roundw
          case rel => exact ⟨m2 + 1, by omega, by omega, by go_num, gr.store _ _⟩
          case measure => simp [intOf]; omega
        · have hlt2' : ¬ (m2 : Int) < n := by omega
          have c0 := gr.ok.c0
          have c1 := gr.ok.c1
          have c2 := gr.ok.c2
          have c3 := gr.ok.c3
          have hz := gr.ok.s1
          obtain rfl | rfl | rfl | rfl : s = 0 ∨ s = 1 ∨ s = 2 ∨ s = 3 := by omega
          · go_wp2_with fail
            have mo := Mo.made true b1 b2 b3 gr
            clear c0 c1 c2 c3 hz gr
            generalize wr.alloc (.cells #[.bool true, .bool b1, .bool b2, .bool b3] 43) = W3 at *
            generalize wr.heap.size = M at *
            have hM : any4 true b1 b2 b3 = true := by simp [any4]
            refine (anySection_any _ _ _ _ _).mono ?_
            rintro e W4 ⟨rfl, hb4⟩
            replace mo := mo.step hb4
            clear hb4
            cases hA : any4 b0 b1 b2 b3
            all_goals by_cases hn0 : 0 < n
            all_goals
              have c0 := mo.gr.ok.c0
              have c1 := mo.gr.ok.c1
              have c2 := mo.gr.ok.c2
              have c3 := mo.gr.ok.c3
              have hn1 : 0 < n + 1 := by omega
              go_wp2_with fail
              clear c0 c1 c2 c3
              refine (newRaw_any b0 b1 b2 b3 (some ⟨G, 0, none⟩) (n + 1) (n + 1) _ (by omega) (fun i hi => by obtain ⟨z, hz⟩ := mo.gr.cells i hi; exact ⟨G, 0, z, rfl, by simpa using hz⟩)).mono ?_
              rintro e W5 ⟨g1, rfl, hb5⟩
              replace mo := mo.step hb5
              clear hb5
              go_wp2_with fail
              refine (zzOpen_any _ _ _ _ _ _ _ _).mono ?_
              rintro e W6 ⟨rfl, hb6⟩
              replace mo := mo.step hb6
              clear hb6
              have e0 := mo.e0
              have e1 := mo.e1
              have e2 := mo.e2
              have e3 := mo.e3
              go_wp2_with fail
              clear e0 e1 e2 e3
              refine (newRaw_any true b1 b2 b3 (some ⟨g, 0, none⟩) n n _ (by omega) (fun i hi => by obtain ⟨z, hz⟩ := mo.gr.ok.cells i hi; exact ⟨g, 0, z, rfl, by simpa using hz⟩)).mono ?_
              rintro e W7 ⟨g2, rfl, hb7⟩
              replace mo := mo.step hb7
              clear hb7
              go_wp2_with fail
              refine (zzOpen_any _ _ _ _ _ _ _ _).mono ?_
              rintro e W8 ⟨rfl, hb8⟩
              replace mo := mo.step hb8
              clear hb8
              have c0 := mo.gr.ok.c0
              have c1 := mo.gr.ok.c1
              have c2 := mo.gr.ok.c2
              have c3 := mo.gr.ok.c3
              go_wp2_with fail
              clear c0 c1 c2 c3
              refine (newRaw_any b0 b1 b2 b3 (some ⟨g, 0, none⟩) n n _ (by omega) (fun i hi => by obtain ⟨z, hz⟩ := mo.gr.ok.cells i hi; exact ⟨g, 0, z, rfl, by simpa using hz⟩)).mono ?_
              rintro e W9 ⟨g3, rfl, hb9⟩
              replace mo := mo.step hb9
              clear hb9
              go_wp2_with fail
              refine (zzOpen_any _ _ _ _ _ _ _ _).mono ?_
              rintro e W10 ⟨rfl, hb10⟩
              replace mo := mo.step hb10
              clear hb10
              go_wp2_with fail
              go_ret
              exact ⟨rfl, mo.gr.ok.below⟩
          · go_wp2_with fail
            have mo := Mo.made b0 true b2 b3 gr
            clear c0 c1 c2 c3 hz gr
            generalize wr.alloc (.cells #[.bool b0, .bool true, .bool b2, .bool b3] 43) = W3 at *
            generalize wr.heap.size = M at *
            have hM : any4 b0 true b2 b3 = true := by simp [any4]
            refine (anySection_any _ _ _ _ _).mono ?_
            rintro e W4 ⟨rfl, hb4⟩
            replace mo := mo.step hb4
            clear hb4
            cases hA : any4 b0 b1 b2 b3
            all_goals by_cases hn0 : 0 < n
            all_goals
              have c0 := mo.gr.ok.c0
              have c1 := mo.gr.ok.c1
              have c2 := mo.gr.ok.c2
              have c3 := mo.gr.ok.c3
              have hn1 : 0 < n + 1 := by omega
              go_wp2_with fail
              clear c0 c1 c2 c3
              refine (newRaw_any b0 b1 b2 b3 (some ⟨G, 0, none⟩) (n + 1) (n + 1) _ (by omega) (fun i hi => by obtain ⟨z, hz⟩ := mo.gr.cells i hi; exact ⟨G, 0, z, rfl, by simpa using hz⟩)).mono ?_
              rintro e W5 ⟨g1, rfl, hb5⟩
              replace mo := mo.step hb5
              clear hb5
              go_wp2_with fail
              refine (zzOpen_any _ _ _ _ _ _ _ _).mono ?_
              rintro e W6 ⟨rfl, hb6⟩
              replace mo := mo.step hb6
              clear hb6
              have e0 := mo.e0
              have e1 := mo.e1
              have e2 := mo.e2
              have e3 := mo.e3
              go_wp2_with fail
              clear e0 e1 e2 e3
              refine (newRaw_any b0 true b2 b3 (some ⟨g, 0, none⟩) n n _ (by omega) (fun i hi => by obtain ⟨z, hz⟩ := mo.gr.ok.cells i hi; exact ⟨g, 0, z, rfl, by simpa using hz⟩)).mono ?_
              rintro e W7 ⟨g2, rfl, hb7⟩
              replace mo := mo.step hb7
              clear hb7
              go_wp2_with fail
              refine (zzOpen_any _ _ _ _ _ _ _ _).mono ?_
              rintro e W8 ⟨rfl, hb8⟩
              replace mo := mo.step hb8
              clear hb8
              have c0 := mo.gr.ok.c0
              have c1 := mo.gr.ok.c1
              have c2 := mo.gr.ok.c2
              have c3 := mo.gr.ok.c3
              go_wp2_with fail
              clear c0 c1 c2 c3
              refine (newRaw_any b0 b1 b2 b3 (some ⟨g, 0, none⟩) n n _ (by omega) (fun i hi => by obtain ⟨z, hz⟩ := mo.gr.ok.cells i hi; exact ⟨g, 0, z, rfl, by simpa using hz⟩)).mono ?_
              rintro e W9 ⟨g3, rfl, hb9⟩
              replace mo := mo.step hb9
              clear hb9
              go_wp2_with fail
              refine (zzOpen_any _ _ _ _ _ _ _ _).mono ?_
              rintro e W10 ⟨rfl, hb10⟩
              replace mo := mo.step hb10
              clear hb10
              go_wp2_with fail
              go_ret
              exact ⟨rfl, mo.gr.ok.below⟩
          · go_wp2_with fail
            have mo := Mo.made b0 b1 true b3 gr
            clear c0 c1 c2 c3 hz gr
            generalize wr.alloc (.cells #[.bool b0, .bool b1, .bool true, .bool b3] 43) = W3 at *
            generalize wr.heap.size = M at *
            have hM : any4 b0 b1 true b3 = true := by simp [any4]
            refine (anySection_any _ _ _ _ _).mono ?_
            rintro e W4 ⟨rfl, hb4⟩
            replace mo := mo.step hb4
            clear hb4
            cases hA : any4 b0 b1 b2 b3
            all_goals by_cases hn0 : 0 < n
            all_goals
              have c0 := mo.gr.ok.c0
              have c1 := mo.gr.ok.c1
              have c2 := mo.gr.ok.c2
              have c3 := mo.gr.ok.c3
              have hn1 : 0 < n + 1 := by omega
              go_wp2_with fail
              clear c0 c1 c2 c3
              refine (newRaw_any b0 b1 b2 b3 (some ⟨G, 0, none⟩) (n + 1) (n + 1) _ (by omega) (fun i hi => by obtain ⟨z, hz⟩ := mo.gr.cells i hi; exact ⟨G, 0, z, rfl, by simpa using hz⟩)).mono ?_
              rintro e W5 ⟨g1, rfl, hb5⟩
              replace mo := mo.step hb5
              clear hb5
              go_wp2_with fail
              refine (zzOpen_any _ _ _ _ _ _ _ _).mono ?_
              rintro e W6 ⟨rfl, hb6⟩
              replace mo := mo.step hb6
              clear hb6
              have e0 := mo.e0
              have e1 := mo.e1
              have e2 := mo.e2
              have e3 := mo.e3
              go_wp2_with fail
              clear e0 e1 e2 e3
              refine (newRaw_any b0 b1 true b3 (some ⟨g, 0, none⟩) n n _ (by omega) (fun i hi => by obtain ⟨z, hz⟩ := mo.gr.ok.cells i hi; exact ⟨g, 0, z, rfl, by simpa using hz⟩)).mono ?_
              rintro e W7 ⟨g2, rfl, hb7⟩
              replace mo := mo.step hb7
              clear hb7
              go_wp2_with fail
              refine (zzOpen_any _ _ _ _ _ _ _ _).mono ?_
              rintro e W8 ⟨rfl, hb8⟩
              replace mo := mo.step hb8
              clear hb8
              have c0 := mo.gr.ok.c0
              have c1 := mo.gr.ok.c1
              have c2 := mo.gr.ok.c2
              have c3 := mo.gr.ok.c3
              go_wp2_with fail
              clear c0 c1 c2 c3
              refine (newRaw_any b0 b1 b2 b3 (some ⟨g, 0, none⟩) n n _ (by omega) (fun i hi => by obtain ⟨z, hz⟩ := mo.gr.ok.cells i hi; exact ⟨g, 0, z, rfl, by simpa using hz⟩)).mono ?_
              rintro e W9 ⟨g3, rfl, hb9⟩
              replace mo := mo.step hb9
              clear hb9
              go_wp2_with fail
              refine (zzOpen_any _ _ _ _ _ _ _ _).mono ?_
              rintro e W10 ⟨rfl, hb10⟩
              replace mo := mo.step hb10
              clear hb10
              go_wp2_with fail
              go_ret
              exact ⟨rfl, mo.gr.ok.below⟩
          · go_wp2_with fail
            have mo := Mo.made b0 b1 b2 true gr
            clear c0 c1 c2 c3 hz gr
            generalize wr.alloc (.cells #[.bool b0, .bool b1, .bool b2, .bool true] 43) = W3 at *
            generalize wr.heap.size = M at *
            have hM : any4 b0 b1 b2 true = true := by simp [any4]
            refine (anySection_any _ _ _ _ _).mono ?_
            rintro e W4 ⟨rfl, hb4⟩
            replace mo := mo.step hb4
            clear hb4
            cases hA : any4 b0 b1 b2 b3
            all_goals by_cases hn0 : 0 < n
            all_goals
              have c0 := mo.gr.ok.c0
              have c1 := mo.gr.ok.c1
              have c2 := mo.gr.ok.c2
              have c3 := mo.gr.ok.c3
              have hn1 : 0 < n + 1 := by omega
              go_wp2_with fail
              clear c0 c1 c2 c3
              refine (newRaw_any b0 b1 b2 b3 (some ⟨G, 0, none⟩) (n + 1) (n + 1) _ (by omega) (fun i hi => by obtain ⟨z, hz⟩ := mo.gr.cells i hi; exact ⟨G, 0, z, rfl, by simpa using hz⟩)).mono ?_
              rintro e W5 ⟨g1, rfl, hb5⟩
              replace mo := mo.step hb5
              clear hb5
              go_wp2_with fail
              refine (zzOpen_any _ _ _ _ _ _ _ _).mono ?_
              rintro e W6 ⟨rfl, hb6⟩
              replace mo := mo.step hb6
              clear hb6
              have e0 := mo.e0
              have e1 := mo.e1
              have e2 := mo.e2
              have e3 := mo.e3
              go_wp2_with fail
              clear e0 e1 e2 e3
              refine (newRaw_any b0 b1 b2 true (some ⟨g, 0, none⟩) n n _ (by omega) (fun i hi => by obtain ⟨z, hz⟩ := mo.gr.ok.cells i hi; exact ⟨g, 0, z, rfl, by simpa using hz⟩)).mono ?_
              rintro e W7 ⟨g2, rfl, hb7⟩
              replace mo := mo.step hb7
              clear hb7
              go_wp2_with fail
              refine (zzOpen_any _ _ _ _ _ _ _ _).mono ?_
              rintro e W8 ⟨rfl, hb8⟩
              replace mo := mo.step hb8
              clear hb8
              have c0 := mo.gr.ok.c0
              have c1 := mo.gr.ok.c1
              have c2 := mo.gr.ok.c2
              have c3 := mo.gr.ok.c3
              go_wp2_with fail
              clear c0 c1 c2 c3
              refine (newRaw_any b0 b1 b2 b3 (some ⟨g, 0, none⟩) n n _ (by omega) (fun i hi => by obtain ⟨z, hz⟩ := mo.gr.ok.cells i hi; exact ⟨g, 0, z, rfl, by simpa using hz⟩)).mono ?_
              rintro e W9 ⟨g3, rfl, hb9⟩
              replace mo := mo.step hb9
              clear hb9
              go_wp2_with fail
              refine (zzOpen_any _ _ _ _ _ _ _ _).mono ?_
              rintro e W10 ⟨rfl, hb10⟩
              replace mo := mo.step hb10
              clear hb10
              go_wp2_with fail
              go_ret
              exact ⟨rfl, mo.gr.ok.below⟩

set_option maxRecDepth 100000 in
set_option maxHeartbeats 400000 in
theorem add_nil (b0 b1 b2 b3 : Bool) (s : Nat) (pt : Int) (w : World) (hs : s ≤ 3) :
    Calls Try.prog 7 #[.agg #[.bool b0, .bool b1, .bool b2, .bool b3], .slice none 0 0, .int .i64 0, .int .i64 pt, .int .i64 (s : Int)] w fun e w' => e = .returned (.bool true) ∧ Below w.heap.size w w' := by
  have hmk1 : ∀ w : World, (Instr.makeSlice 24 (.int .i64 1) (.int .i64 1)).run Try.prog w = .ok (.slice (some ⟨w.heap.size, 0, none⟩) 1 1) (w.alloc (.cells (madeCells #[.int .i64 0] (0 + 1)) 3)) := make24 1 (by omega)
  have hs0 : ¬ (s : Int) < 0 := by omega
  have hs3 : ¬ 3 < (s : Int) := by omega
  go_enter Try.func7, Try.ntmps7
  go_wp2_with fail
  refine (zzBytesAdd_any _ _ _ _ _ _ _ _ _ _ _ (Nat.zero_le _)).mono ?_
  rintro e w1 ⟨bb, rfl, hb⟩
  have ok : Ok w w1 w.heap.size 0 b0 b1 b2 b3 := by
    have hz1 : w.heap.size < w1.heap.size := by have := hb.size; simp at this; omega
    have hbb : Below w.heap.size w w1 := ((Below.refl _ _).alloc (Nat.le_refl _) _).trans (hb.mono (by simp))
    have hbx : ∀ o, w1.cell? ⟨w.heap.size, o, none⟩ = (w.alloc (Obj.cells #[Value.bool b0, Value.bool b1, Value.bool b2, Value.bool b3] 43)).cell? ⟨w.heap.size, o, none⟩ := fun o => hb.cell (p := ⟨w.heap.size, o, none⟩) (by simp)
    refine ⟨hbb, hz1, hz1, fun i hi => absurd hi (by omega), ?_, ?_, ?_, ?_⟩
    all_goals rw [hbx, World.cell?_alloc_at _ _ _ _ rfl]; rfl
  clear hb
  cases bb
  · go_wp2_with fail
    go_ret
    exact ⟨rfl, ok.below⟩
  have gr := Gr.made ok
  generalize hM1 : madeCells #[.int .i64 0] (0 + 1) = cs1 at hmk1 gr
  clear hM1
  go_wp2_with fail
  generalize w1.alloc (Obj.cells cs1 3) = W2 at *
  generalize w1.heap.size = G at *
  clear ok hmk1
  refine wp_loop_once ?_
  obtain ⟨y, hy⟩ := gr.cells 0 (by omega)
  have hf := gr.free 0
  go_wp2_with fail
  replace gr := gr.store 0 pt
  generalize W2.setCell ⟨G, 0, none⟩ (.int .i64 pt) = wr at *
  clear hy hf
  refine wp_loop_once ?_
  have c0 := gr.ok.c0
  have c1 := gr.ok.c1
  have c2 := gr.ok.c2
  have c3 := gr.ok.c3
  have hz := gr.ok.s1
  obtain rfl | rfl | rfl | rfl : s = 0 ∨ s = 1 ∨ s = 2 ∨ s = 3 := by omega
  · go_wp2_with fail
    have mo := Mo.made true b1 b2 b3 gr
    clear c0 c1 c2 c3 hz gr
    generalize wr.alloc (.cells #[.bool true, .bool b1, .bool b2, .bool b3] 43) = W3 at *
    generalize wr.heap.size = M at *
    have hM : any4 true b1 b2 b3 = true := by simp [any4]
    refine (anySection_any _ _ _ _ _).mono ?_
    rintro e W4 ⟨rfl, hb4⟩
    replace mo := mo.step hb4
    clear hb4
    cases hA : any4 b0 b1 b2 b3
    all_goals
      have c0 := mo.gr.ok.c0
      have c1 := mo.gr.ok.c1
      have c2 := mo.gr.ok.c2
      have c3 := mo.gr.ok.c3
      go_wp2_with fail
      clear c0 c1 c2 c3
      refine (newRaw_any b0 b1 b2 b3 (some ⟨G, 0, none⟩) 1 1 _ (by omega) (fun i hi => by obtain ⟨z, hz⟩ := mo.gr.cells i hi; exact ⟨G, 0, z, rfl, by simpa using hz⟩)).mono ?_
      rintro e W5 ⟨g1, rfl, hb5⟩
      replace mo := mo.step hb5
      clear hb5
      go_wp2_with fail
      refine (zzOpen_any _ _ _ _ _ _ _ _).mono ?_
      rintro e W6 ⟨rfl, hb6⟩
      replace mo := mo.step hb6
      clear hb6
      have e0 := mo.e0
      have e1 := mo.e1
      have e2 := mo.e2
      have e3 := mo.e3
      go_wp2_with fail
      clear e0 e1 e2 e3
      refine (newRaw_any true b1 b2 b3 none 0 0 _ (by omega) (fun i hi => absurd hi (by omega))).mono ?_
      rintro e W7 ⟨g2, rfl, hb7⟩
      replace mo := mo.step hb7
      clear hb7
      go_wp2_with fail
      refine (zzOpen_any _ _ _ _ _ _ _ _).mono ?_
      rintro e W8 ⟨rfl, hb8⟩
      replace mo := mo.step hb8
      clear hb8
      have c0 := mo.gr.ok.c0
      have c1 := mo.gr.ok.c1
      have c2 := mo.gr.ok.c2
      have c3 := mo.gr.ok.c3
      go_wp2_with fail
      clear c0 c1 c2 c3
      refine (newRaw_any b0 b1 b2 b3 none 0 0 _ (by omega) (fun i hi => absurd hi (by omega))).mono ?_
      rintro e W9 ⟨g3, rfl, hb9⟩
      replace mo := mo.step hb9
      clear hb9
      go_wp2_with fail
      refine (zzOpen_any _ _ _ _ _ _ _ _).mono ?_
      rintro e W10 ⟨rfl, hb10⟩
      replace mo := mo.step hb10
      clear hb10
      go_wp2_with fail
      go_ret
      exact ⟨rfl, mo.gr.ok.below⟩
  · go_wp2_with fail
    have mo := Mo.made b0 true b2 b3 gr
    clear c0 c1 c2 c3 hz gr
    generalize wr.alloc (.cells #[.bool b0, .bool true, .bool b2, .bool b3] 43) = W3 at *
    generalize wr.heap.size = M at *
    have hM : any4 b0 true b2 b3 = true := by simp [any4]
    refine (anySection_any _ _ _ _ _).mono ?_
    rintro e W4 ⟨rfl, hb4⟩
    replace mo := mo.step hb4
    clear hb4
    cases hA : any4 b0 b1 b2 b3
    all_goals
      have c0 := mo.gr.ok.c0
      have c1 := mo.gr.ok.c1
      have c2 := mo.gr.ok.c2
      have c3 := mo.gr.ok.c3
      go_wp2_with fail
      clear c0 c1 c2 c3
      refine (newRaw_any b0 b1 b2 b3 (some ⟨G, 0, none⟩) 1 1 _ (by omega) (fun i hi => by obtain ⟨z, hz⟩ := mo.gr.cells i hi; exact ⟨G, 0, z, rfl, by simpa using hz⟩)).mono ?_
      rintro e W5 ⟨g1, rfl, hb5⟩
      replace mo := mo.step hb5
      clear hb5
      go_wp2_with fail
      refine (zzOpen_any _ _ _ _ _ _ _ _).mono ?_
      rintro e W6 ⟨rfl, hb6⟩
      replace mo := mo.step hb6
      clear hb6
      have e0 := mo.e0
      have e1 := mo.e1
      have e2 := mo.e2
      have e3 := mo.e3
      go_wp2_with fail
      clear e0 e1 e2 e3
      refine (newRaw_any b0 true b2 b3 none 0 0 _ (by omega) (fun i hi => absurd hi (by omega))).mono ?_
      rintro e W7 ⟨g2, rfl, hb7⟩
      replace mo := mo.step hb7
      clear hb7
      go_wp2_with fail
      refine (zzOpen_any _ _ _ _ _ _ _ _).mono ?_
      rintro e W8 ⟨rfl, hb8⟩
      replace mo := mo.step hb8
      clear hb8
      have c0 := mo.gr.ok.c0
      have c1 := mo.gr.ok.c1
      have c2 := mo.gr.ok.c2
      have c3 := mo.gr.ok.c3
      go_wp2_with fail
      clear c0 c1 c2 c3
      refine (newRaw_any b0 b1 b2 b3 none 0 0 _ (by omega) (fun i hi => absurd hi (by omega))).mono ?_
      rintro e W9 ⟨g3, rfl, hb9⟩
      replace mo := mo.step hb9
      clear hb9
      go_wp2_with fail
      refine (zzOpen_any _ _ _ _ _ _ _ _).mono ?_
      rintro e W10 ⟨rfl, hb10⟩
      replace mo := mo.step hb10
      clear hb10
      go_wp2_with fail
      go_ret
      exact ⟨rfl, mo.gr.ok.below⟩
  · go_wp2_with fail
    have mo := Mo.made b0 b1 true b3 gr
    clear c0 c1 c2 c3 hz gr
    generalize wr.alloc (.cells #[.bool b0, .bool b1, .bool true, .bool b3] 43) = W3 at *
    generalize wr.heap.size = M at *
    have hM : any4 b0 b1 true b3 = true := by simp [any4]
    refine (anySection_any _ _ _ _ _).mono ?_
    rintro e W4 ⟨rfl, hb4⟩
    replace mo := mo.step hb4
    clear hb4
    cases hA : any4 b0 b1 b2 b3
    all_goals
      have c0 := mo.gr.ok.c0
      have c1 := mo.gr.ok.c1
      have c2 := mo.gr.ok.c2
      have c3 := mo.gr.ok.c3
      go_wp2_with fail
      clear c0 c1 c2 c3
      refine (newRaw_any b0 b1 b2 b3 (some ⟨G, 0, none⟩) 1 1 _ (by omega) (fun i hi => by obtain ⟨z, hz⟩ := mo.gr.cells i hi; exact ⟨G, 0, z, rfl, by simpa using hz⟩)).mono ?_
      rintro e W5 ⟨g1, rfl, hb5⟩
      replace mo := mo.step hb5
      clear hb5
      go_wp2_with fail
      refine (zzOpen_any _ _ _ _ _ _ _ _).mono ?_
      rintro e W6 ⟨rfl, hb6⟩
      replace mo := mo.step hb6
      clear hb6
      have e0 := mo.e0
      have e1 := mo.e1
      have e2 := mo.e2
      have e3 := mo.e3
      go_wp2_with fail
      clear e0 e1 e2 e3
      refine (newRaw_any b0 b1 true b3 none 0 0 _ (by omega) (fun i hi => absurd hi (by omega))).mono ?_
      rintro e W7 ⟨g2, rfl, hb7⟩
      replace mo := mo.step hb7
      clear hb7
      go_wp2_with fail
      refine (zzOpen_any _ _ _ _ _ _ _ _).mono ?_
      rintro e W8 ⟨rfl, hb8⟩
      replace mo := mo.step hb8
      clear hb8
      have c0 := mo.gr.ok.c0
      have c1 := mo.gr.ok.c1
      have c2 := mo.gr.ok.c2
      have c3 := mo.gr.ok.c3
      go_wp2_with fail
      clear c0 c1 c2 c3
      refine (newRaw_any b0 b1 b2 b3 none 0 0 _ (by omega) (fun i hi => absurd hi (by omega))).mono ?_
      rintro e W9 ⟨g3, rfl, hb9⟩
      replace mo := mo.step hb9
      clear hb9
      go_wp2_with fail
      refine (zzOpen_any _ _ _ _ _ _ _ _).mono ?_
      rintro e W10 ⟨rfl, hb10⟩
      replace mo := mo.step hb10
      clear hb10
      go_wp2_with fail
      go_ret
      exact ⟨rfl, mo.gr.ok.below⟩
  · go_wp2_with fail
    have mo := Mo.made b0 b1 b2 true gr
    clear c0 c1 c2 c3 hz gr
    generalize wr.alloc (.cells #[.bool b0, .bool b1, .bool b2, .bool true] 43) = W3 at *
    generalize wr.heap.size = M at *
    have hM : any4 b0 b1 b2 true = true := by simp [any4]
    refine (anySection_any _ _ _ _ _).mono ?_
    rintro e W4 ⟨rfl, hb4⟩
    replace mo := mo.step hb4
    clear hb4
    cases hA : any4 b0 b1 b2 b3
    all_goals
      have c0 := mo.gr.ok.c0
      have c1 := mo.gr.ok.c1
      have c2 := mo.gr.ok.c2
      have c3 := mo.gr.ok.c3
      go_wp2_with fail
      clear c0 c1 c2 c3
      refine (newRaw_any b0 b1 b2 b3 (some ⟨G, 0, none⟩) 1 1 _ (by omega) (fun i hi => by obtain ⟨z, hz⟩ := mo.gr.cells i hi; exact ⟨G, 0, z, rfl, by simpa using hz⟩)).mono ?_
      rintro e W5 ⟨g1, rfl, hb5⟩
      replace mo := mo.step hb5
      clear hb5
      go_wp2_with fail
      refine (zzOpen_any _ _ _ _ _ _ _ _).mono ?_
      rintro e W6 ⟨rfl, hb6⟩
      replace mo := mo.step hb6
      clear hb6
      have e0 := mo.e0
      have e1 := mo.e1
      have e2 := mo.e2
      have e3 := mo.e3
      go_wp2_with fail
      clear e0 e1 e2 e3
      refine (newRaw_any b0 b1 b2 true none 0 0 _ (by omega) (fun i hi => absurd hi (by omega))).mono ?_
      rintro e W7 ⟨g2, rfl, hb7⟩
      replace mo := mo.step hb7
      clear hb7
      go_wp2_with fail
      refine (zzOpen_any _ _ _ _ _ _ _ _).mono ?_
      rintro e W8 ⟨rfl, hb8⟩
      replace mo := mo.step hb8
      clear hb8
      have c0 := mo.gr.ok.c0
      have c1 := mo.gr.ok.c1
      have c2 := mo.gr.ok.c2
      have c3 := mo.gr.ok.c3
      go_wp2_with fail
      clear c0 c1 c2 c3
      refine (newRaw_any b0 b1 b2 b3 none 0 0 _ (by omega) (fun i hi => absurd hi (by omega))).mono ?_
      rintro e W9 ⟨g3, rfl, hb9⟩
      replace mo := mo.step hb9
      clear hb9
      go_wp2_with fail
      refine (zzOpen_any _ _ _ _ _ _ _ _).mono ?_
      rintro e W10 ⟨rfl, hb10⟩
      replace mo := mo.step hb10
      clear hb10
      go_wp2_with fail
      go_ret
      exact ⟨rfl, mo.gr.ok.below⟩

set_option maxRecDepth 100000 in
set_option maxHeartbeats 1000000 in
theorem add_out (b0 b1 b2 b3 : Bool) (a : Option Addr) (n c : Nat) (k pt s : Int) (w : World) (hl : n ≤ maxLen) (ho : 65536 < (n : Int) ∨ k < 0 ∨ (n : Int) < k ∨ s < 0 ∨ 3 < s) :
    Calls Try.prog 7 #[.agg #[.bool b0, .bool b1, .bool b2, .bool b3], .slice a n c, .int .i64 k, .int .i64 pt, .int .i64 s] w fun e w' => e = .returned (.bool true) ∧ Below w.heap.size w w' := by
  go_enter Try.func7, Try.ntmps7
  go_wp2_with fail
  refine (zzBytesAdd_any _ _ _ _ _ _ _ _ _ _ _ hl).mono ?_
  rintro e w1 ⟨bb, rfl, hb⟩
  unfold maxLen at hl
  have bel : Below w.heap.size w w1 := ((Below.refl _ _).alloc (Nat.le_refl _) _).trans (hb.mono (by simp))
  clear hb
  cases bb
  · go_wp2_with fail
    go_ret
    exact ⟨rfl, bel⟩
  by_cases h1 : 65536 < (n : Int)
  · go_wp2_with fail
    go_ret
    exact ⟨rfl, bel⟩
  by_cases h2 : k < 0
  · go_wp2_with fail
    go_ret
    exact ⟨rfl, bel⟩
  by_cases h3 : (n : Int) < k
  · go_wp2_with fail
    go_ret
    exact ⟨rfl, bel⟩
  by_cases h4 : s < 0
  · go_wp2_with fail
    go_ret
    exact ⟨rfl, bel⟩
  have h5 : 3 < s := by omega
  go_wp2_with fail
  go_ret
  exact ⟨rfl, bel⟩

theorem add_all (b0 b1 b2 b3 : Bool) (a : Option Addr) (n c : Nat) (k pt s : Int) (zs : List Int) (w : World) (hr : IsRow .i64 w a n c zs) :
    Calls Try.prog 7 #[.agg #[.bool b0, .bool b1, .bool b2, .bool b3], .slice a n c, .int .i64 k, .int .i64 pt, .int .i64 s] w fun e w' => e = .returned (.bool true) ∧ Below w.heap.size w w' := by
  have hl : n ≤ maxLen := by
    rcases hr with ⟨_, rfl, _, _⟩ | ⟨x, _, h1, h2, _⟩
    · exact Nat.zero_le _
    · exact Nat.le_trans h1 h2
  by_cases ho : 65536 < (n : Int) ∨ k < 0 ∨ (n : Int) < k ∨ s < 0 ∨ 3 < s
  · exact add_out b0 b1 b2 b3 a n c k pt s w hl ho
  have hk0 : 0 ≤ k := by omega
  have hs0 : 0 ≤ s := by omega
  obtain ⟨kn, rfl⟩ := Int.eq_ofNat_of_zero_le hk0
  obtain ⟨sn, rfl⟩ := Int.eq_ofNat_of_zero_le hs0
  rcases hr with ⟨rfl, rfl, rfl, _⟩ | ⟨x, rfl, h1, _, h3, h4, _⟩
  · have : kn = 0 := by omega
    subst this
    exact add_nil b0 b1 b2 b3 sn pt w (by omega)
  · refine add_walk b0 b1 b2 b3 x n c kn sn pt (zs.take n) w (by omega) (by omega) (by omega) (by simp; omega) (fun i hi => ?_)
    rw [h4 i (by omega)]
    simp [List.getD, hi]

end Go.Proofs.Qxb6616375a
