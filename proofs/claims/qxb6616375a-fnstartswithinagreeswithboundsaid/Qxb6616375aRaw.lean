/-
  THE WALKS OF THE SMALL CALLEES of the two laws on rawHTML: open, ZZopen, ZZnewRawHTML, anySection, the length guards; the copy of a slice of ints.
-/
import Derived.Test.Qxb6616375aRows
import Derived.WalkKit
import Derived.WalkSpells
import Derived.WalkLawsBesides
import Derived.ProofKit
import Derived.OpenShut
import Derived.Lib.SmallJoins
import Derived.Deep.MidRow
import Derived.Deep.WholeRow
import Derived.Deep.RegionWith
import Derived.BigQuiet
import Derived.Deep.QuietTactic
namespace Go.Proofs.Qxb6616375a
open Go.RowKit

/-- Is some section open? -/
def any4 (b0 b1 b2 b3 : Bool) : Bool := b0 || b1 || b2 || b3
theorem any4_none : any4 false false false false = false := rfl

theorem ret_bool {a b : Bool} (h : a = b) : Ending.returned (.bool a) = .returned (.bool b) := by rw [h]

@[go_sem] theorem eq43 (b0 b1 b2 b3 : Bool) (w : World) : (Op.equalIn 10000 43 (.agg #[.bool b0, .bool b1, .bool b2, .bool b3]) (.agg #[.bool false, .bool false, .bool false, .bool false])).run Try.prog w = .ok (!(b0 || b1 || b2 || b3)) w := by
  cases b0 <;> cases b1 <;> cases b2 <;> cases b3 <;> kernel_rfl

set_option maxRecDepth 100000 in
set_option maxHeartbeats 400000 in
theorem open_any (b0 b1 b2 b3 : Bool) (a : Option Addr) (l c : Nat) (w : World) :
    Calls Try.prog 30 #[.agg #[.bool b0, .bool b1, .bool b2, .bool b3, .slice a l c]] w fun e w' => e = .returned (.bool (any4 b0 b1 b2 b3 || decide (0 < l))) ∧ w' = w.alloc (.cells #[.bool b0, .bool b1, .bool b2, .bool b3, .slice a l c] 48) := by
  cases hb : (b0 || b1 || b2 || b3)
  all_goals
    go_enter Try.func30, Try.ntmps30
    go_wp2
    all_goals (go_ret; exact ⟨ret_bool (by simp [any4, hb]), rfl⟩)

set_option maxRecDepth 100000 in
set_option maxHeartbeats 400000 in
theorem zzOpen_any (b0 b1 b2 b3 : Bool) (a : Option Addr) (l c : Nat) (w : World) :
    Calls Try.prog 23 #[.agg #[.bool b0, .bool b1, .bool b2, .bool b3, .slice a l c]] w fun e w' => e = .returned (.bool (any4 b0 b1 b2 b3 || decide (0 < l))) ∧ Below w.heap.size w w' := by
  go_enter Try.func23, Try.ntmps23
  go_wp2_with (go_at_call 30; refine (open_any _ _ _ _ _ _ _ _).mono ?_; rintro e w' ⟨rfl, rfl⟩)
  go_ret
  exact ⟨rfl, by repeat (first | exact Below.refl _ _ | refine Below.alloc ?_ (by simp) _)⟩

set_option maxRecDepth 100000 in
set_option maxHeartbeats 400000 in
theorem anySection_any (b0 b1 b2 b3 : Bool) (w : World) :
    Calls Try.prog 25 #[.agg #[.bool b0, .bool b1, .bool b2, .bool b3]] w fun e w' => e = .returned (.bool (any4 b0 b1 b2 b3)) ∧ Below w.heap.size w w' := by
  go_enter Try.func25, Try.ntmps25
  go_wp2
  all_goals (go_ret; exact ⟨ret_bool (by simp_all [any4]), by repeat (first | exact Below.refl _ _ | refine Below.alloc ?_ (by simp) _)⟩)

set_option maxHeartbeats 400000 in
theorem zzBytesJoin_any (b0 b1 b2 b3 : Bool) (a : Option Addr) (l c : Nat) (k : Int) (w : World) (hl : l ≤ maxLen) :
    Calls Try.prog 22 #[.agg #[.bool b0, .bool b1, .bool b2, .bool b3], .slice a l c, .int .i64 k] w fun e w' => ∃ b, e = .returned (.bool b) ∧ Below w.heap.size w w' := by
  unfold maxLen at hl
  go_enter Try.func22, Try.ntmps22
  go_wp2
  all_goals (go_ret; exact ⟨_, rfl, by repeat (first | exact Below.refl _ _ | refine Below.alloc ?_ (by simp) _)⟩)

set_option maxHeartbeats 400000 in
theorem zzBytesAdd_any (b0 b1 b2 b3 : Bool) (a : Option Addr) (l c : Nat) (k p s : Int) (w : World) (hl : l ≤ maxLen) :
    Calls Try.prog 26 #[.agg #[.bool b0, .bool b1, .bool b2, .bool b3], .slice a l c, .int .i64 k, .int .i64 p, .int .i64 s] w fun e w' => ∃ b, e = .returned (.bool b) ∧ Below w.heap.size w w' := by
  unfold maxLen at hl
  go_enter Try.func26, Try.ntmps26
  go_wp2
  all_goals (go_ret; exact ⟨_, rfl, by repeat (first | exact Below.refl _ _ | refine Below.alloc ?_ (by simp) _)⟩)

theorem info80 : (Try.prog.info? 80).map (fun i => (i.zero, i.size, i.bytes)) = some (some (.agg #[.int .i64 0, .int .u8 0]), 2, 16) := by kernel_rfl

theorem make46 (n : Nat) (hn : n ≤ 1000000) (w : World) : (Instr.makeSlice 46 (.int .i64 (n : Int)) (.int .i64 (n : Int))).run Try.prog w = .ok (.slice (some ⟨w.heap.size, 0, none⟩) n n) (w.alloc (.cells (madeCells #[.int .i64 0, .int .u8 0] (n * 2)) 80)) := by
  obtain ⟨i, hi, hz0, hz1, hz2⟩ := info_parts info80
  have := run_make (P := Try.prog) w 46 80 i _ (by kernel_rfl) hi hz0 .i64 .i64 n n (by omega) (by omega) (by rw [hz2]; omega) (by omega)
  rw [this, hz1]
  simp [Value.cells]


def w0 (b0 b1 b2 b3 : Bool) (n : Nat) (w : World) : World := ((w.alloc (.cells #[.bool b0, .bool b1, .bool b2, .bool b3] 43)).alloc (.cells #[.bool false, .bool false, .bool false, .bool false, .slice none 0 0] 48)).alloc (.cells (madeCells #[.int .i64 0, .int .u8 0] (n * 2)) 80)

theorem w0_there (b0 b1 b2 b3 : Bool) (n : Nat) (w : World) : (w0 b0 b1 b2 b3 n w).there (w.heap.size + 1 + 1) 0 (n * 2) := by
  intro j hj
  have h := World.cell?_alloc_at (w := ((w.alloc (.cells #[.bool b0, .bool b1, .bool b2, .bool b3] 43)).alloc (.cells #[.bool false, .bool false, .bool false, .bool false, .slice none 0 0] 48))) (madeCells #[.int .i64 0, .int .u8 0] (n * 2)) 80 (w.heap.size + 1 + 1) (0 + j) (by simp)
  have f := World.frozen?_alloc_at (w := ((w.alloc (.cells #[.bool b0, .bool b1, .bool b2, .bool b3] 43)).alloc (.cells #[.bool false, .bool false, .bool false, .bool false, .slice none 0 0] 48))) (madeCells #[.int .i64 0, .int .u8 0] (n * 2)) 80 (w.heap.size + 1 + 1) (0 + j) (by simp)
  refine ⟨?_, f⟩
  unfold w0
  rw [h]
  simp [size_madeCells]
  omega

theorem there_at {w : World} {b n : Nat} (h : w.there b 0 n) (j : Nat) (hj : j < n) : (∃ u, w.cell? ⟨b, j, none⟩ = some u) ∧ w.frozen? ⟨b, j, none⟩ = false := by
  obtain ⟨h1, h2⟩ := h j hj
  rw [Nat.zero_add] at h1 h2
  exact ⟨Option.isSome_iff_exists.1 h1, h2⟩

theorem lt_of_cell {w : World} {a : Addr} {v : Value} (h : w.cell? a = some v) : a.block < w.heap.size := by
  rcases Nat.lt_or_ge a.block w.heap.size with h1 | h1
  · exact h1
  · simp [World.cell?, Array.getElem?_eq_none h1] at h

theorem info3 : (Try.prog.info? 3).map (fun i => (i.zero, i.size, i.bytes)) = some (some (.int .i64 0), 1, 8) := by kernel_rfl

theorem make24 (n : Nat) (hn : n ≤ 1000000) (w : World) : (Instr.makeSlice 24 (.int .i64 (n : Int)) (.int .i64 (n : Int))).run Try.prog w = .ok (.slice (some ⟨w.heap.size, 0, none⟩) n n) (w.alloc (.cells (madeCells #[.int .i64 0] n) 3)) := by
  obtain ⟨i, hi, hz0, hz1, hz2⟩ := info_parts info3
  have := run_make (P := Try.prog) w 24 3 i _ (by kernel_rfl) hi hz0 .i64 .i64 n n (by omega) (by omega) (by rw [hz2]; omega) (by omega)
  rw [this, hz1]
  simp [Value.cells]

theorem hide {p : Prop} (h : p) : Hid p := h
theorem unhide {p : Prop} (h : Hid p) : p := h

theorem w0_below (b0 b1 b2 b3 : Bool) (n : Nat) (w : World) : Below w.heap.size w (w0 b0 b1 b2 b3 n w) := by
  unfold w0
  exact (((Below.refl _ _).alloc (Nat.le_refl _) _).alloc (by simp) _).alloc (by simp; omega) _

theorem w0_old {b0 b1 b2 b3 : Bool} {n : Nat} {w wr : World} (hb : Below (w.heap.size + 1 + 1) (w0 b0 b1 b2 b3 n w) wr) {a : Addr} {v : Value} (h : w.cell? a = some v) : wr.cell? a = w.cell? a := by
  have hl := lt_of_cell h
  rw [hb.cell (by omega), (w0_below b0 b1 b2 b3 n w).cell hl]

theorem there_setCell {w : World} {b o n : Nat} (h : w.there b o n) (a : Addr) (v : Value) : (w.setCell a v).there b o n := by
  intro j hj
  refine ⟨?_, ?_⟩
  · obtain ⟨u, hu⟩ := Option.isSome_iff_exists.1 (h j hj).1
    obtain ⟨u', hu'⟩ := cell?_setCell_some (w := w) (p := a) (x := v) (q := ⟨b, o + j, none⟩) (v := u) hu
    rw [hu']; rfl
  · rw [World.frozen?_setCell]; exact (h j hj).2

set_option maxRecDepth 100000 in
set_option maxHeartbeats 400000 in
theorem newRaw_any (b0 b1 b2 b3 : Bool) (ao : Option Addr) (n c : Nat) (w : World) (hn : n ≤ 1000000) (hc : ∀ i, i < n → ∃ b off z, ao = some ⟨b, off, none⟩ ∧ w.cell? ⟨b, off + i, none⟩ = some (.int .i64 z)) :
    Calls Try.prog 24 #[.agg #[.bool b0, .bool b1, .bool b2, .bool b3], .slice ao n c] w fun e w' => ∃ g, e = .returned (.agg #[.bool b0, .bool b1, .bool b2, .bool b3, .slice g n n]) ∧ Below w.heap.size w w' := by
  have hmk := make46 n hn
  go_enter Try.func24, Try.ntmps24
  go_wp2
  go_loopw [12] (fun i wr => ∃ k : Nat, k ≤ n ∧ i = .int .i64 k ∧ Below (w.heap.size + 1 + 1) (w0 b0 b1 b2 b3 n w) wr ∧ wr.there (w.heap.size + 1 + 1) 0 (n * 2)) (fun i _ => n - (intOf i).toNat)
  case atStart => exact ⟨0, Nat.zero_le _, rfl, Below.refl _ _, w0_there _ _ _ _ _ _⟩
  case round =>
    obtain ⟨k, hk, rfl, hb, ht⟩ := hrel
    by_cases hlt : k < n
    · have hlt' : (k : Int) < n := by omega
      obtain ⟨b, off, z, rfl, hz⟩ := hc k hlt
      have hz' : wr.cell? ⟨b, off + k, none⟩ = some (.int .i64 z) := by rw [← hz]; exact w0_old hb hz
      obtain ⟨⟨u0, g0⟩, f0⟩ := there_at ht (k * 2) (by omega)
      obtain ⟨⟨u1, g1⟩, f1⟩ := there_at ht (k * 2 + 1) (by omega)
      clear hz hc
      go_wp2
      go_roundw
      case rel => exact ⟨k + 1, by omega, by go_num, (hb.setCell (by simp) _).setCell (by simp) _, there_setCell (there_setCell ht _ _) _ _⟩
      case measure => simp [intOf]; omega
    · have hlt' : ¬ (k : Int) < n := by omega
      have hcl : ∀ bb o, bb < w.heap.size + 1 + 1 → wr.cell? ⟨bb, o, none⟩ = (w0 b0 b1 b2 b3 n w).cell? ⟨bb, o, none⟩ := fun bb o h => hb.cell (p := ⟨bb, o, none⟩) h
      have hfr : ∀ bb o, bb < w.heap.size + 1 + 1 → wr.frozen? ⟨bb, o, none⟩ = (w0 b0 b1 b2 b3 n w).frozen? ⟨bb, o, none⟩ := fun bb o h => hb.frozen (p := ⟨bb, o, none⟩) h
      have hz : w.heap.size + 1 + 1 < wr.heap.size := by have := hb.size; simp [w0] at this; omega
      unfold w0 at hcl hfr
      clear hc
      go_wp2
      refine bodyPost_ret (v := .agg #[.bool b0, .bool b1, .bool b2, .bool b3, .slice (some ⟨w.heap.size + 1 + 1, 0, none⟩) n n]) (by simp [results, Try.results24, go_sem, hcl]) rfl ⟨⟨_, rfl⟩, ?_⟩
      exact (((((((w0_below b0 b1 b2 b3 n w).trans (hb.mono (by omega))).setCell (by simp) _).setCell (by simp) _).setCell (by simp) _).setCell (by simp) _).setCell (by simp) _)

theorem copy24 (W : World) (m : Array Value) (x : Addr) (n c : Nat) (cs : List Value) (ty : TypeId) (hm : m.size = n) (hl : cs.length = n) (h1 : ∀ v ∈ cs, v.oneCell' = true) (hc : ∀ j v, cs[j]? = some v → W.cell? (x.add j) = some v) :
    (Builtin.copy_ #[24, 24] ty #[.slice (some ⟨W.heap.size, 0, none⟩) n n, .slice (some x) n c]).run Try.prog (W.alloc (.cells m 3)) = .ok (goInt n) (W.alloc (.cells cs.toArray 3)) := by
  have h := run_copy_row (P := Try.prog) (W.alloc (.cells m 3)) 24 24 ty 3 W.heap.size 0 n n x n c m 3 cs (by kernel_rfl) (by kernel_rfl) (heap_alloc_last W _) (by simp [hl]) (fun j v hv => by rw [← hc j v hv]; exact World.cell?_of_block (Below.heap_alloc _ _ _ (lt_of_cell (hc j v hv)))) (by omega) h1
  have e : (m.toList.take 0 ++ cs ++ m.toList.drop (0 + cs.length)).toArray = cs.toArray := by
    rw [List.drop_eq_nil_of_le (by simp; omega)]; simp
  rw [h, e, World.setRow_alloc_new, hl]


structure Ok (w W : World) (g n : Nat) (b0 b1 b2 b3 : Bool) : Prop where
  below : Below w.heap.size w W
  s1 : w.heap.size < W.heap.size
  s2 : g < W.heap.size
  cells : ∀ i, i < n → ∃ z, W.cell? ⟨g, i, none⟩ = some (.int .i64 z)
  c0 : W.cell? ⟨w.heap.size, 0, none⟩ = some (.bool b0)
  c1 : W.cell? ⟨w.heap.size, 1, none⟩ = some (.bool b1)
  c2 : W.cell? ⟨w.heap.size, 2, none⟩ = some (.bool b2)
  c3 : W.cell? ⟨w.heap.size, 3, none⟩ = some (.bool b3)

theorem Ok.drew {w W : World} {g n : Nat} {b0 b1 b2 b3 : Bool} (h : Ok w W g n b0 b1 b2 b3) : Ok w W.drew g n b0 b1 b2 b3 := ⟨h.below.drew, h.s1, h.s2, h.cells, h.c0, h.c1, h.c2, h.c3⟩

theorem Ok.step {w W W' : World} {g n : Nat} {b0 b1 b2 b3 : Bool} (h : Ok w W g n b0 b1 b2 b3) (hb : Below W.heap.size W W') : Ok w W' g n b0 b1 b2 b3 := by
  have hs := hb.size
  refine ⟨h.below.trans (hb.mono (Nat.le_of_lt h.s1)), Nat.lt_of_lt_of_le h.s1 hs, Nat.lt_of_lt_of_le h.s2 hs, fun i hi => ?_, ?_, ?_, ?_, ?_⟩
  · rw [hb.cell h.s2]; exact h.cells i hi
  · rw [hb.cell h.s1]; exact h.c0
  · rw [hb.cell h.s1]; exact h.c1
  · rw [hb.cell h.s1]; exact h.c2
  · rw [hb.cell h.s1]; exact h.c3


set_option maxRecDepth 100000 in
set_option linter.constructorNameAsVariable false in
theorem open_arr4 {H : Type} {enc : TypeId × Value → H} {W : World} {base base0 : Nat} {spare : Nat → Bool} {held : Bool} {v : Value} {d : DataW H} {p : List MemPlace}
    (hv : Value.okWide Try.prog W .any base 43 v) (h : DataW.Trod enc Try.prog W base0 spare held 43 v d p) : ∃ b0 b1 b2 b3 : Bool, v = .agg #[.bool b0, .bool b1, .bool b2, .bool b3] := by
  have hc : Try.prog.cellsOf 43 = 4 := by kernel_rfl
  have hc1 : Try.prog.cellsOf 4 = 1 := by kernel_rfl
  simp only [Value.okWide, Try.underlying43] at hv
  obtain ⟨cs, rfl, hsz, _⟩ := hv
  obtain ⟨c0, c1, c2, c3, rfl⟩ := Joins.array4 (hsz.trans hc)
  obtain ⟨fuel, hf⟩ := h
  obtain ⟨xs, m, rfl, _, _, hxl, hx⟩ := DataW.trod_array Try.underlying43 hf
  rw [hc1] at hx
  have h0 := hx 0 (by omega)
  have h1 := hx 1 (by omega)
  have h2 := hx 2 (by omega)
  have h3 := hx 3 (by omega)
  have g : ∀ i, i < 4 → ∃ y, xs[i]? = some y := fun i hi => ⟨xs[i], by simp [hxl, hi]⟩
  obtain ⟨y0, g0⟩ := g 0 (by omega)
  obtain ⟨y1, g1⟩ := g 1 (by omega)
  obtain ⟨y2, g2⟩ := g 2 (by omega)
  obtain ⟨y3, g3⟩ := g 3 (by omega)
  rw [g0] at h0
  rw [g1] at h1
  rw [g2] at h2
  rw [g3] at h3
  obtain ⟨b0, e0, _⟩ := DataW.trod_bool Try.underlying4 h0
  obtain ⟨b1, e1, _⟩ := DataW.trod_bool Try.underlying4 h1
  obtain ⟨b2, e2, _⟩ := DataW.trod_bool Try.underlying4 h2
  obtain ⟨b3, e3, _⟩ := DataW.trod_bool Try.underlying4 h3
  simp [Value.cells] at e0 e1 e2 e3
  exact ⟨b0, b1, b2, b3, by rw [e0, e1, e2, e3]⟩

/-- WHAT THE WALK IS TOLD OF A SLICE OF INTEGERS THAT CAME IN: it is nil; or it leads to a row of 'cap' cells, the numbers 'zs' (the first 'len' are its elements, the rest its spare room), each fitting its kind. -/
def IsRow (k : IntKind) (w : World) (a : Option Addr) (len cap : Nat) (zs : List Int) : Prop :=
  (a = none ∧ len = 0 ∧ cap = 0 ∧ zs = []) ∨
  ∃ x, a = some x ∧ len ≤ cap ∧ cap ≤ maxLen ∧ zs.length = cap ∧ (∀ i, i < zs.length → w.cell? (x.add i) = some (.int k (zs.getD i 0))) ∧ ∀ n ∈ zs, (Lit.int k n).wf = true

end Go.Proofs.Qxb6616375a
