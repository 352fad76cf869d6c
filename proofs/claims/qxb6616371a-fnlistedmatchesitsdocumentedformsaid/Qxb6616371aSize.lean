/-
  THE SIZE GUARD: zzAdd, zzSizeStrp, zzSizeRaws, zzSizeParts, zzSizeContent, zzSizeTools (it calls itself: by induction on the depth), zzSizeItem: each returns a number; where the number is within the bound, so are the lists that it went over.
-/
import Derived.Test.Qxb6616371aMem
namespace Go.Proofs.Qxb6616371a
open Go.RowKit
set_option linter.unusedVariables false

/-- What a size function leaves: a number between 0 and twice the bound; where it is within the bound, so was what came in, and B holds. -/
def Sized (acc : Int) (B : Prop) (r : Int) : Prop := 0 ≤ r ∧ r ≤ 2097152 ∧ (r ≤ 1048576 → acc ≤ 1048576 ∧ B)

set_option maxHeartbeats 400000 in
theorem zzAdd_any (acc n : Int) (w : World) (h0 : 0 ≤ acc) (h1 : acc ≤ 2097152) :
    Calls Try.prog 23 #[.int .i64 acc, .int .i64 n] w fun e w' => ∃ r, e = .returned (.int .i64 r) ∧ Sized acc (0 ≤ n ∧ n ≤ 1048576) r ∧ w' = w := by
  by_cases c1 : 1048576 < acc
  · go_enter Try.func23, Try.ntmps23
    go_wp2
    go_ret
    exact ⟨_, rfl, ⟨by omega, by omega, by omega⟩, rfl⟩
  by_cases c2 : 1048576 < n
  · go_enter Try.func23, Try.ntmps23
    go_wp2
    go_ret
    exact ⟨_, rfl, ⟨by omega, by omega, by omega⟩, rfl⟩
  by_cases c3 : n < 0
  · go_enter Try.func23, Try.ntmps23
    go_wp2
    go_ret
    exact ⟨_, rfl, ⟨by omega, by omega, by omega⟩, rfl⟩
  go_enter Try.func23, Try.ntmps23
  go_wp2
  go_ret
  exact ⟨_, rfl, ⟨by omega, by omega, fun _ => ⟨by omega, by first | trivial | omega⟩⟩, rfl⟩

set_option maxHeartbeats 400000 in
theorem zzSizeStrp_any (acc : Int) (p : Option Addr) (w : World) (h0 : 0 ≤ acc) (h1 : acc ≤ 2097152) (hp : StrP w p) :
    Calls Try.prog 26 #[.int .i64 acc, .pointer p] w fun e w' => ∃ r, e = .returned (.int .i64 r) ∧ Sized acc True r ∧ w' = w := by
  cases p with
  | none =>
    go_enter Try.func26, Try.ntmps26
    go_wp2
    go_ret
    exact ⟨_, rfl, ⟨h0, h1, fun h => ⟨h, trivial⟩⟩, rfl⟩
  | some a =>
    obtain ⟨s, hs, hl⟩ := hp a rfl
    clear hp
    unfold maxLen at hl
    go_enter Try.func26, Try.ntmps26
    go_wp2_with fail
    refine (zzAdd_any _ _ _ h0 h1).mono ?_
    rintro e w' ⟨r, rfl, ⟨q0, q1, q2⟩, rfl⟩
    have Q := hide q2
    clear q2
    go_wp2_with fail
    go_ret
    exact ⟨_, rfl, ⟨q0, q1, fun h => ⟨(unhide Q h).1, trivial⟩⟩, rfl⟩

set_option maxRecDepth 100000 in
set_option maxHeartbeats 400000 in
theorem zzSizeRaws_any (acc : Int) (s : Raw) (rv : Nat → Raw) (w : World) (h0 : 0 ≤ acc) (h1 : acc ≤ 2097152) (hp : RawsAt w s rv) :
    Calls Try.prog 36 #[.int .i64 acc, s.val] w fun e w' => ∃ r, e = .returned (.int .i64 r) ∧ Sized acc (s.l ≤ 1048576) r ∧ w' = w := by
  obtain ⟨a, l, c⟩ := s
  obtain ⟨hl, hr⟩ := hp
  unfold maxLen at hl
  simp only [Raw.val] at *
  by_cases c1 : 1048576 < acc
  · go_enter Try.func36, Try.ntmps36
    go_wp2_with fail
    go_ret
    exact ⟨_, rfl, ⟨by omega, by omega, by omega⟩, rfl⟩
  by_cases c2 : 1048576 < (l : Int)
  · go_enter Try.func36, Try.ntmps36
    go_wp2_with fail
    go_ret
    exact ⟨_, rfl, ⟨by omega, by omega, by omega⟩, rfl⟩
  go_enter Try.func36, Try.ntmps36
  go_wp2_with fail
  refine (zzAdd_any _ _ _ h0 h1).mono ?_
  rintro e w' ⟨r, rfl, ⟨q0, q1, q2⟩, rfl⟩
  have Hr := hide hr
  clear hr q2
  go_wp2_with fail
  go_loop [0, 5] (fun ac i => ∃ (k : Nat) (r : Int), k ≤ l ∧ i = .int .i64 k ∧ ac = .int .i64 r ∧ 0 ≤ r ∧ r ≤ 2097152) (fun _ i => l - (intOf i).toNat)
  case atStart => exact ⟨0, r, Nat.zero_le _, rfl, rfl, q0, q1⟩
  case round =>
    obtain ⟨k, r, hk, rfl, rfl, q0, q1⟩ := hrel
    by_cases hlt : k < l
    · have hlt' : (k : Int) < l := by omega
      by_cases c3 : 1048576 < r
      · go_wp2_with fail
        go_ret
        exact ⟨_, rfl, ⟨by omega, by omega, by omega⟩, rfl⟩
      obtain ⟨b, off, rfl, hc, hy⟩ := unhide Hr k hlt
      have hyl := hy.1
      unfold maxLen at hyl
      have hcc : w'.cell? ⟨b, off + k, none⟩ = some (.slice (rv k).a (rv k).l (rv k).c) := hc
      clear hc hy Hr
      go_wp2_with fail
      refine (zzAdd_any _ _ _ q0 q1).mono ?_
      rintro e w' ⟨r1, rfl, ⟨q3, q4, q5⟩, rfl⟩
      clear q5
      go_wp2_with fail
      go_round
      case rel => exact ⟨k + 1, r1, by omega, by go_num, rfl, q3, q4⟩
      case measure => simp [intOf]; omega
    · have hlt' : ¬ (k : Int) < l := by omega
      go_wp2_with fail
      go_ret
      exact ⟨_, rfl, ⟨by omega, by omega, by omega⟩, rfl⟩

theorem part_cells {W : World} {b o : Nat} {ty : ByteArray} {tx rf im dt : Option Addr} {an lp : Raw} {ar lr : Nat → Raw} (h : W.rangeAt b o (PartV.cells ⟨ty, tx, rf, im, dt, an, lp, ar, lr⟩)) :
    W.cell? ⟨b, o, none⟩ = some (.string ty) ∧ W.cell? ⟨b, o + 1, none⟩ = some (.pointer tx) ∧ W.cell? ⟨b, o + 2, none⟩ = some (.pointer rf) ∧ W.cell? ⟨b, o + 3, none⟩ = some (.pointer im) ∧
    W.cell? ⟨b, o + 4, none⟩ = some (.pointer dt) ∧ W.cell? ⟨b, o + 5, none⟩ = some (.slice an.a an.l an.c) ∧ W.cell? ⟨b, o + 6, none⟩ = some (.slice lp.a lp.l lp.c) :=
  ⟨h 0 _ rfl, h 1 _ rfl, h 2 _ rfl, h 3 _ rfl, h 4 _ rfl, h 5 _ rfl, h 6 _ rfl⟩

/-- Both lists of a part are within the bound. -/
def PartFit (p : PartV) : Prop := p.an.l ≤ 1048576 ∧ p.lp.l ≤ 1048576

set_option maxRecDepth 100000 in
set_option maxHeartbeats 1000000 in
/-- One round of zzSizeParts is folded into this: what the sizes of one part leave. -/
theorem zzSizeParts_any (acc : Int) (s : Raw) (pv : Nat → PartV) (w : World) (h0 : 0 ≤ acc) (h1 : acc ≤ 2097152) (hp : PartsAt w s pv) :
    Calls Try.prog 25 #[.int .i64 acc, s.val] w fun e w' => ∃ r, e = .returned (.int .i64 r) ∧ Sized acc (s.l ≤ 1048576 ∧ ∀ i, i < s.l → PartFit (pv i)) r ∧ Below w.heap.size w w' := by
  obtain ⟨a, l, c⟩ := s
  obtain ⟨hl, hr⟩ := hp
  unfold maxLen at hl
  simp only [Raw.val] at *
  have Hr := hide hr
  clear hr
  by_cases c1 : 1048576 < acc
  · go_enter Try.func25, Try.ntmps25
    go_wp2_with fail
    go_ret
    exact ⟨_, rfl, ⟨by omega, by omega, by omega⟩, Below.refl _ _⟩
  by_cases c2 : 1048576 < (l : Int)
  · go_enter Try.func25, Try.ntmps25
    go_wp2_with fail
    go_ret
    exact ⟨_, rfl, ⟨by omega, by omega, by omega⟩, Below.refl _ _⟩
  go_enter Try.func25, Try.ntmps25
  go_wp2_with fail
  refine (zzAdd_any _ _ _ h0 h1).mono ?_
  rintro e w' ⟨r, rfl, ⟨q0, q1, q2⟩, rfl⟩
  clear q2
  go_wp2_with fail
  go_loopw [0, 5] (fun ac i wr => ∃ (k : Nat) (r : Int), k ≤ l ∧ i = .int .i64 k ∧ ac = .int .i64 r ∧ 0 ≤ r ∧ r ≤ 2097152 ∧ Hid (r ≤ 1048576 → ∀ i, i < k → PartFit (pv i)) ∧ Below w'.heap.size w' wr) (fun _ i _ => l - (intOf i).toNat)
  case atStart => exact ⟨0, r, Nat.zero_le _, rfl, rfl, q0, q1, fun _ i hi => absurd hi (by omega), Below.refl _ _⟩
  case round =>
    obtain ⟨k, r, hk, rfl, rfl, q0, q1, Hf, hb⟩ := hrel
    by_cases hlt : k < l
    · have hlt' : (k : Int) < l := by omega
      by_cases c3 : 1048576 < r
      · go_wp2_with fail
        go_ret
        exact ⟨_, rfl, ⟨by omega, by omega, by omega⟩, hb⟩
      obtain ⟨b, off, rfl, hc, hy⟩ := unhide Hr k hlt
      have hc' := rangeAt_step hc hb
      have ok := hy.step hb
      clear hc hy Hr
      generalize hpk : pv k = p at hc' ok
      have Hpk := hide hpk
      clear hpk
      obtain ⟨ty, tx, rf, im, dt, ⟨ana, anl, anc⟩, ⟨lpa, lpl, lpc⟩, ar, lr⟩ := p
      obtain ⟨x0, x1, x2, x3, x4, x5, x6⟩ := part_cells hc'
      have htl := ok.ty
      unfold maxLen at htl
      simp only at htl x5 x6
      clear hc'
      go_wp2_with fail
      have bx := BoxAt.made wr [.string ty, .pointer tx, .pointer rf, .pointer im, .pointer dt, .slice ana anl anc, .slice lpa lpl lpc] 83
      have hb1 : Below wr.heap.size wr (wr.alloc (.cells #[.string ty, .pointer tx, .pointer rf, .pointer im, .pointer dt, .slice ana anl anc, .slice lpa lpl lpc] 83)) := (Below.refl _ _).alloc (Nat.le_refl _) _
      have bel := hb.trans (hb1.mono hb.size)
      have ok1 := ok.step hb1
      clear x0 x1 x2 x3 x4 x5 x6 ok hb hb1
      generalize wr.alloc (.cells #[.string ty, .pointer tx, .pointer rf, .pointer im, .pointer dt, .slice ana anl anc, .slice lpa lpl lpc] 83) = W1 at *
      generalize wr.heap.size = B at *
      have e1 := bx.get 1 _ rfl
      have e2 := bx.get 2 _ rfl
      have e3 := bx.get 3 _ rfl
      have e4 := bx.get 4 _ rfl
      have e5 := bx.get 5 _ rfl
      have e6 := bx.get 6 _ rfl
      clear bx
      refine (zzAdd_any _ _ _ q0 q1).mono ?_
      rintro e w2 ⟨r1, rfl, ⟨p1, s1, t1⟩, rfl⟩
      have T1 := hide t1
      clear t1
      go_wp2_with fail
      refine (zzSizeStrp_any _ _ _ p1 s1 ok1.tx).mono ?_
      rintro e w2 ⟨r2, rfl, ⟨p2, s2, t2⟩, rfl⟩
      have T2 := hide t2
      clear t2
      go_wp2_with fail
      refine (zzSizeStrp_any _ _ _ p2 s2 ok1.rf).mono ?_
      rintro e w2 ⟨r3, rfl, ⟨p3, s3, t3⟩, rfl⟩
      have T3 := hide t3
      clear t3
      go_wp2_with fail
      refine (zzSizeStrp_any _ _ _ p3 s3 ok1.im).mono ?_
      rintro e w2 ⟨r4, rfl, ⟨p4, s4, t4⟩, rfl⟩
      have T4 := hide t4
      clear t4
      go_wp2_with fail
      refine (zzSizeStrp_any _ _ _ p4 s4 ok1.dt).mono ?_
      rintro e w2 ⟨r5, rfl, ⟨p5, s5, t5⟩, rfl⟩
      have T5 := hide t5
      clear t5
      go_wp2_with fail
      refine (zzSizeRaws_any _ ⟨ana, anl, anc⟩ ar _ p5 s5 ok1.an).mono ?_
      rintro e w2 ⟨r6, rfl, ⟨p6, s6, t6⟩, rfl⟩
      have T6 := hide t6
      clear t6
      go_wp2_with fail
      refine (zzSizeRaws_any _ ⟨lpa, lpl, lpc⟩ lr _ p6 s6 ok1.lp).mono ?_
      rintro e w2 ⟨r7, rfl, ⟨p7, s7, t7⟩, rfl⟩
      have T7 := hide t7
      clear t7
      go_wp2_with fail
      go_roundw
      case rel =>
        refine ⟨k + 1, r7, by omega, by go_num, rfl, p7, s7, hide (fun h i hi => ?_), bel⟩
        obtain ⟨a6, b7⟩ := unhide T7 h
        obtain ⟨a5, b6⟩ := unhide T6 a6
        have a4 := (unhide T5 a5).1
        have a3 := (unhide T4 a4).1
        have a2 := (unhide T3 a3).1
        have a1 := (unhide T2 a2).1
        have a0 := (unhide T1 a1).1
        by_cases e : i = k
        · subst e; rw [unhide Hpk]; exact ⟨b6, b7⟩
        · exact unhide Hf a0 i (by omega)
      case measure => simp [intOf]; omega
    · have hlt' : ¬ (k : Int) < l := by omega
      go_wp2_with fail
      go_ret
      refine ⟨_, rfl, ⟨q0, q1, fun h => ⟨by omega, by omega, fun i hi => unhide Hf h i (by omega)⟩⟩, hb⟩

set_option maxRecDepth 100000 in
set_option maxHeartbeats 400000 in
theorem zzSizeContent_any (acc : Int) (p tx : Option Addr) (ps : Raw) (pv : Nat → PartV) (w : World) (h0 : 0 ≤ acc) (h1 : acc ≤ 2097152) (hp : ContentAt w p tx ps pv) :
    Calls Try.prog 24 #[.int .i64 acc, .pointer p] w fun e w' => ∃ r, e = .returned (.int .i64 r) ∧ Sized acc (∀ a, p = some a → ps.l ≤ 1048576 ∧ ∀ i, i < ps.l → PartFit (pv i)) r ∧ Below w.heap.size w w' := by
  cases p with
  | none =>
    go_enter Try.func24, Try.ntmps24
    go_wp2
    go_ret
    exact ⟨_, rfl, ⟨h0, h1, fun h => ⟨h, fun a e => absurd e (by simp)⟩⟩, Below.refl _ _⟩
  | some a =>
    obtain ⟨b, o, rfl, x0, x1, hs, hps⟩ := hp a rfl
    clear hp
    have x1' : w.cell? ⟨b, o + 1, none⟩ = some (.slice ps.a ps.l ps.c) := x1
    clear x1
    go_enter Try.func24, Try.ntmps24
    go_wp2_with fail
    refine (zzSizeStrp_any _ _ _ h0 h1 hs).mono ?_
    rintro e w2 ⟨r1, rfl, ⟨p1, s1, t1⟩, rfl⟩
    have T1 := hide t1
    clear t1
    go_wp2_with fail
    refine (zzSizeParts_any _ ps pv _ p1 s1 hps).mono ?_
    rintro e w3 ⟨r2, rfl, ⟨p2, s2, t2⟩, hb⟩
    have T2 := hide t2
    clear t2
    go_wp2_with fail
    go_ret
    exact ⟨_, rfl, ⟨p2, s2, fun h => ⟨(unhide T1 (unhide T2 h).1).1, fun _ _ => (unhide T2 h).2⟩⟩, hb⟩

theorem tool_cells {W : World} {b o : Nat} {ty nm ns : ByteArray} {de pa st fo : Option Addr} {ts : Raw} (h : W.rangeAt b o (ToolV.cells ⟨ty, nm, ns, de, pa, st, fo, ts⟩)) :
    W.cell? ⟨b, o, none⟩ = some (.string ty) ∧ W.cell? ⟨b, o + 1, none⟩ = some (.string nm) ∧ W.cell? ⟨b, o + 2, none⟩ = some (.string ns) ∧ W.cell? ⟨b, o + 3, none⟩ = some (.pointer de) ∧
    W.cell? ⟨b, o + 4, none⟩ = some (.pointer pa) ∧ W.cell? ⟨b, o + 5, none⟩ = some (.pointer st) ∧ W.cell? ⟨b, o + 6, none⟩ = some (.pointer fo) ∧ W.cell? ⟨b, o + 7, none⟩ = some (.slice ts.a ts.l ts.c) :=
  ⟨h 0 _ rfl, h 1 _ rfl, h 2 _ rfl, h 3 _ rfl, h 4 _ rfl, h 5 _ rfl, h 6 _ rfl, h 7 _ rfl⟩

/-- The tool at place i lies there, and what it holds fits. -/
def FitAt (d : Nat) (w : World) (s : Raw) (i : Nat) : Prop := ∃ b off t, s.a = some ⟨b, off, none⟩ ∧ w.rangeAt b (off + i * 8) (ToolV.cells t) ∧ ToolOk w t ∧ ToolsFit d w t.ts
theorem FitAt.step {d : Nat} {w w' : World} {s : Raw} {i : Nat} (h : FitAt d w s i) (hb : Below w.heap.size w w') : FitAt d w' s i :=
  let ⟨b, off, t, e, hr, ho, hn⟩ := h
  ⟨b, off, t, e, rangeAt_step hr hb, ho.step hb, ToolsFit.step hb hn⟩

def SizeToolsAt (d : Nat) : Prop := ∀ (acc : Int) (s : Raw) (w : World), 0 ≤ acc → acc ≤ 2097152 → ToolsOk d w s →
    Calls Try.prog 27 #[.int .i64 acc, s.val] w fun e w' => ∃ r, e = .returned (.int .i64 r) ∧ Sized acc (ToolsFit d w' s) r ∧ Below w.heap.size w w'

set_option maxRecDepth 100000 in
set_option maxHeartbeats 2000000 in
theorem zzSizeTools_succ (d : Nat) (ih : SizeToolsAt d) : SizeToolsAt (d + 1) := by
  intro acc s w h0 h1 hp
  obtain ⟨a, l, c⟩ := s
  obtain ⟨hl, hr⟩ := hp
  unfold maxLen at hl
  simp only [Raw.val] at *
  have Hr := hide hr
  clear hr
  by_cases c1 : 1048576 < acc
  · go_enter Try.func27, Try.ntmps27
    go_wp2_with fail
    go_ret
    exact ⟨_, rfl, ⟨by omega, by omega, by omega⟩, Below.refl _ _⟩
  by_cases c2 : 1048576 < (l : Int)
  · go_enter Try.func27, Try.ntmps27
    go_wp2_with fail
    go_ret
    exact ⟨_, rfl, ⟨by omega, by omega, by omega⟩, Below.refl _ _⟩
  go_enter Try.func27, Try.ntmps27
  go_wp2_with fail
  refine (zzAdd_any _ _ _ h0 h1).mono ?_
  rintro e w' ⟨r, rfl, ⟨q0, q1, q2⟩, rfl⟩
  clear q2
  go_wp2_with fail
  go_loopw [0, 5] (fun ac i wr => ∃ (k : Nat) (r : Int), k ≤ l ∧ i = .int .i64 k ∧ ac = .int .i64 r ∧ 0 ≤ r ∧ r ≤ 2097152 ∧ Hid (r ≤ 1048576 → ∀ i, i < k → FitAt d wr ⟨a, l, c⟩ i) ∧ Below w'.heap.size w' wr) (fun _ i _ => l - (intOf i).toNat)
  case atStart => exact ⟨0, r, Nat.zero_le _, rfl, rfl, q0, q1, fun _ i hi => absurd hi (by omega), Below.refl _ _⟩
  case round =>
    obtain ⟨k, r, hk, rfl, rfl, q0, q1, Hf, hb⟩ := hrel
    by_cases hlt : k < l
    · have hlt' : (k : Int) < l := by omega
      by_cases c3 : 1048576 < r
      · go_wp2_with fail
        go_ret
        exact ⟨_, rfl, ⟨by omega, by omega, by omega⟩, hb⟩
      obtain ⟨b, off, t, rfl, hc, hy, hn⟩ := unhide Hr k hlt
      have hcw := rangeAt_step hc hb
      have ok := hy.step hb
      have hnw := ToolsOk.step hb hn
      clear hc hy hn Hr
      obtain ⟨ty, nm, ns, de, pa, st, fo, ts⟩ := t
      obtain ⟨x0, x1, x2, x3, x4, x5, x6, x7⟩ := tool_cells hcw
      have l0 := ok.ty
      have l1 := ok.nm
      have l2 := ok.ns
      unfold maxLen at l0 l1 l2
      simp only at l0 l1 l2 hnw
      go_wp2_with fail
      have bx := BoxAt.made wr [.string ty, .string nm, .string ns, .pointer de, .pointer pa, .pointer st, .pointer fo, .slice ts.a ts.l ts.c] 90
      have hbW : Below wr.heap.size wr (wr.alloc (.cells #[.string ty, .string nm, .string ns, .pointer de, .pointer pa, .pointer st, .pointer fo, .slice ts.a ts.l ts.c] 90)) := (Below.refl _ _).alloc (Nat.le_refl _) _
      have bel := hb.trans (hbW.mono hb.size)
      have ok1 := ok.step hbW
      have hn1 := ToolsOk.step hbW hnw
      have hcW := rangeAt_step hcw hbW
      clear x0 x1 x2 x3 x4 x5 x6 x7 ok hb hnw hcw
      generalize wr.alloc (.cells #[.string ty, .string nm, .string ns, .pointer de, .pointer pa, .pointer st, .pointer fo, .slice ts.a ts.l ts.c] 90) = W1 at *
      have e1 := bx.get 1 _ rfl
      have e2 := bx.get 2 _ rfl
      have e3 := bx.get 3 _ rfl
      have e4 := bx.get 4 _ rfl
      have e6 := bx.get 6 _ rfl
      have e7 := bx.get 7 _ rfl
      clear bx
      cases pa <;> cases fo
      · refine (zzAdd_any _ _ _ q0 q1).mono ?_
        rintro e w2 ⟨r1, rfl, ⟨p1, s1, t1⟩, rfl⟩
        have T1 := hide t1
        clear t1
        go_wp2_with fail
        refine (zzAdd_any _ _ _ p1 s1).mono ?_
        rintro e w2 ⟨r2, rfl, ⟨p2, s2, t2⟩, rfl⟩
        have T2 := hide t2
        clear t2
        go_wp2_with fail
        refine (zzAdd_any _ _ _ p2 s2).mono ?_
        rintro e w2 ⟨r3, rfl, ⟨p3, s3, t3⟩, rfl⟩
        have T3 := hide t3
        clear t3
        go_wp2_with fail
        refine (zzSizeStrp_any _ _ _ p3 s3 ok1.de).mono ?_
        rintro e w2 ⟨r4, rfl, ⟨p4, s4, t4⟩, rfl⟩
        have T4 := hide t4
        clear t4
        go_wp2_with fail
        refine (ih _ ts _ p4 s4 hn1).mono ?_
        rintro e w9 ⟨r9, rfl, ⟨p9, s9, t9⟩, hb9⟩
        have T9 := hide t9
        clear t9
        go_wp2_with fail
        go_roundw
        case rel =>
          refine ⟨k + 1, r9, by omega, by go_num, rfl, p9, s9, hide (fun h i hi => ?_), bel.trans (hb9.mono bel.size)⟩
          obtain ⟨a4, b9⟩ := unhide T9 h
          have a3 := (unhide T4 a4).1
          have a2 := (unhide T3 a3).1
          have a1 := (unhide T2 a2).1
          have a0 := (unhide T1 a1).1
          by_cases e : i = k
          · subst e; exact ⟨b, off, _, rfl, rangeAt_step hcW hb9, ok1.step hb9, b9⟩
          · exact ((unhide Hf a0 i (by omega)).step hbW).step hb9
        case measure => simp [intOf]; omega
      · rename_i fa
        obtain ⟨fb, fo, rfl, y0, y1, y2, f0, f1, f2, m0, m1, m2⟩ := ok1.fo fa rfl
        unfold maxLen at m0 m1 m2
        refine (zzAdd_any _ _ _ q0 q1).mono ?_
        rintro e w2 ⟨r1, rfl, ⟨p1, s1, t1⟩, rfl⟩
        have T1 := hide t1
        clear t1
        go_wp2_with fail
        refine (zzAdd_any _ _ _ p1 s1).mono ?_
        rintro e w2 ⟨r2, rfl, ⟨p2, s2, t2⟩, rfl⟩
        have T2 := hide t2
        clear t2
        go_wp2_with fail
        refine (zzAdd_any _ _ _ p2 s2).mono ?_
        rintro e w2 ⟨r3, rfl, ⟨p3, s3, t3⟩, rfl⟩
        have T3 := hide t3
        clear t3
        go_wp2_with fail
        refine (zzSizeStrp_any _ _ _ p3 s3 ok1.de).mono ?_
        rintro e w2 ⟨r4, rfl, ⟨p4, s4, t4⟩, rfl⟩
        have T4 := hide t4
        clear t4
        go_wp2_with fail
        refine (zzAdd_any _ _ _ p4 s4).mono ?_
        rintro e w2 ⟨r5, rfl, ⟨p5, s5, t5⟩, rfl⟩
        have T5 := hide t5
        clear t5
        go_wp2_with fail
        refine (zzAdd_any _ _ _ p5 s5).mono ?_
        rintro e w2 ⟨r6, rfl, ⟨p6, s6, t6⟩, rfl⟩
        have T6 := hide t6
        clear t6
        go_wp2_with fail
        refine (zzAdd_any _ _ _ p6 s6).mono ?_
        rintro e w2 ⟨r7, rfl, ⟨p7, s7, t7⟩, rfl⟩
        have T7 := hide t7
        clear t7
        go_wp2_with fail
        refine (ih _ ts _ p7 s7 hn1).mono ?_
        rintro e w9 ⟨r9, rfl, ⟨p9, s9, t9⟩, hb9⟩
        have T9 := hide t9
        clear t9
        go_wp2_with fail
        go_roundw
        case rel =>
          refine ⟨k + 1, r9, by omega, by go_num, rfl, p9, s9, hide (fun h i hi => ?_), bel.trans (hb9.mono bel.size)⟩
          obtain ⟨a7, b9⟩ := unhide T9 h
          have a6 := (unhide T7 a7).1
          have a5 := (unhide T6 a6).1
          have a4 := (unhide T5 a5).1
          have a3 := (unhide T4 a4).1
          have a2 := (unhide T3 a3).1
          have a1 := (unhide T2 a2).1
          have a0 := (unhide T1 a1).1
          by_cases e : i = k
          · subst e; exact ⟨b, off, _, rfl, rangeAt_step hcW hb9, ok1.step hb9, b9⟩
          · exact ((unhide Hf a0 i (by omega)).step hbW).step hb9
        case measure => simp [intOf]; omega
      · rename_i qa
        obtain ⟨⟨za, zl, zc⟩, g0, n0⟩ := ok1.pa qa rfl
        simp only [Raw.val] at g0 n0
        unfold maxLen at n0
        refine (zzAdd_any _ _ _ q0 q1).mono ?_
        rintro e w2 ⟨r1, rfl, ⟨p1, s1, t1⟩, rfl⟩
        have T1 := hide t1
        clear t1
        go_wp2_with fail
        refine (zzAdd_any _ _ _ p1 s1).mono ?_
        rintro e w2 ⟨r2, rfl, ⟨p2, s2, t2⟩, rfl⟩
        have T2 := hide t2
        clear t2
        go_wp2_with fail
        refine (zzAdd_any _ _ _ p2 s2).mono ?_
        rintro e w2 ⟨r3, rfl, ⟨p3, s3, t3⟩, rfl⟩
        have T3 := hide t3
        clear t3
        go_wp2_with fail
        refine (zzSizeStrp_any _ _ _ p3 s3 ok1.de).mono ?_
        rintro e w2 ⟨r4, rfl, ⟨p4, s4, t4⟩, rfl⟩
        have T4 := hide t4
        clear t4
        go_wp2_with fail
        refine (zzAdd_any _ _ _ p4 s4).mono ?_
        rintro e w2 ⟨r5, rfl, ⟨p5, s5, t5⟩, rfl⟩
        have T5 := hide t5
        clear t5
        go_wp2_with fail
        refine (ih _ ts _ p5 s5 hn1).mono ?_
        rintro e w9 ⟨r9, rfl, ⟨p9, s9, t9⟩, hb9⟩
        have T9 := hide t9
        clear t9
        go_wp2_with fail
        go_roundw
        case rel =>
          refine ⟨k + 1, r9, by omega, by go_num, rfl, p9, s9, hide (fun h i hi => ?_), bel.trans (hb9.mono bel.size)⟩
          obtain ⟨a5, b9⟩ := unhide T9 h
          have a4 := (unhide T5 a5).1
          have a3 := (unhide T4 a4).1
          have a2 := (unhide T3 a3).1
          have a1 := (unhide T2 a2).1
          have a0 := (unhide T1 a1).1
          by_cases e : i = k
          · subst e; exact ⟨b, off, _, rfl, rangeAt_step hcW hb9, ok1.step hb9, b9⟩
          · exact ((unhide Hf a0 i (by omega)).step hbW).step hb9
        case measure => simp [intOf]; omega
      · rename_i qa fa
        obtain ⟨⟨za, zl, zc⟩, g0, n0⟩ := ok1.pa qa rfl
        simp only [Raw.val] at g0 n0
        obtain ⟨fb, fo, rfl, y0, y1, y2, f0, f1, f2, m0, m1, m2⟩ := ok1.fo fa rfl
        unfold maxLen at n0 m0 m1 m2
        refine (zzAdd_any _ _ _ q0 q1).mono ?_
        rintro e w2 ⟨r1, rfl, ⟨p1, s1, t1⟩, rfl⟩
        have T1 := hide t1
        clear t1
        go_wp2_with fail
        refine (zzAdd_any _ _ _ p1 s1).mono ?_
        rintro e w2 ⟨r2, rfl, ⟨p2, s2, t2⟩, rfl⟩
        have T2 := hide t2
        clear t2
        go_wp2_with fail
        refine (zzAdd_any _ _ _ p2 s2).mono ?_
        rintro e w2 ⟨r3, rfl, ⟨p3, s3, t3⟩, rfl⟩
        have T3 := hide t3
        clear t3
        go_wp2_with fail
        refine (zzSizeStrp_any _ _ _ p3 s3 ok1.de).mono ?_
        rintro e w2 ⟨r4, rfl, ⟨p4, s4, t4⟩, rfl⟩
        have T4 := hide t4
        clear t4
        go_wp2_with fail
        refine (zzAdd_any _ _ _ p4 s4).mono ?_
        rintro e w2 ⟨r5, rfl, ⟨p5, s5, t5⟩, rfl⟩
        have T5 := hide t5
        clear t5
        go_wp2_with fail
        refine (zzAdd_any _ _ _ p5 s5).mono ?_
        rintro e w2 ⟨r6, rfl, ⟨p6, s6, t6⟩, rfl⟩
        have T6 := hide t6
        clear t6
        go_wp2_with fail
        refine (zzAdd_any _ _ _ p6 s6).mono ?_
        rintro e w2 ⟨r7, rfl, ⟨p7, s7, t7⟩, rfl⟩
        have T7 := hide t7
        clear t7
        go_wp2_with fail
        refine (zzAdd_any _ _ _ p7 s7).mono ?_
        rintro e w2 ⟨r8, rfl, ⟨p8, s8, t8⟩, rfl⟩
        have T8 := hide t8
        clear t8
        go_wp2_with fail
        refine (ih _ ts _ p8 s8 hn1).mono ?_
        rintro e w9 ⟨r9, rfl, ⟨p9, s9, t9⟩, hb9⟩
        have T9 := hide t9
        clear t9
        go_wp2_with fail
        go_roundw
        case rel =>
          refine ⟨k + 1, r9, by omega, by go_num, rfl, p9, s9, hide (fun h i hi => ?_), bel.trans (hb9.mono bel.size)⟩
          obtain ⟨a8, b9⟩ := unhide T9 h
          have a7 := (unhide T8 a8).1
          have a6 := (unhide T7 a7).1
          have a5 := (unhide T6 a6).1
          have a4 := (unhide T5 a5).1
          have a3 := (unhide T4 a4).1
          have a2 := (unhide T3 a3).1
          have a1 := (unhide T2 a2).1
          have a0 := (unhide T1 a1).1
          by_cases e : i = k
          · subst e; exact ⟨b, off, _, rfl, rangeAt_step hcW hb9, ok1.step hb9, b9⟩
          · exact ((unhide Hf a0 i (by omega)).step hbW).step hb9
        case measure => simp [intOf]; omega
    · have hlt' : ¬ (k : Int) < l := by omega
      go_wp2_with fail
      go_ret
      refine ⟨_, rfl, ⟨q0, q1, fun h => ⟨by omega, by simp only; omega, fun i hi => unhide Hf h i (by simp only at hi; omega)⟩⟩, hb⟩

theorem zzSizeTools_any : ∀ d, SizeToolsAt d
  | 0 => fun _ _ _ _ _ h => h.elim
  | d + 1 => zzSizeTools_succ d (zzSizeTools_any d)


/-- An item as it came in: its thirteen cells, and what they lead to. -/
structure ItemV where
  ty : ByteArray
  id : ByteArray
  st : ByteArray
  ro : ByteArray
  co : Option Addr
  su : Raw
  ci : Option Addr
  nm : Option Addr
  ns : ByteArray
  ar : Option Addr
  inp : Option Addr
  ou : Option Addr
  ts : Raw
  ctx : Option Addr
  cps : Raw
  cpv : Nat → PartV
  spv : Nat → PartV
  otx : Option Addr
  ops : Raw
  opv : Nat → PartV

def ItemV.cells (t : ItemV) : List Value := [.string t.ty, .string t.id, .string t.st, .string t.ro, .pointer t.co, t.su.val, .pointer t.ci, .pointer t.nm, .string t.ns, .pointer t.ar, .pointer t.inp, .pointer t.ou, t.ts.val]

structure ItemOk (d : Nat) (w : World) (t : ItemV) : Prop where
  ty : t.ty.size ≤ maxLen
  id : t.id.size ≤ maxLen
  st : t.st.size ≤ maxLen
  ro : t.ro.size ≤ maxLen
  ns : t.ns.size ≤ maxLen
  co : ContentAt w t.co t.ctx t.cps t.cpv
  su : PartsAt w t.su t.spv
  ci : StrP w t.ci
  nm : StrP w t.nm
  ar : StrP w t.ar
  inp : StrP w t.inp
  ou : ContentAt w t.ou t.otx t.ops t.opv
  ts : ToolsOk d w t.ts

theorem ItemOk.step {d : Nat} {w w' : World} {t : ItemV} (h : ItemOk d w t) (hb : Below w.heap.size w w') : ItemOk d w' t :=
  ⟨h.ty, h.id, h.st, h.ro, h.ns, h.co.step hb, h.su.step hb, h.ci.step hb, h.nm.step hb, h.ar.step hb, h.inp.step hb, h.ou.step hb, ToolsOk.step hb h.ts⟩

/-- A list of parts within the bound, each with its lists within the bound. -/
def PartsFit (s : Raw) (pv : Nat → PartV) : Prop := s.l ≤ 1048576 ∧ ∀ i, i < s.l → PartFit (pv i)

structure ItemFit (d : Nat) (w : World) (t : ItemV) : Prop where
  co : ∀ a, t.co = some a → PartsFit t.cps t.cpv
  su : PartsFit t.su t.spv
  ou : ∀ a, t.ou = some a → PartsFit t.ops t.opv
  ts : ToolsFit d w t.ts

theorem ItemFit.step {d : Nat} {w w' : World} {t : ItemV} (h : ItemFit d w t) (hb : Below w.heap.size w w') : ItemFit d w' t := ⟨h.co, h.su, h.ou, ToolsFit.step hb h.ts⟩

set_option maxRecDepth 100000 in
set_option maxHeartbeats 2000000 in
theorem zzSizeItem_any (d : Nat) (t : ItemV) (w : World) (ok : ItemOk d w t) :
    Calls Try.prog 12 #[.agg #[.string t.ty, .string t.id, .string t.st, .string t.ro, .pointer t.co, .slice t.su.a t.su.l t.su.c, .pointer t.ci, .pointer t.nm, .string t.ns, .pointer t.ar, .pointer t.inp, .pointer t.ou, .slice t.ts.a t.ts.l t.ts.c]] w fun e w' =>
      ∃ r : Int, e = .returned (.int .i64 r) ∧ (r ≤ 1048576 → ItemFit d w' t) ∧ Below w.heap.size w w' := by
  have l0 := ok.ty
  have l1 := ok.id
  have l2 := ok.st
  have l3 := ok.ro
  have l4 := ok.ns
  unfold maxLen at l0 l1 l2 l3 l4
  have hbW : Below w.heap.size w (w.alloc (.cells #[.string t.ty, .string t.id, .string t.st, .string t.ro, .pointer t.co, .slice t.su.a t.su.l t.su.c, .pointer t.ci, .pointer t.nm, .string t.ns, .pointer t.ar, .pointer t.inp, .pointer t.ou, .slice t.ts.a t.ts.l t.ts.c] 39)) := (Below.refl _ _).alloc (Nat.le_refl _) _
  have bx := BoxAt.made w [.string t.ty, .string t.id, .string t.st, .string t.ro, .pointer t.co, .slice t.su.a t.su.l t.su.c, .pointer t.ci, .pointer t.nm, .string t.ns, .pointer t.ar, .pointer t.inp, .pointer t.ou, .slice t.ts.a t.ts.l t.ts.c] 39
  have ok1 := ok.step hbW
  clear ok
  go_enter Try.func12, Try.ntmps12
  go_wp2_with fail
  generalize w.alloc (.cells #[.string t.ty, .string t.id, .string t.st, .string t.ro, .pointer t.co, .slice t.su.a t.su.l t.su.c, .pointer t.ci, .pointer t.nm, .string t.ns, .pointer t.ar, .pointer t.inp, .pointer t.ou, .slice t.ts.a t.ts.l t.ts.c] 39) = W1 at *
  refine (zzAdd_any _ _ _ (Int.le_refl 0) (by omega)).mono ?_
  rintro e W2 ⟨r1, rfl, ⟨p1, s1, t1⟩, rfl⟩
  have T1 := hide t1
  have ok2 := ok1
  clear t1 ok1
  have e1 := bx.get 1 _ rfl
  go_wp2_with fail
  clear e1
  refine (zzAdd_any _ _ _ p1 s1).mono ?_
  rintro e W3 ⟨r2, rfl, ⟨p2, s2, t2⟩, rfl⟩
  have T2 := hide t2
  have ok3 := ok2
  clear t2 ok2
  have e2 := bx.get 2 _ rfl
  go_wp2_with fail
  clear e2
  refine (zzAdd_any _ _ _ p2 s2).mono ?_
  rintro e W4 ⟨r3, rfl, ⟨p3, s3, t3⟩, rfl⟩
  have T3 := hide t3
  have ok4 := ok3
  clear t3 ok3
  have e3 := bx.get 3 _ rfl
  go_wp2_with fail
  clear e3
  refine (zzAdd_any _ _ _ p3 s3).mono ?_
  rintro e W5 ⟨r4, rfl, ⟨p4, s4, t4⟩, rfl⟩
  have T4 := hide t4
  have ok5 := ok4
  clear t4 ok4
  have e8 := bx.get 8 _ rfl
  go_wp2_with fail
  clear e8
  refine (zzAdd_any _ _ _ p4 s4).mono ?_
  rintro e W6 ⟨r5, rfl, ⟨p5, s5, t5⟩, rfl⟩
  have T5 := hide t5
  have ok6 := ok5
  clear t5 ok5
  have e4 := bx.get 4 _ rfl
  go_wp2_with fail
  clear e4
  refine (zzSizeContent_any _ _ t.ctx t.cps t.cpv _ p5 s5 ok6.co).mono ?_
  rintro e W7 ⟨r6, rfl, ⟨p6, s6, t6⟩, hb6⟩
  have T6 := hide t6
  replace bx := bx.step hb6
  have ok7 := ok6.step hb6
  replace hbW := hbW.trans (hb6.mono hbW.size)
  clear t6 ok6
  have e5 := bx.get 5 _ rfl
  go_wp2_with fail
  clear e5
  refine (zzSizeParts_any _ t.su t.spv _ p6 s6 ok7.su).mono ?_
  rintro e W8 ⟨r7, rfl, ⟨p7, s7, t7⟩, hb7⟩
  have T7 := hide t7
  replace bx := bx.step hb7
  have ok8 := ok7.step hb7
  replace hbW := hbW.trans (hb7.mono hbW.size)
  clear t7 ok7
  have e6 := bx.get 6 _ rfl
  go_wp2_with fail
  clear e6
  refine (zzSizeStrp_any _ _ _ p7 s7 ok8.ci).mono ?_
  rintro e W9 ⟨r8, rfl, ⟨p8, s8, t8⟩, rfl⟩
  have T8 := hide t8
  have ok9 := ok8
  clear t8 ok8
  have e7 := bx.get 7 _ rfl
  go_wp2_with fail
  clear e7
  refine (zzSizeStrp_any _ _ _ p8 s8 ok9.nm).mono ?_
  rintro e W10 ⟨r9, rfl, ⟨p9, s9, t9⟩, rfl⟩
  have T9 := hide t9
  have ok10 := ok9
  clear t9 ok9
  have e9 := bx.get 9 _ rfl
  go_wp2_with fail
  clear e9
  refine (zzSizeStrp_any _ _ _ p9 s9 ok10.ar).mono ?_
  rintro e W11 ⟨r10, rfl, ⟨p10, s10, t10⟩, rfl⟩
  have T10 := hide t10
  have ok11 := ok10
  clear t10 ok10
  have e10 := bx.get 10 _ rfl
  go_wp2_with fail
  clear e10
  refine (zzSizeStrp_any _ _ _ p10 s10 ok11.inp).mono ?_
  rintro e W12 ⟨r11, rfl, ⟨p11, s11, t11⟩, rfl⟩
  have T11 := hide t11
  have ok12 := ok11
  clear t11 ok11
  have e11 := bx.get 11 _ rfl
  go_wp2_with fail
  clear e11
  refine (zzSizeContent_any _ _ t.otx t.ops t.opv _ p11 s11 ok12.ou).mono ?_
  rintro e W13 ⟨r12, rfl, ⟨p12, s12, t12⟩, hb12⟩
  have T12 := hide t12
  replace bx := bx.step hb12
  have ok13 := ok12.step hb12
  replace hbW := hbW.trans (hb12.mono hbW.size)
  clear t12 ok12
  have e12 := bx.get 12 _ rfl
  go_wp2_with fail
  clear e12
  refine (zzSizeTools_any d _ t.ts _ p12 s12 ok13.ts).mono ?_
  rintro e W14 ⟨r13, rfl, ⟨p13, s13, t13⟩, hb13⟩
  have T13 := hide t13
  replace bx := bx.step hb13
  have ok14 := ok13.step hb13
  replace hbW := hbW.trans (hb13.mono hbW.size)
  clear t13 ok13
  go_wp2_with fail
  go_ret
  refine ⟨_, rfl, fun h => ?_, hbW⟩
  obtain ⟨a12, b13⟩ := unhide T13 h
  obtain ⟨a11, b12⟩ := unhide T12 a12
  have a10 := (unhide T11 a11).1
  have a9 := (unhide T10 a10).1
  have a8 := (unhide T9 a9).1
  have a7 := (unhide T8 a8).1
  obtain ⟨a6, b7⟩ := unhide T7 a7
  obtain ⟨a5, b6⟩ := unhide T6 a6
  exact ⟨b6, b7, b12, b13⟩

end Go.Proofs.Qxb6616371a
