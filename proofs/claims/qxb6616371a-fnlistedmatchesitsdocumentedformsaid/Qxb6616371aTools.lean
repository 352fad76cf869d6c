/-
  BUILDING TOOLS: ZZRawPtr, zzTool, zzTools (it calls itself through zzTool: by induction on the depth).
-/
import Derived.Test.Qxb6616371aParts
namespace Go.Proofs.Qxb6616371a
open Go.RowKit
set_option linter.unusedVariables false

set_option maxHeartbeats 400000 in
theorem zzRawPtr_any (a : Option Addr) (l c : Nat) (w : World) :
    Calls Try.prog 43 #[.slice a l c] w fun e w' => ∃ p, e = .returned (.pointer p) ∧ Below w.heap.size w w' := by
  go_enter Try.func43, Try.ntmps43
  go_wp2
  go_ret
  exact ⟨_, rfl, (Below.refl _ _).alloc (Nat.le_refl _) _⟩

/-- Inside zzTool: the tool that came in, the result's variable, the tool in the making. -/
structure TZ (w W : World) (ty nm ns : ByteArray) (de pa st fo pa' fo' : Option Addr) (ts : Raw) : Prop where
  bel : Below w.heap.size w W
  z : BoxAt W w.heap.size [.string ty, .string nm, .string ns, .pointer de, .pointer pa, .pointer st, .pointer fo, .slice ts.a ts.l ts.c]
  r : BoxAt W (w.heap.size + 1) [.string ⟨#[]⟩, .string ⟨#[]⟩, .string ⟨#[]⟩, .pointer none, .pointer none, .pointer none, .pointer none, .slice none 0 0]
  o : BoxAt W (w.heap.size + 1 + 1) [.string ty, .string nm, .string ns, .pointer de, .pointer pa', .pointer st, .pointer fo', .slice none 0 0]

theorem TZ.drew {w W : World} {ty nm ns : ByteArray} {de pa st fo pa' fo' : Option Addr} {ts : Raw} (h : TZ w W ty nm ns de pa st fo pa' fo' ts) : TZ w W.drew ty nm ns de pa st fo pa' fo' ts := ⟨h.bel.drew, h.z.drew, h.r.drew, h.o.drew⟩
theorem TZ.step {w W W' : World} {ty nm ns : ByteArray} {de pa st fo pa' fo' : Option Addr} {ts : Raw} (h : TZ w W ty nm ns de pa st fo pa' fo' ts) (hb : Below W.heap.size W W') : TZ w W' ty nm ns de pa st fo pa' fo' ts :=
  ⟨h.bel.trans (hb.mono h.bel.size), h.z.step hb, h.r.step hb, h.o.step hb⟩
theorem TZ.put4 {w W : World} {ty nm ns : ByteArray} {de pa st fo pa' fo' : Option Addr} {ts : Raw} (h : TZ w W ty nm ns de pa st fo pa' fo' ts) (q : Option Addr) : TZ w (W.setCell ⟨w.heap.size + 1 + 1, 4, none⟩ (.pointer q)) ty nm ns de pa st fo q fo' ts :=
  ⟨h.bel.setCell (by simp; omega) _, h.z.other _ _ (by simp; omega), h.r.other _ _ (by simp), h.o.put 4 _ (by simp)⟩
theorem TZ.put6 {w W : World} {ty nm ns : ByteArray} {de pa st fo pa' fo' : Option Addr} {ts : Raw} (h : TZ w W ty nm ns de pa st fo pa' fo' ts) (q : Option Addr) : TZ w (W.setCell ⟨w.heap.size + 1 + 1, 6, none⟩ (.pointer q)) ty nm ns de pa st fo pa' q ts :=
  ⟨h.bel.setCell (by simp; omega) _, h.z.other _ _ (by simp; omega), h.r.other _ _ (by simp), h.o.put 6 _ (by simp)⟩

theorem TZ.made (w : World) (ty nm ns : ByteArray) (de pa st fo : Option Addr) (ts : Raw) :
    TZ w (((w.alloc (.cells #[.string ty, .string nm, .string ns, .pointer de, .pointer pa, .pointer st, .pointer fo, .slice ts.a ts.l ts.c] 90)).alloc (.cells #[.string ⟨#[]⟩, .string ⟨#[]⟩, .string ⟨#[]⟩, .pointer none, .pointer none, .pointer none, .pointer none, .slice none 0 0] 77)).alloc
      (.cells #[.string ty, .string nm, .string ns, .pointer de, .pointer none, .pointer st, .pointer none, .slice none 0 0] 77)) ty nm ns de pa st fo none none ts := by
  have z := BoxAt.made w [.string ty, .string nm, .string ns, .pointer de, .pointer pa, .pointer st, .pointer fo, .slice ts.a ts.l ts.c] 90
  have b0 : Below w.heap.size w (w.alloc (.cells #[.string ty, .string nm, .string ns, .pointer de, .pointer pa, .pointer st, .pointer fo, .slice ts.a ts.l ts.c] 90)) := (Below.refl _ _).alloc (Nat.le_refl _) _
  have s0 : (w.alloc (.cells #[.string ty, .string nm, .string ns, .pointer de, .pointer pa, .pointer st, .pointer fo, .slice ts.a ts.l ts.c] 90)).heap.size = w.heap.size + 1 := by simp
  generalize w.alloc (.cells #[.string ty, .string nm, .string ns, .pointer de, .pointer pa, .pointer st, .pointer fo, .slice ts.a ts.l ts.c] 90) = W0 at *
  have r := BoxAt.made W0 [.string ⟨#[]⟩, .string ⟨#[]⟩, .string ⟨#[]⟩, .pointer none, .pointer none, .pointer none, .pointer none, .slice none 0 0] 77
  have b1 : Below W0.heap.size W0 (W0.alloc (.cells #[.string ⟨#[]⟩, .string ⟨#[]⟩, .string ⟨#[]⟩, .pointer none, .pointer none, .pointer none, .pointer none, .slice none 0 0] 77)) := (Below.refl _ _).alloc (Nat.le_refl _) _
  have s1 : (W0.alloc (.cells #[.string ⟨#[]⟩, .string ⟨#[]⟩, .string ⟨#[]⟩, .pointer none, .pointer none, .pointer none, .pointer none, .slice none 0 0] 77)).heap.size = W0.heap.size + 1 := by simp
  generalize W0.alloc (.cells #[.string ⟨#[]⟩, .string ⟨#[]⟩, .string ⟨#[]⟩, .pointer none, .pointer none, .pointer none, .pointer none, .slice none 0 0] 77) = W1 at *
  have o := BoxAt.made W1 [.string ty, .string nm, .string ns, .pointer de, .pointer none, .pointer st, .pointer none, .slice none 0 0] 77
  have b2 : Below W1.heap.size W1 (W1.alloc (.cells #[.string ty, .string nm, .string ns, .pointer de, .pointer none, .pointer st, .pointer none, .slice none 0 0] 77)) := (Below.refl _ _).alloc (Nat.le_refl _) _
  rw [s1, s0] at o
  rw [s0] at r
  exact ⟨(b0.trans (b1.mono b0.size)).trans (b2.mono (Nat.le_trans b0.size b1.size)), (z.step b1).step b2, r.step b2, o⟩

/-- What zzTools does with a list of depth d. -/
def ToolsDoes (d : Nat) : Prop := ∀ (s : Raw) (w : World), ToolsFit d w s →
  Calls Try.prog 29 #[.slice s.a s.l s.c] w fun e w' => ∃ q : Raw, e = .returned (.slice q.a q.l q.c) ∧ (0 < q.l → ∃ b off, q.a = some ⟨b, off, none⟩) ∧ Below w.heap.size w w'

theorem fin8_below {w W : World} {B : Nat} (h : Below w.heap.size w W) (hB : w.heap.size ≤ B) (v0 v1 v2 v3 v4 v5 v6 v7 : Value) : Below w.heap.size w ((fin7 W B v0 v1 v2 v3 v4 v5 v6).setCell ⟨B, 7, none⟩ v7) :=
  (fin7_below h hB v0 v1 v2 v3 v4 v5 v6).setCell (p := ⟨B, 7, none⟩) hB v7

set_option maxRecDepth 100000 in
set_option maxHeartbeats 2000000 in
theorem zzTool_any (d : Nat) (ih : ToolsDoes d) (ty nm ns : ByteArray) (de pa st fo : Option Addr) (ts : Raw) (w : World) (ok : ToolOk w ⟨ty, nm, ns, de, pa, st, fo, ts⟩) (fit : ToolsFit d w ts) :
    Calls Try.prog 38 #[.agg #[.string ty, .string nm, .string ns, .pointer de, .pointer pa, .pointer st, .pointer fo, .slice ts.a ts.l ts.c]] w fun e w' =>
      ∃ (pa' fo' : Option Addr) (q : Raw), e = .returned (.agg #[.string ty, .string nm, .string ns, .pointer de, .pointer pa', .pointer st, .pointer fo', .slice q.a q.l q.c]) ∧ Below w.heap.size w w' := by
  have tz := TZ.made w ty nm ns de pa st fo ts
  have Fit := hide fit
  clear fit
  cases pa with
  | none =>
    cases fo with
    | none =>
      clear ok
      go_enter Try.func38, Try.ntmps38
      go_wp2_with fail
      generalize ((w.alloc (.cells #[.string ty, .string nm, .string ns, .pointer de, .pointer (none), .pointer st, .pointer (none), .slice ts.a ts.l ts.c] 90)).alloc (.cells #[.string ⟨#[]⟩, .string ⟨#[]⟩, .string ⟨#[]⟩, .pointer none, .pointer none, .pointer none, .pointer none, .slice none 0 0] 77)).alloc
        (.cells #[.string ty, .string nm, .string ns, .pointer de, .pointer none, .pointer st, .pointer none, .slice none 0 0] 77) = W1 at *
      refine (ih ts _ (ToolsFit.step tz.bel (unhide Fit))).mono ?_
      rintro e W2 ⟨q, rfl, -, hb⟩
      replace tz := tz.step hb
      have o0 := tz.o.get 0 _ rfl
      have o1 := tz.o.get 1 _ rfl
      have o2 := tz.o.get 2 _ rfl
      have o3 := tz.o.get 3 _ rfl
      have o4 := tz.o.get 4 _ rfl
      have o5 := tz.o.get 5 _ rfl
      have o6 := tz.o.get 6 _ rfl
      have o7 := tz.o.get 7 _ rfl
      have r0 := tz.r.get 0 _ rfl
      have r1 := tz.r.get 1 _ rfl
      have r2 := tz.r.get 2 _ rfl
      have r3 := tz.r.get 3 _ rfl
      have r4 := tz.r.get 4 _ rfl
      have r5 := tz.r.get 5 _ rfl
      have r6 := tz.r.get 6 _ rfl
      have r7 := tz.r.get 7 _ rfl
      have f0 := tz.r.free 0
      have f1 := tz.r.free 1
      have f2 := tz.r.free 2
      have f3 := tz.r.free 3
      have f4 := tz.r.free 4
      have f5 := tz.r.free 5
      have f6 := tz.r.free 6
      have f7 := tz.r.free 7
      have g7 := tz.o.free 7
      go_wp2_with fail
      refine bodyPost_ret (v := .agg #[.string ty, .string nm, .string ns, .pointer de, .pointer (none), .pointer st, .pointer (none), .slice q.a q.l q.c]) (by simp [results, Try.results38, go_sem, r0, r1, r2, r3, r4, r5, r6, r7]) rfl ⟨_, _, q, rfl, ?_⟩
      exact fin8_below (tz.bel.setCell (p := ⟨w.heap.size + 1 + 1, 7, none⟩) (by simp; omega) (.slice q.a q.l q.c)) (Nat.le_add_right w.heap.size 1) (.string ty) (.string nm) (.string ns) (.pointer de) (.pointer (none)) (.pointer st) (.pointer (none)) (.slice q.a q.l q.c)

    | some fa =>
      obtain ⟨fb, fo, rfl, y0, y1, y2, f0, f1, f2, m0, m1, m2⟩ := ok.fo fa rfl
      have F0 := hide f0
      have F1 := hide f1
      have F2 := hide f2
      clear f0 f1 f2 m0 m1 m2
      clear ok
      go_enter Try.func38, Try.ntmps38
      go_wp2_with fail
      generalize ((w.alloc (.cells #[.string ty, .string nm, .string ns, .pointer de, .pointer (none), .pointer st, .pointer (some ⟨fb, fo, none⟩), .slice ts.a ts.l ts.c] 90)).alloc (.cells #[.string ⟨#[]⟩, .string ⟨#[]⟩, .string ⟨#[]⟩, .pointer none, .pointer none, .pointer none, .pointer none, .slice none 0 0] 77)).alloc
        (.cells #[.string ty, .string nm, .string ns, .pointer de, .pointer none, .pointer st, .pointer none, .slice none 0 0] 77) = W1 at *
      have f0 := Below.keep tz.bel (unhide F0)
      have f1 := Below.keep tz.bel (unhide F1)
      have f2 := Below.keep tz.bel (unhide F2)
      have z6 := tz.z.get 6 _ rfl
      have o6 := tz.o.get 6 _ rfl
      have p6 := tz.o.free 6
      have hsz := tz.o.size
      go_region
      have tz1 := ((tz.put6 (some ⟨W1.heap.size, 0, none⟩)).step ((Below.refl _ _).alloc (Nat.le_refl _) (.cells #[.string y0, .string y1, .string y2] 102))).drew
      clear z6 o6 p6 tz
      generalize ((W1.setCell ⟨w.heap.size + 1 + 1, 6, none⟩ (.pointer (some ⟨W1.heap.size, 0, none⟩))).alloc (.cells #[.string y0, .string y1, .string y2] 102)).drew = W3 at *
      generalize W1.heap.size = F at *
      have tz := tz1
      have z7 := tz.z.get 7 _ rfl
      go_wp2_with fail
      clear z7 tz1
      clear f0 f1 f2
      refine (ih ts _ (ToolsFit.step tz.bel (unhide Fit))).mono ?_
      rintro e W2 ⟨q, rfl, -, hb⟩
      replace tz := tz.step hb
      have o0 := tz.o.get 0 _ rfl
      have o1 := tz.o.get 1 _ rfl
      have o2 := tz.o.get 2 _ rfl
      have o3 := tz.o.get 3 _ rfl
      have o4 := tz.o.get 4 _ rfl
      have o5 := tz.o.get 5 _ rfl
      have o6 := tz.o.get 6 _ rfl
      have o7 := tz.o.get 7 _ rfl
      have r0 := tz.r.get 0 _ rfl
      have r1 := tz.r.get 1 _ rfl
      have r2 := tz.r.get 2 _ rfl
      have r3 := tz.r.get 3 _ rfl
      have r4 := tz.r.get 4 _ rfl
      have r5 := tz.r.get 5 _ rfl
      have r6 := tz.r.get 6 _ rfl
      have r7 := tz.r.get 7 _ rfl
      have f0 := tz.r.free 0
      have f1 := tz.r.free 1
      have f2 := tz.r.free 2
      have f3 := tz.r.free 3
      have f4 := tz.r.free 4
      have f5 := tz.r.free 5
      have f6 := tz.r.free 6
      have f7 := tz.r.free 7
      have g7 := tz.o.free 7
      go_wp2_with fail
      refine bodyPost_ret (v := .agg #[.string ty, .string nm, .string ns, .pointer de, .pointer (none), .pointer st, .pointer (some ⟨F, 0, none⟩), .slice q.a q.l q.c]) (by simp [results, Try.results38, go_sem, r0, r1, r2, r3, r4, r5, r6, r7]) rfl ⟨_, _, q, rfl, ?_⟩
      exact fin8_below (tz.bel.setCell (p := ⟨w.heap.size + 1 + 1, 7, none⟩) (by simp; omega) (.slice q.a q.l q.c)) (Nat.le_add_right w.heap.size 1) (.string ty) (.string nm) (.string ns) (.pointer de) (.pointer (none)) (.pointer st) (.pointer (some ⟨F, 0, none⟩)) (.slice q.a q.l q.c)

  | some qa =>
    cases fo with
    | none =>
      obtain ⟨⟨za, zl, zc⟩, g0, n0⟩ := ok.pa qa rfl
      have g0' : w.cell? qa = some (.slice za zl zc) := g0
      clear g0 n0
      have G0 := Below.keep tz.bel g0'
      clear ok
      go_enter Try.func38, Try.ntmps38
      go_wp2_with fail
      generalize ((w.alloc (.cells #[.string ty, .string nm, .string ns, .pointer de, .pointer (some qa), .pointer st, .pointer (none), .slice ts.a ts.l ts.c] 90)).alloc (.cells #[.string ⟨#[]⟩, .string ⟨#[]⟩, .string ⟨#[]⟩, .pointer none, .pointer none, .pointer none, .pointer none, .slice none 0 0] 77)).alloc
        (.cells #[.string ty, .string nm, .string ns, .pointer de, .pointer none, .pointer st, .pointer none, .slice none 0 0] 77) = W1 at *
      refine (zzRawPtr_any _ _ _ _).mono ?_
      rintro e Wp ⟨pp, rfl, hbp⟩
      replace tz := tz.step hbp
      have o4 := tz.o.get 4 _ rfl
      have p4 := tz.o.free 4
      have z6 := tz.z.get 6 _ rfl
      have z7 := tz.z.get 7 _ rfl
      go_wp2_with fail
      replace tz := tz.put4 pp
      clear o4 p4 z6 z7
      generalize Wp.setCell ⟨w.heap.size + 1 + 1, 4, none⟩ (.pointer pp) = Wq at *
      refine (ih ts _ (ToolsFit.step tz.bel (unhide Fit))).mono ?_
      rintro e W2 ⟨q, rfl, -, hb⟩
      replace tz := tz.step hb
      have o0 := tz.o.get 0 _ rfl
      have o1 := tz.o.get 1 _ rfl
      have o2 := tz.o.get 2 _ rfl
      have o3 := tz.o.get 3 _ rfl
      have o4 := tz.o.get 4 _ rfl
      have o5 := tz.o.get 5 _ rfl
      have o6 := tz.o.get 6 _ rfl
      have o7 := tz.o.get 7 _ rfl
      have r0 := tz.r.get 0 _ rfl
      have r1 := tz.r.get 1 _ rfl
      have r2 := tz.r.get 2 _ rfl
      have r3 := tz.r.get 3 _ rfl
      have r4 := tz.r.get 4 _ rfl
      have r5 := tz.r.get 5 _ rfl
      have r6 := tz.r.get 6 _ rfl
      have r7 := tz.r.get 7 _ rfl
      have f0 := tz.r.free 0
      have f1 := tz.r.free 1
      have f2 := tz.r.free 2
      have f3 := tz.r.free 3
      have f4 := tz.r.free 4
      have f5 := tz.r.free 5
      have f6 := tz.r.free 6
      have f7 := tz.r.free 7
      have g7 := tz.o.free 7
      go_wp2_with fail
      refine bodyPost_ret (v := .agg #[.string ty, .string nm, .string ns, .pointer de, .pointer (pp), .pointer st, .pointer (none), .slice q.a q.l q.c]) (by simp [results, Try.results38, go_sem, r0, r1, r2, r3, r4, r5, r6, r7]) rfl ⟨_, _, q, rfl, ?_⟩
      exact fin8_below (tz.bel.setCell (p := ⟨w.heap.size + 1 + 1, 7, none⟩) (by simp; omega) (.slice q.a q.l q.c)) (Nat.le_add_right w.heap.size 1) (.string ty) (.string nm) (.string ns) (.pointer de) (.pointer (pp)) (.pointer st) (.pointer (none)) (.slice q.a q.l q.c)

    | some fa =>
      obtain ⟨⟨za, zl, zc⟩, g0, n0⟩ := ok.pa qa rfl
      have g0' : w.cell? qa = some (.slice za zl zc) := g0
      clear g0 n0
      have G0 := Below.keep tz.bel g0'
      obtain ⟨fb, fo, rfl, y0, y1, y2, f0, f1, f2, m0, m1, m2⟩ := ok.fo fa rfl
      have F0 := hide f0
      have F1 := hide f1
      have F2 := hide f2
      clear f0 f1 f2 m0 m1 m2
      clear ok
      go_enter Try.func38, Try.ntmps38
      go_wp2_with fail
      generalize ((w.alloc (.cells #[.string ty, .string nm, .string ns, .pointer de, .pointer (some qa), .pointer st, .pointer (some ⟨fb, fo, none⟩), .slice ts.a ts.l ts.c] 90)).alloc (.cells #[.string ⟨#[]⟩, .string ⟨#[]⟩, .string ⟨#[]⟩, .pointer none, .pointer none, .pointer none, .pointer none, .slice none 0 0] 77)).alloc
        (.cells #[.string ty, .string nm, .string ns, .pointer de, .pointer none, .pointer st, .pointer none, .slice none 0 0] 77) = W1 at *
      refine (zzRawPtr_any _ _ _ _).mono ?_
      rintro e Wp ⟨pp, rfl, hbp⟩
      replace tz := tz.step hbp
      have o4 := tz.o.get 4 _ rfl
      have p4 := tz.o.free 4
      have z6 := tz.z.get 6 _ rfl
      have z7 := tz.z.get 7 _ rfl
      go_wp2_with fail
      replace tz := tz.put4 pp
      clear o4 p4 z6 z7
      generalize Wp.setCell ⟨w.heap.size + 1 + 1, 4, none⟩ (.pointer pp) = Wq at *
      obtain ⟨W1, hW1⟩ : ∃ W1, W1 = Wq := ⟨_, rfl⟩
      subst hW1
      have f0 := Below.keep tz.bel (unhide F0)
      have f1 := Below.keep tz.bel (unhide F1)
      have f2 := Below.keep tz.bel (unhide F2)
      have z6 := tz.z.get 6 _ rfl
      have o6 := tz.o.get 6 _ rfl
      have p6 := tz.o.free 6
      have hsz := tz.o.size
      go_region
      have tz1 := ((tz.put6 (some ⟨W1.heap.size, 0, none⟩)).step ((Below.refl _ _).alloc (Nat.le_refl _) (.cells #[.string y0, .string y1, .string y2] 102))).drew
      clear z6 o6 p6 tz
      generalize ((W1.setCell ⟨w.heap.size + 1 + 1, 6, none⟩ (.pointer (some ⟨W1.heap.size, 0, none⟩))).alloc (.cells #[.string y0, .string y1, .string y2] 102)).drew = W3 at *
      generalize W1.heap.size = F at *
      have tz := tz1
      have z7 := tz.z.get 7 _ rfl
      go_wp2_with fail
      clear z7 tz1
      clear f0 f1 f2
      refine (ih ts _ (ToolsFit.step tz.bel (unhide Fit))).mono ?_
      rintro e W2 ⟨q, rfl, -, hb⟩
      replace tz := tz.step hb
      have o0 := tz.o.get 0 _ rfl
      have o1 := tz.o.get 1 _ rfl
      have o2 := tz.o.get 2 _ rfl
      have o3 := tz.o.get 3 _ rfl
      have o4 := tz.o.get 4 _ rfl
      have o5 := tz.o.get 5 _ rfl
      have o6 := tz.o.get 6 _ rfl
      have o7 := tz.o.get 7 _ rfl
      have r0 := tz.r.get 0 _ rfl
      have r1 := tz.r.get 1 _ rfl
      have r2 := tz.r.get 2 _ rfl
      have r3 := tz.r.get 3 _ rfl
      have r4 := tz.r.get 4 _ rfl
      have r5 := tz.r.get 5 _ rfl
      have r6 := tz.r.get 6 _ rfl
      have r7 := tz.r.get 7 _ rfl
      have f0 := tz.r.free 0
      have f1 := tz.r.free 1
      have f2 := tz.r.free 2
      have f3 := tz.r.free 3
      have f4 := tz.r.free 4
      have f5 := tz.r.free 5
      have f6 := tz.r.free 6
      have f7 := tz.r.free 7
      have g7 := tz.o.free 7
      go_wp2_with fail
      refine bodyPost_ret (v := .agg #[.string ty, .string nm, .string ns, .pointer de, .pointer (pp), .pointer st, .pointer (some ⟨F, 0, none⟩), .slice q.a q.l q.c]) (by simp [results, Try.results38, go_sem, r0, r1, r2, r3, r4, r5, r6, r7]) rfl ⟨_, _, q, rfl, ?_⟩
      exact fin8_below (tz.bel.setCell (p := ⟨w.heap.size + 1 + 1, 7, none⟩) (by simp; omega) (.slice q.a q.l q.c)) (Nat.le_add_right w.heap.size 1) (.string ty) (.string nm) (.string ns) (.pointer de) (.pointer (pp)) (.pointer st) (.pointer (some ⟨F, 0, none⟩)) (.slice q.a q.l q.c)


theorem make28 (n : Nat) (hn : n ≤ 1048576) (w : World) : (Instr.makeSlice 28 (.int .i64 (n : Int)) (.int .i64 (n : Int))).run Try.prog w = .ok (.slice (some ⟨w.heap.size, 0, none⟩) n n) (w.alloc (.cells (madeCells #[.string ⟨#[]⟩, .string ⟨#[]⟩, .string ⟨#[]⟩, .pointer none, .pointer none, .pointer none, .pointer none, .slice none 0 0] (n * 8)) 77)) := by
  obtain ⟨i, hi, hz0, hz1, hz2⟩ := info_parts info77
  have := run_make (P := Try.prog) w 28 77 i _ (by kernel_rfl) hi hz0 .i64 .i64 n n (by omega) (by omega) (by rw [hz2]; omega) (by omega)
  rw [this, hz1]
  simp [Value.cells]

theorem list8 {α : Type} : ∀ {l : List α}, l.length = 8 → ∃ a0 a1 a2 a3 a4 a5 a6 a7, l = [a0, a1, a2, a3, a4, a5, a6, a7]
  | [a0, a1, a2, a3, a4, a5, a6, a7], _ => ⟨a0, a1, a2, a3, a4, a5, a6, a7, rfl⟩

set_option maxRecDepth 100000 in
set_option maxHeartbeats 1000000 in
theorem zzTools_succ (d : Nat) (ih : ToolsDoes d) : ToolsDoes (d + 1) := by
  intro s w hfit
  obtain ⟨a, l, c⟩ := s
  have fl : l ≤ 1048576 := hfit.1
  cases a with
  | none =>
    go_enter Try.func29, Try.ntmps29
    go_wp2_with fail
    go_ret
    exact ⟨⟨none, 0, 0⟩, rfl, fun h => absurd h (by simp), Below.refl _ _⟩
  | some aa =>
    have Hp := hide hfit
    clear hfit
    have hmk := make28 l fl
    generalize hz : madeCells #[.string ⟨#[]⟩, .string ⟨#[]⟩, .string ⟨#[]⟩, .pointer none, .pointer none, .pointer none, .pointer none, .slice none 0 0] (l * 8) = z at hmk
    have rows : RowsAt (w.alloc (.cells z 77)) w.heap.size l 8 (fun _ => [.string ⟨#[]⟩, .string ⟨#[]⟩, .string ⟨#[]⟩, .pointer none, .pointer none, .pointer none, .pointer none, .slice none 0 0]) := by
      rw [← hz]; exact RowsAt.made w [.string ⟨#[]⟩, .string ⟨#[]⟩, .string ⟨#[]⟩, .pointer none, .pointer none, .pointer none, .pointer none, .slice none 0 0] l 8 77 rfl (by omega)
    have bel : Below w.heap.size w (w.alloc (.cells z 77)) := (Below.refl _ _).alloc (Nat.le_refl _) _
    clear hz
    go_enter Try.func29, Try.ntmps29
    go_wp2_with fail
    generalize w.alloc (.cells z 77) = W1 at *
    clear hmk
    go_loopw [4] (fun i wr => ∃ (k : Nat) (row : Nat → List Value), k ≤ l ∧ i = .int .i64 k ∧ Below w.heap.size w wr ∧ RowsAt wr w.heap.size l 8 row ∧ Hid (∀ i, (row i).length = 8)) (fun i _ => l - (intOf i).toNat)
    case atStart => exact ⟨0, _, Nat.zero_le _, rfl, bel, rows, fun _ => rfl⟩
    case round =>
      clear bel rows
      obtain ⟨k, row, hk, rfl, bel, rows, Hl⟩ := hrel
      by_cases hlt : k < l
      · have hlt' : (k : Int) < l := by omega
        obtain ⟨b, off, t, ea, hc, ok, hn⟩ := (ToolsFit.step bel (unhide Hp)).2 k hlt
        obtain rfl : aa = ⟨b, off, none⟩ := by simpa using ea
        obtain ⟨ty, nm, ns, de, pa, st, fo, ts⟩ := t
        obtain ⟨x0, x1, x2, x3, x4, x5, x6, x7⟩ := tool_cells hc
        clear ea hc
        go_wp2_with fail
        refine (zzTool_any d ih ty nm ns de pa st fo ts _ ok hn).mono ?_
        rintro e W2 ⟨pa', fo', q, rfl, hb2⟩
        have bel2 := bel.trans (hb2.mono bel.size)
        replace rows := rows.step hb2
        obtain ⟨a0, a1, a2, a3, a4, a5, a6, a7, hrow⟩ := list8 (unhide Hl k)
        have rk := rows.rows k hlt
        rw [hrow] at rk
        have y0 := rk 0 _ rfl
        have y1 := rk 1 _ rfl
        have y2 := rk 2 _ rfl
        have y3 := rk 3 _ rfl
        have y4 := rk 4 _ rfl
        have y5 := rk 5 _ rfl
        have y6 := rk 6 _ rfl
        have y7 := rk 7 _ rfl
        have g0 := rows.free (k * 8)
        have g1 := rows.free (k * 8 + 1)
        have g2 := rows.free (k * 8 + 2)
        have g3 := rows.free (k * 8 + 3)
        have g4 := rows.free (k * 8 + 4)
        have g5 := rows.free (k * 8 + 5)
        have g6 := rows.free (k * 8 + 6)
        have g7 := rows.free (k * 8 + 7)
        rw [Nat.add_zero] at y0
        clear hrow rk x0 x1 x2 x3 x4 x5 x6 x7 ok hn hb2
        go_wp2_with fail
        go_roundw
        case rel =>
          refine ⟨k + 1, (fun i => if i = k then [.string ty, .string nm, .string ns, .pointer de, .pointer pa', .pointer st, .pointer fo', .slice q.a q.l q.c] else row i), by omega, by go_num, ?_, ?_, ?_⟩
          · exact below_puts (Nat.le_refl _) [.string ty, .string nm, .string ns, .pointer de, .pointer pa', .pointer st, .pointer fo', .slice q.a q.l q.c] (k * 8) bel2
          · exact rows.store (fun i _ => unhide Hl i) k hlt [.string ty, .string nm, .string ns, .pointer de, .pointer pa', .pointer st, .pointer fo', .slice q.a q.l q.c] rfl
          · exact hide (fun i => by by_cases e : i = k <;> simp [e, unhide Hl i])
        case measure => simp [intOf]; omega
      · have hlt' : ¬ (k : Int) < l := by omega
        go_wp2_with fail
        go_ret
        exact ⟨⟨some ⟨w.heap.size, 0, none⟩, l, l⟩, rfl, fun _ => ⟨_, _, rfl⟩, bel⟩

theorem zzTools_any : ∀ d, ToolsDoes d
  | 0 => fun _ _ h => h.elim
  | d + 1 => zzTools_succ d (zzTools_any d)

end Go.Proofs.Qxb6616371a
