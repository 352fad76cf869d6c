/-
  zzListedPartsOK OF A LIST AS LISTED.
-/
import Derived.Test.Qxb6616371aPartOK
namespace Go.Proofs.Qxb6616371a
open Go.RowKit
set_option linter.unusedVariables false
set_option linter.unusedSimpArgs false

theorem run_sameAddr_apart {w : World} {a b : Addr} {u v : Value} (hne : a.block ≠ b.block) (ha : w.cell? a = some u) (hb : w.cell? b = some v) (hf : Free w b.block) : (sameAddr a b).run Try.prog w = .ok false w := by
  obtain ⟨ab, ao, sp⟩ := a
  obtain ⟨bb, bo, bs⟩ := b
  have has := World.cell?_spot ha
  have hbs := World.cell?_spot hb
  simp only at hne hf has hbs
  subst has hbs
  have hfb := hf bo
  cases hA : w.heap[ab]? with
  | none => simp [World.cell?, hA] at ha
  | some oA =>
    cases oA with
    | cells ca ta ra =>
      cases hB : w.heap[bb]? with
      | none => simp [World.cell?, hB] at hb
      | some oB =>
        cases oB with
        | cells cb tb rb =>
          obtain ⟨lo, hi⟩ := rb
          obtain ⟨lo', hi'⟩ := ra
          have sa : 0 < ca.size := by
            simp [World.cell?, hA] at ha
            have := (Array.getElem?_eq_some_iff.1 ha).1
            omega
          have sa' : ca.size ≠ 0 := by omega
          have hfs := hf cb.size
          simp only [World.frozen?, hB] at hfb hfs
          simp [sameAddr, hne, World.frozen?, hA, hB, hfb, hfs, noView, viewAt, World.shape?, mayBeOne, stringish, sa']
        | _ => simp [World.cell?, hB] at hb
    | _ => simp [World.cell?, hA] at ha

theorem eq71_apart {w : World} {a b : Addr} {u v : Value} (hne : a.block ≠ b.block) (ha : w.cell? a = some u) (hb : w.cell? b = some v) (hf : Free w b.block) : (binOp .eql 71 (.pointer (some a)) (.pointer (some b))).run Try.prog w = .ok (.bool false) w := by
  obtain ⟨j, hj, hsz⟩ : ∃ j, Try.prog.info? (Try.prog.pointee 71) = some j ∧ j.size ≠ 0 := by
    obtain ⟨j, hj⟩ := info_of (t := Try.prog.pointee 71) (by kernel_rfl)
    refine ⟨j, hj, ?_⟩
    have h0 : ((Try.prog.info? (Try.prog.pointee 71)).map (·.size)) = some 7 := by kernel_rfl
    rw [hj] at h0
    simp at h0
    omega
  have hp : Try.prog.underlying 71 = some (.pointer (Try.prog.pointee 71)) := by kernel_rfl
  have h : ∀ d : Nat, (Op.equalIn (d + 1) 71 (.pointer (some a)) (.pointer (some b))).run Try.prog w = .ok false w := fun d => by
    simp [Op.equalIn, run_underlying hp, sizeOf, typeInfo, hj, hsz, run_sameAddr_apart hne ha hb hf]
  simp only [binOp]
  simp [Op.equal, Op.maxDepth, h 9999]
theorem drew_heap (V : World) : V.drew.heap = V.heap := rfl

set_option maxRecDepth 100000 in
set_option maxHeartbeats 2000000 in
theorem zzListedPartsOK_good (b l : Nat) (gv sv hv : Nat → PartV) (sa : Option Addr) (sc : Nat) (ha : Option Addr) (hc : Nat) (w : World) (hg : PartsAt w ⟨some ⟨b, 0, none⟩, l, l⟩ gv) (hs : PartsAt w ⟨sa, l, sc⟩ sv) (hh : PartsAt w ⟨ha, l, hc⟩ hv)
    (good : ∀ i, i < l → Good w (sv i) (gv i)) (hne : 0 < l → ∀ b' off, ha = some ⟨b', off, none⟩ → b ≠ b' ∧ Free w b') :
    Calls Try.prog 20 #[.iface 56 (.slice (some ⟨b, 0, none⟩) l l), .slice sa l sc, .slice ha l hc] w fun e w' => e = .returned (.bool true) ∧ Below w.heap.size w w' := by
  have hlm : l ≤ maxLen := hs.1
  unfold maxLen at hlm
  have Hg := hide hg
  have Hs := hide hs
  have Gd := hide good
  by_cases h0 : 0 < l
  · obtain ⟨hb, ho, ea, hr, -⟩ := hh.2 0 h0
    simp only at ea
    subst ea
    obtain ⟨b0, off0, eb, hr', -⟩ := hg.2 0 h0
    obtain ⟨rfl, rfl⟩ : b = b0 ∧ 0 = off0 := by simpa using eb
    obtain ⟨hn, hf⟩ := hne h0 hb ho rfl
    have c1 := hr 0 _ rfl
    have c2 := hr' 0 _ rfl
    simp only [Nat.zero_mul, Nat.add_zero] at c1 c2
    have hx : ∀ n, (binOp .eql 71 (.pointer (some ⟨b, 0, none⟩)) (.pointer (some ⟨hb, ho, none⟩))).run Try.prog (w.drewN n) = .ok (.bool false) (w.drewN n) := fun n => by
      have bb : Below w.heap.size w (w.drewN n) := below_drewN (Below.refl _ _) n
      exact eq71_apart hn (Below.keep bb c2) (Below.keep bb c1) (hf.up c1 (up_below bb))
    have h1 : (0 : Int) < l := by omega
    clear hg hs hh good hne eb c1 c2 hr hr' hn hf
    go_enter Try.func20, Try.ntmps20
    go_wp2_with fail
    refine (zzPartsOf_any (.parts ⟨some ⟨b, 0, none⟩, l, l⟩ gv) _).mono ?_
    rintro e w1 ⟨rfl, hw1⟩
    obtain rfl : w = w1 := hw1.symm
    clear hw1
    simp only [sl_nil, sl_text, sl_parts, isParts_nil, isParts_text, isParts_parts]
    go_wp2_with fail
    go_quiet (fail)
    go_wp2_with fail
    clear hx h1 h0
    go_loopw [9] (fun i wr => ∃ (k : Nat), k ≤ l ∧ i = .int .i64 k ∧ Below w.heap.size w wr) (fun i _ => l - (intOf i).toNat)
    case atStart => exact ⟨0, Nat.zero_le _, rfl, below_drewN (Below.refl _ _) _⟩
    case round =>
      obtain ⟨k, hk, rfl, bel⟩ := hrel
      have Bel := hide bel
      clear bel
      by_cases hlt : k < l
      · have hlt' : (k : Int) < l := by omega
        obtain ⟨b0, off0, ea, hc, hy⟩ := ((unhide Hg).step (unhide Bel)).2 k hlt
        obtain ⟨rfl, rfl⟩ : b = b0 ∧ 0 = off0 := by simpa using ea
        rw [Nat.zero_add] at hc
        obtain ⟨b', off', ea', hc', hy'⟩ := ((unhide Hs).step (unhide Bel)).2 k hlt
        simp only at ea'
        subst ea'
        have gd := ((unhide Gd) k hlt).up (up_below (unhide Bel))
        generalize gv k = g at hc hy gd
        generalize sv k = z at hc' hy' gd
        have Gk := hide gd
        obtain ⟨gty, gtx, grf, gim, gdt, ⟨gana, ganl, ganc⟩, ⟨glpa, glpl, glpc⟩, gar, glr⟩ := g
        obtain ⟨ty, tx, rf, im, dt, ⟨ana, anl, anc⟩, ⟨lpa, lpl, lpc⟩, ar, lr⟩ := z
        obtain ⟨x0, x1, x2, x3, x4, x5, x6⟩ := part_cells hc
        obtain ⟨y0, y1, y2, y3, y4, y5, y6⟩ := part_cells hc'
        simp only at x5 x6 y5 y6
        have Hy := hide hy
        have Hy' := hide hy'
        clear hc hc' hy hy' gd ea
        go_wp2_with fail
        go_region_held3 (fun v => v.cell? ⟨b, k * 7, none⟩ = some (.string gty) ∧ v.cell? ⟨b, k * 7 + 1, none⟩ = some (.pointer gtx) ∧ v.cell? ⟨b, k * 7 + 2, none⟩ = some (.pointer grf) ∧ v.cell? ⟨b, k * 7 + 3, none⟩ = some (.pointer gim) ∧ v.cell? ⟨b, k * 7 + 4, none⟩ = some (.pointer gdt) ∧ v.cell? ⟨b, k * 7 + 5, none⟩ = some (.slice gana ganl ganc) ∧ v.cell? ⟨b, k * 7 + 6, none⟩ = some (.slice glpa glpl glpc) ∧ v.cell? ⟨b', off' + k * 7, none⟩ = some (.string ty) ∧ v.cell? ⟨b', off' + k * 7 + 1, none⟩ = some (.pointer tx) ∧ v.cell? ⟨b', off' + k * 7 + 2, none⟩ = some (.pointer rf) ∧ v.cell? ⟨b', off' + k * 7 + 3, none⟩ = some (.pointer im) ∧ v.cell? ⟨b', off' + k * 7 + 4, none⟩ = some (.pointer dt) ∧ v.cell? ⟨b', off' + k * 7 + 5, none⟩ = some (.slice ana anl anc) ∧ v.cell? ⟨b', off' + k * 7 + 6, none⟩ = some (.slice lpa lpl lpc))
          (first | exact ⟨x0, x1, x2, x3, x4, x5, x6, y0, y1, y2, y3, y4, y5, y6⟩ | exact ⟨Below.keep (unhide Hb) x0, Below.keep (unhide Hb) x1, Below.keep (unhide Hb) x2, Below.keep (unhide Hb) x3, Below.keep (unhide Hb) x4, Below.keep (unhide Hb) x5, Below.keep (unhide Hb) x6, Below.keep (unhide Hb) y0, Below.keep (unhide Hb) y1, Below.keep (unhide Hb) y2, Below.keep (unhide Hb) y3, Below.keep (unhide Hb) y4, Below.keep (unhide Hb) y5, Below.keep (unhide Hb) y6⟩)
          (first
            | (go_at_call 32; refine (zzListedPartOK_good ⟨ty, tx, rf, im, dt, ⟨ana, anl, anc⟩, ⟨lpa, lpl, lpc⟩, ar, lr⟩ ⟨gty, gtx, grf, gim, gdt, ⟨gana, ganl, ganc⟩, ⟨glpa, glpl, glpc⟩, gar, glr⟩ _ ?_ ?_ ?_).mono ?_; exact (unhide Gk).up (up_below (Below.refl _ _).drew); exact (unhide Hy').step (Below.refl _ _).drew; exact (unhide Hy).step (Below.refl _ _).drew; rintro e w1 ⟨rfl, hb⟩; have Hb : Hid (Below wr.heap.size wr w1) := hide ((Below.refl _ _).drew.trans hb); clear hb))
        go_wp2_with fail
        go_roundw
        case rel => exact ⟨k + 1, by omega, by go_num, (unhide Bel).trans ((unhide Hb).mono (unhide Bel).size)⟩
        case measure => simp [intOf]; omega
      · have hlt' : ¬ (k : Int) < l := by omega
        go_wp2_with fail
        go_ret
        exact ⟨rfl, unhide Bel⟩
  · obtain rfl : l = 0 := by omega
    clear hg hs hh good hne Hg Hs Gd hlm h0
    go_enter Try.func20, Try.ntmps20
    go_wp2_with fail
    refine (zzPartsOf_any (.parts ⟨some ⟨b, 0, none⟩, 0, 0⟩ gv) _).mono ?_
    rintro e w1 ⟨rfl, hw1⟩
    obtain rfl : w = w1 := hw1.symm
    clear hw1
    simp only [sl_nil, sl_text, sl_parts, isParts_nil, isParts_text, isParts_parts]
    go_wp2_with fail
    go_quiet (fail)
    go_wp2_with fail
    refine wp_loop_once ?_
    go_wp2_with fail
    go_ret
    exact ⟨rfl, below_drewN (Below.refl _ _) _⟩

end Go.Proofs.Qxb6616371a
