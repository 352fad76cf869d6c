/-
  zzSamePartsValue OF TWO LISTS WHOSE PARTS HAVE THE SAME CELLS.
-/
import Derived.Test.Qxb6616371aSamePart
namespace Go.Proofs.Qxb6616371a
open Go.RowKit
set_option linter.unusedVariables false

set_option maxRecDepth 100000 in
set_option maxHeartbeats 2000000 in
theorem zzSamePartsValue_same (s q : Raw) (pv qv : Nat → PartV) (w : World) (hs : PartsAt w s pv) (hq : PartsAt w q qv) (hn : s.a.isNone = q.a.isNone) (hl : s.l = q.l) (he : ∀ i, i < s.l → (qv i).cells = (pv i).cells) :
    Calls Try.prog 35 #[.slice s.a s.l s.c, .slice q.a q.l q.c] w fun e w' => e = .returned (.bool true) ∧ Below w.heap.size w w' := by
  obtain ⟨a, l, c⟩ := s
  obtain ⟨a', l', c'⟩ := q
  simp only at hl hn
  subst hl
  have hlm : l ≤ maxLen := hs.1
  have Hs := hide hs
  have Hq := hide hq
  have He := hide he
  clear hs hq he
  unfold maxLen at hlm
  have hnn : (a.isNone != a'.isNone) = false := by rw [hn]; simp
  simp only
  go_enter Try.func35, Try.ntmps35
  go_wp2_with fail
  go_loopw [5] (fun i wr => ∃ (k : Nat), k ≤ l ∧ i = .int .i64 k ∧ Below w.heap.size w wr) (fun i _ => l - (intOf i).toNat)
  case atStart => exact ⟨0, Nat.zero_le _, rfl, Below.refl _ _⟩
  case round =>
    obtain ⟨k, hk, rfl, bel⟩ := hrel
    have Bel := hide bel
    clear bel
    by_cases hlt : k < l
    · have hlt' : (k : Int) < l := by omega
      obtain ⟨b, off, ea, hc, hy⟩ := ((unhide Hs).step (unhide Bel)).2 k hlt
      obtain ⟨b', off', ea', hc', -⟩ := ((unhide Hq).step (unhide Bel)).2 k hlt
      rw [unhide He k hlt] at hc'
      simp only at ea ea'
      subst ea ea'
      generalize pv k = p at hc hc' hy
      obtain ⟨ty, tx, rf, im, dt, ⟨ana, anl, anc⟩, ⟨lpa, lpl, lpc⟩, ar, lr⟩ := p
      obtain ⟨x0, x1, x2, x3, x4, x5, x6⟩ := part_cells hc
      obtain ⟨y0, y1, y2, y3, y4, y5, y6⟩ := part_cells hc'
      simp only at x5 x6 y5 y6
      have Hy := hide hy
      clear hc hc' hy hn
      go_wp2_with fail
      go_region_held3 (fun v => v.cell? ⟨b, off + k * 7, none⟩ = some (.string ty) ∧ v.cell? ⟨b, off + k * 7 + 1, none⟩ = some (.pointer tx) ∧ v.cell? ⟨b, off + k * 7 + 2, none⟩ = some (.pointer rf) ∧ v.cell? ⟨b, off + k * 7 + 3, none⟩ = some (.pointer im) ∧ v.cell? ⟨b, off + k * 7 + 4, none⟩ = some (.pointer dt) ∧ v.cell? ⟨b, off + k * 7 + 5, none⟩ = some (.slice ana anl anc) ∧ v.cell? ⟨b, off + k * 7 + 6, none⟩ = some (.slice lpa lpl lpc) ∧ v.cell? ⟨b', off' + k * 7, none⟩ = some (.string ty) ∧ v.cell? ⟨b', off' + k * 7 + 1, none⟩ = some (.pointer tx) ∧ v.cell? ⟨b', off' + k * 7 + 2, none⟩ = some (.pointer rf) ∧ v.cell? ⟨b', off' + k * 7 + 3, none⟩ = some (.pointer im) ∧ v.cell? ⟨b', off' + k * 7 + 4, none⟩ = some (.pointer dt) ∧ v.cell? ⟨b', off' + k * 7 + 5, none⟩ = some (.slice ana anl anc) ∧ v.cell? ⟨b', off' + k * 7 + 6, none⟩ = some (.slice lpa lpl lpc))
        (first | exact ⟨x0, x1, x2, x3, x4, x5, x6, y0, y1, y2, y3, y4, y5, y6⟩ | exact ⟨Below.keep (unhide Hb) x0, Below.keep (unhide Hb) x1, Below.keep (unhide Hb) x2, Below.keep (unhide Hb) x3, Below.keep (unhide Hb) x4, Below.keep (unhide Hb) x5, Below.keep (unhide Hb) x6, Below.keep (unhide Hb) y0, Below.keep (unhide Hb) y1, Below.keep (unhide Hb) y2, Below.keep (unhide Hb) y3, Below.keep (unhide Hb) y4, Below.keep (unhide Hb) y5, Below.keep (unhide Hb) y6⟩)
        (first
          | (go_at_call 41; refine (zzSamePartValue_self ty tx rf im dt ana anl anc lpa lpl lpc ar lr _ ?_).mono ?_; exact (unhide Hy).step (Below.refl _ _).drew; rintro e w1 ⟨rfl, hb⟩; have Hb : Hid (Below wr.heap.size wr w1) := hide ((Below.refl _ _).drew.trans hb); clear hb))
      go_wp2_with fail
      refine ⟨⟨_, _, _, _, _, _, _, _, _, _, _, _, _, _, _, _, _, _, ⟨k + 1, by omega, ?_, (unhide Bel).trans ((unhide Hb).mono (unhide Bel).size)⟩, rfl⟩, ?_⟩
      · go_num
      · simp [intOf]; omega
    · have hlt' : ¬ (k : Int) < l := by omega
      go_wp2_with fail
      go_ret
      exact ⟨rfl, unhide Bel⟩

end Go.Proofs.Qxb6616371a
