/-
  zzSamePartValue OF A PART WITH ITSELF.
-/
import Derived.Test.Qxb6616371aSame
import Derived.Deep.RegionHeld3
namespace Go.Proofs.Qxb6616371a
open Go.RowKit
set_option linter.unusedVariables false

/-- Two boxes of the call's own, with the same cells. -/
structure TB (w W : World) (cs : List Value) : Prop where
  bel : Below w.heap.size w W
  a : BoxAt W w.heap.size cs
  b : BoxAt W (w.heap.size + 1) cs
theorem TB.step {w W W' : World} {cs : List Value} (h : TB w W cs) (hb : Below W.heap.size W W') : TB w W' cs := ⟨h.bel.trans (hb.mono h.bel.size), h.a.step hb, h.b.step hb⟩
theorem TB.drew {w W : World} {cs : List Value} (h : TB w W cs) : TB w W.drew cs := ⟨h.bel.drew, h.a.drew, h.b.drew⟩
theorem TB.made (w : World) (cs : List Value) (t : TypeId) : TB w ((w.alloc (.cells cs.toArray t)).alloc (.cells cs.toArray t)) cs := by
  have z := BoxAt.made w cs t
  have s0 : (w.alloc (.cells cs.toArray t)).heap.size = w.heap.size + 1 := by simp
  have b0 := al w (.cells cs.toArray t)
  generalize w.alloc (.cells cs.toArray t) = W0 at *
  have r := BoxAt.made W0 cs t
  have b1 := al W0 (.cells cs.toArray t)
  rw [s0] at r
  exact ⟨b0.trans (b1.mono b0.size), z.step b1, r⟩

set_option maxRecDepth 100000 in
set_option maxHeartbeats 1000000 in
theorem zzSamePartValue_self (ty : ByteArray) (tx rf im dt : Option Addr) (ana : Option Addr) (anl anc : Nat) (lpa : Option Addr) (lpl lpc : Nat) (ar lr : Nat → Raw) (w : World) (ok : PartOk w ⟨ty, tx, rf, im, dt, ⟨ana, anl, anc⟩, ⟨lpa, lpl, lpc⟩, ar, lr⟩) :
    Calls Try.prog 41 #[.agg #[.string ty, .pointer tx, .pointer rf, .pointer im, .pointer dt, .slice ana anl anc, .slice lpa lpl lpc], .agg #[.string ty, .pointer tx, .pointer rf, .pointer im, .pointer dt, .slice ana anl anc, .slice lpa lpl lpc]] w fun e w' => e = .returned (.bool true) ∧ Below w.heap.size w w' := by
  have Tb := hide (TB.made w [.string ty, .pointer tx, .pointer rf, .pointer im, .pointer dt, .slice ana anl anc, .slice lpa lpl lpc] 60)
  have la : anl ≤ maxLen := ok.an.1
  have ll : lpl ≤ maxLen := ok.lp.1
  unfold maxLen at la ll
  have Ok := hide ok
  clear ok
  go_enter Try.func41, Try.ntmps41
  go_wp2_with fail
  generalize (w.alloc (.cells (List.toArray [.string ty, .pointer tx, .pointer rf, .pointer im, .pointer dt, .slice ana anl anc, .slice lpa lpl lpc]) 60)).alloc (.cells (List.toArray [.string ty, .pointer tx, .pointer rf, .pointer im, .pointer dt, .slice ana anl anc, .slice lpa lpl lpc]) 60) = W1 at *
  refine (zzSameStrp_self tx _ ((unhide Ok).tx.step (unhide Tb).bel)).mono ?_
  rintro e W2 ⟨rfl, hb⟩
  replace Tb := hide ((unhide Tb).step hb)
  clear hb
  have a2 := (unhide Tb).a.get 2 _ rfl
  have b2 := (unhide Tb).b.get 2 _ rfl
  go_wp2_with fail
  refine (zzSameStrp_self rf _ ((unhide Ok).rf.step (unhide Tb).bel)).mono ?_
  rintro e W3 ⟨rfl, hb⟩
  replace Tb := hide ((unhide Tb).step hb)
  clear hb a2 b2
  have a3 := (unhide Tb).a.get 3 _ rfl
  have b3 := (unhide Tb).b.get 3 _ rfl
  go_wp2_with fail
  refine (zzSameStrp_self im _ ((unhide Ok).im.step (unhide Tb).bel)).mono ?_
  rintro e W4 ⟨rfl, hb⟩
  replace Tb := hide ((unhide Tb).step hb)
  clear hb a3 b3
  have a4 := (unhide Tb).a.get 4 _ rfl
  have b4 := (unhide Tb).b.get 4 _ rfl
  go_wp2_with fail
  refine (zzSameStrp_self dt _ ((unhide Ok).dt.step (unhide Tb).bel)).mono ?_
  rintro e W5 ⟨rfl, hb⟩
  replace Tb := hide ((unhide Tb).step hb)
  clear hb a4 b4
  have a5 := (unhide Tb).a.get 5 _ rfl
  have b5 := (unhide Tb).b.get 5 _ rfl
  have a6 := (unhide Tb).a.get 6 _ rfl
  have b6 := (unhide Tb).b.get 6 _ rfl
  go_wp2_with fail
  go_loopw [5] (fun i wr => ∃ k : Nat, k ≤ anl ∧ i = .int .i64 k ∧ TB w wr [.string ty, .pointer tx, .pointer rf, .pointer im, .pointer dt, .slice ana anl anc, .slice lpa lpl lpc]) (fun i _ => anl - (intOf i).toNat)
  case atStart => exact ⟨0, Nat.zero_le _, rfl, unhide Tb⟩
  case round =>
    clear Tb
    obtain ⟨k, hk, rfl, tb⟩ := hrel
    have Tb := hide tb
    clear tb
    have a5 := (unhide Tb).a.get 5 _ rfl
    have b5 := (unhide Tb).b.get 5 _ rfl
    by_cases hlt : k < anl
    · have hlt' : (k : Int) < anl := by omega
      obtain ⟨b, off, ea, hc, hy⟩ := ((unhide Ok).an.step (unhide Tb).bel).2 k hlt
      simp only at ea
      subst ea
      have hcc : wr.cell? ⟨b, off + k, none⟩ = some (.slice (ar k).a (ar k).l (ar k).c) := hc
      have Hy := hide hy
      clear hc hy
      go_wp2_with fail
      go_region_held3 (fun v => v.cell? ⟨w.heap.size, 5, none⟩ = some (.slice (some ⟨b, off, none⟩) anl anc) ∧ v.cell? ⟨w.heap.size + 1, 5, none⟩ = some (.slice (some ⟨b, off, none⟩) anl anc) ∧ v.cell? ⟨b, off + k, none⟩ = some (.slice (ar k).a (ar k).l (ar k).c))
        (first | exact ⟨a5, b5, hcc⟩ | exact ⟨Below.keep (unhide Hb) a5, Below.keep (unhide Hb) b5, Below.keep (unhide Hb) hcc⟩)
        (first
          | (go_at_call 44; refine (zzSameBytes_self (ar k) _ ?_).mono ?_; exact (unhide Hy).step (Below.refl _ _).drew; rintro e w1 ⟨rfl, hb⟩; have Hb : Hid (Below wr.heap.size wr w1) := hide ((Below.refl _ _).drew.trans hb); clear hb))
      go_wp2_with fail
      refine ⟨⟨_, _, _, _, _, _, _, _, _, _, _, _, _, _, _, _, _, _, _, _, _, ⟨k + 1, by omega, ?_, (unhide Tb).step (unhide Hb)⟩, rfl⟩, ?_⟩
      · go_num
      · simp [intOf]; omega
    · have hlt' : ¬ (k : Int) < anl := by omega
      have a6 := (unhide Tb).a.get 6 _ rfl
      have b6 := (unhide Tb).b.get 6 _ rfl
      go_wp2_with fail
      clear hlt hlt' hk
      go_loopw [6] (fun i wr => ∃ k : Nat, k ≤ lpl ∧ i = .int .i64 k ∧ TB w wr [.string ty, .pointer tx, .pointer rf, .pointer im, .pointer dt, .slice ana anl anc, .slice lpa lpl lpc]) (fun i _ => lpl - (intOf i).toNat)
      case atStart => exact ⟨0, Nat.zero_le _, rfl, unhide Tb⟩
      case round =>
        clear Tb
        obtain ⟨k, hk, rfl, tb⟩ := hrel
        have Tb := hide tb
        clear tb
        have a6 := (unhide Tb).a.get 6 _ rfl
        have b6 := (unhide Tb).b.get 6 _ rfl
        by_cases hlt : k < lpl
        · have hlt' : (k : Int) < lpl := by omega
          obtain ⟨b, off, ea, hc, hy⟩ := ((unhide Ok).lp.step (unhide Tb).bel).2 k hlt
          simp only at ea
          subst ea
          have hcc : wr.cell? ⟨b, off + k, none⟩ = some (.slice (lr k).a (lr k).l (lr k).c) := hc
          have Hy := hide hy
          clear hc hy
          go_wp2_with fail
          go_region_held3 (fun v => v.cell? ⟨w.heap.size, 6, none⟩ = some (.slice (some ⟨b, off, none⟩) lpl lpc) ∧ v.cell? ⟨w.heap.size + 1, 6, none⟩ = some (.slice (some ⟨b, off, none⟩) lpl lpc) ∧ v.cell? ⟨b, off + k, none⟩ = some (.slice (lr k).a (lr k).l (lr k).c))
            (first | exact ⟨a6, b6, hcc⟩ | exact ⟨Below.keep (unhide Hb) a6, Below.keep (unhide Hb) b6, Below.keep (unhide Hb) hcc⟩)
            (first
              | (go_at_call 44; refine (zzSameBytes_self (lr k) _ ?_).mono ?_; exact (unhide Hy).step (Below.refl _ _).drew; rintro e w1 ⟨rfl, hb⟩; have Hb : Hid (Below wr.heap.size wr w1) := hide ((Below.refl _ _).drew.trans hb); clear hb))
          go_wp2_with fail
          refine ⟨⟨_, _, _, _, _, _, _, _, _, _, _, _, _, _, _, _, _, _, _, _, _, ⟨k + 1, by omega, ?_, (unhide Tb).step (unhide Hb)⟩, rfl⟩, ?_⟩
          · go_num
          · simp [intOf]; omega
        · have hlt' : ¬ (k : Int) < lpl := by omega
          go_wp2_with fail
          go_ret
          exact ⟨rfl, (unhide Tb).bel⟩

end Go.Proofs.Qxb6616371a
