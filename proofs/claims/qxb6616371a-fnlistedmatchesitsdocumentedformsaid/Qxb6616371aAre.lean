/-
  zzAnnotationsAre, zzLogprobsAre OF A LIST WITH THE SAME BYTES; zzSameList OF A LIST WITH ITSELF; POINTERS COMPARED.
-/
import Derived.Test.Qxb6616371aSameTools
import Derived.Deep.RegionHeld3
namespace Go.Proofs.Qxb6616371a
open Go.RowKit
set_option linter.unusedVariables false

theorem equalIn_ptr (d : Nat) {tp te : TypeId} {j : TypeInfo} (p : Option Addr) (w : World) (hp : Try.prog.underlying tp = some (.pointer te)) (hte : Try.prog.info? te = some j) :
    (Op.equalIn (d + 1) tp (.pointer p) (.pointer p)).run Try.prog w = .ok true w := by
  cases p with
  | none => simp [Op.equalIn, run_underlying hp]
  | some a => simp [Op.equalIn, run_underlying hp, sizeOf, typeInfo, hte, run_sameAddr_same]
theorem info_of {t : TypeId} (h : (Try.prog.info? t).isSome = true) : ∃ j, Try.prog.info? t = some j := Option.isSome_iff_exists.1 h

@[go_sem] theorem ne27_self (p : Option Addr) (w : World) : (binOp .neq 27 (.pointer p) (.pointer p)).run Try.prog w = .ok (.bool false) w := by
  obtain ⟨j, hj⟩ := info_of (t := 9) (by kernel_rfl)
  have h := equalIn_ptr 9999 p w Try.underlying27 hj
  simp only [binOp]
  simp [Op.equal, Op.maxDepth, h]
@[go_sem] theorem eq71_self (a : Addr) (w : World) : (binOp .eql 71 (.pointer (some a)) (.pointer (some a))).run Try.prog w = .ok (.bool true) w := by
  obtain ⟨j, hj⟩ : ∃ j, Try.prog.info? (Try.prog.pointee 71) = some j := info_of (by kernel_rfl)
  exact run_eql_ptr_same w a (by kernel_rfl) hj

theorem equalIn_slice (d : Nat) {t e : TypeId} (a : Option Addr) (n c : Nat) (w : World) (h : Try.prog.underlying t = some (.slice e)) :
    (Op.equalIn (d + 1) t (.slice a n c) (.slice none 0 0)).run Try.prog w = .ok a.isNone w := by
  cases a <;> simp [Op.equalIn, run_underlying h]
@[go_sem] theorem eq81_nil (a : Option Addr) (n c : Nat) (w : World) : (binOp .eql 81 (.slice a n c) (.slice none 0 0)).run Try.prog w = .ok (.bool a.isNone) w := by
  simp only [binOp]
  simp [Op.equal, Op.maxDepth, equalIn_slice 9999 a n c w Try.underlying81]
@[go_sem] theorem ne58_nil (a : Option Addr) (n c : Nat) (w : World) : (binOp .neq 58 (.slice a n c) (.slice none 0 0)).run Try.prog w = .ok (.bool (!a.isNone)) w := by
  simp only [binOp]
  simp [Op.equal, Op.maxDepth, equalIn_slice 9999 a n c w Try.underlying58]
@[go_sem] theorem ne26_nil (a : Option Addr) (n c : Nat) (w : World) : (binOp .neq 26 (.slice a n c) (.slice none 0 0)).run Try.prog w = .ok (.bool (!a.isNone)) w := by
  simp only [binOp]
  simp [Op.equal, Op.maxDepth, equalIn_slice 9999 a n c w Try.underlying26]

set_option maxRecDepth 100000 in
set_option maxHeartbeats 1000000 in
theorem zzSameList_self (q : Raw) (w : World) (hn : 0 < q.l → ∃ b off, q.a = some ⟨b, off, none⟩) : Calls Try.prog 14 #[.slice q.a q.l q.c, .slice q.a q.l q.c] w fun e w' => e = .returned (.bool true) ∧ Below w.heap.size w w' := by
  obtain ⟨a, l, c⟩ := q
  by_cases hl : 0 < l
  · obtain ⟨b, off, ea⟩ := hn hl
    simp only at ea
    subst ea
    have h0 : ((l : Int) == 0) = false := by simp; omega
    have h1 : (0 : Int) < l := by omega
    clear hn
    go_enter Try.func14, Try.ntmps14
    go_wp2_with fail
    go_quiet (fail)
    go_wp2_with fail
    go_ret
    exact ⟨rfl, below_drewN (Below.refl _ _) _⟩
  · obtain rfl : l = 0 := by omega
    clear hn hl
    go_enter Try.func14, Try.ntmps14
    go_wp2_with fail
    go_quiet (fail)
    go_wp2_with fail
    go_ret
    exact ⟨rfl, below_drewN (Below.refl _ _) _⟩

/-- One box of the call's own. -/
structure OB (w W : World) (cs : List Value) : Prop where
  bel : Below w.heap.size w W
  a : BoxAt W w.heap.size cs
theorem OB.step {w W W' : World} {cs : List Value} (h : OB w W cs) (hb : Below W.heap.size W W') : OB w W' cs := ⟨h.bel.trans (hb.mono h.bel.size), h.a.step hb⟩
theorem OB.made (w : World) (cs : List Value) (t : TypeId) : OB w (w.alloc (.cells cs.toArray t)) cs := ⟨al _ _, BoxAt.made w cs t⟩

set_option maxRecDepth 100000 in
set_option maxHeartbeats 1000000 in
theorem zzAnnotationsAre_same (ty : ByteArray) (tx rf im dt : Option Addr) (ana : Option Addr) (anl anc : Nat) (lpa : Option Addr) (lpl lpc : Nat) (za : Option Addr) (zc : Nat) (rv : Nat → Raw) (w : World)
    (hp : RawsAt w ⟨ana, anl, anc⟩ rv) (hz : RawsAt w ⟨za, anl, zc⟩ rv) (hn : ana.isNone = za.isNone) :
    Calls Try.prog 39 #[.agg #[.string ty, .pointer tx, .pointer rf, .pointer im, .pointer dt, .slice ana anl anc, .slice lpa lpl lpc], .slice za anl zc] w fun e w' => e = .returned (.bool true) ∧ Below w.heap.size w w' := by
  rcases opt_or ana with rfl | ⟨a0, rfl⟩
  · rcases opt_or za with rfl | ⟨z0, rfl⟩
    · obtain rfl : anl = 0 := by
        rcases Nat.eq_zero_or_pos anl with e | e
        · exact e
        · obtain ⟨_, _, ea, _⟩ := hp.2 0 e
          exact absurd ea (by simp)
      clear hp hz hn
      go_enter Try.func39, Try.ntmps39
      go_wp2_with fail
      refine wp_loop_once ?_
      go_wp2_with fail
      go_ret
      exact ⟨rfl, al _ _⟩
    · exact absurd hn (by simp)
  rcases opt_or za with rfl | ⟨z0, rfl⟩
  · exact absurd hn (by simp)
  clear hn
  have Tb := hide (OB.made w [.string ty, .pointer tx, .pointer rf, .pointer im, .pointer dt, .slice (some a0) anl anc, .slice lpa lpl lpc] 60)
  have la : anl ≤ maxLen := hp.1
  unfold maxLen at la
  have Hp := hide hp
  have Hz := hide hz
  clear hp hz
  go_enter Try.func39, Try.ntmps39
  go_wp2_with fail
  generalize w.alloc (.cells (List.toArray [.string ty, .pointer tx, .pointer rf, .pointer im, .pointer dt, .slice (some a0) anl anc, .slice lpa lpl lpc]) 60) = W1 at *
  go_loopw [5] (fun i wr => ∃ k : Nat, k ≤ anl ∧ i = .int .i64 k ∧ OB w wr [.string ty, .pointer tx, .pointer rf, .pointer im, .pointer dt, .slice (some a0) anl anc, .slice lpa lpl lpc]) (fun i _ => anl - (intOf i).toNat)
  case atStart => exact ⟨0, Nat.zero_le _, rfl, unhide Tb⟩
  case round =>
    clear Tb
    obtain ⟨k, hk, rfl, tb⟩ := hrel
    have Tb := hide tb
    clear tb
    by_cases hlt : k < anl
    · have hlt' : (k : Int) < anl := by omega
      obtain ⟨b, off, ea, hc, hy⟩ := ((unhide Hp).step (unhide Tb).bel).2 k hlt
      obtain rfl : a0 = ⟨b, off, none⟩ := by simpa using ea
      obtain ⟨b', off', ea', hc', -⟩ := ((unhide Hz).step (unhide Tb).bel).2 k hlt
      obtain rfl : z0 = ⟨b', off', none⟩ := by simpa using ea'
      clear ea ea'
      have a5 := (unhide Tb).a.get 5 _ rfl
      have hcc : wr.cell? ⟨b, off + k, none⟩ = some (.slice (rv k).a (rv k).l (rv k).c) := hc
      have hdd : wr.cell? ⟨b', off' + k, none⟩ = some (.slice (rv k).a (rv k).l (rv k).c) := hc'
      have Hy := hide hy
      clear hc hy hc'
      go_wp2_with fail
      go_region_held3 (fun v => v.cell? ⟨w.heap.size, 5, none⟩ = some (.slice (some ⟨b, off, none⟩) anl anc) ∧ v.cell? ⟨b, off + k, none⟩ = some (.slice (rv k).a (rv k).l (rv k).c) ∧ v.cell? ⟨b', off' + k, none⟩ = some (.slice (rv k).a (rv k).l (rv k).c))
        (first | exact ⟨a5, hcc, hdd⟩ | exact ⟨Below.keep (unhide Hb) a5, Below.keep (unhide Hb) hcc, Below.keep (unhide Hb) hdd⟩)
        (first
          | (go_at_call 44; refine (zzSameBytes_self (rv k) _ ?_).mono ?_; exact (unhide Hy).step (Below.refl _ _).drew; rintro e w1 ⟨rfl, hb⟩; have Hb : Hid (Below wr.heap.size wr w1) := hide ((Below.refl _ _).drew.trans hb); clear hb))
      go_wp2_with fail
      go_roundw
      case rel => exact ⟨k + 1, by omega, by go_num, (unhide Tb).step (unhide Hb)⟩
      case measure => simp [intOf]; omega
    · have hlt' : ¬ (k : Int) < anl := by omega
      have a5 := (unhide Tb).a.get 5 _ rfl
      go_wp2_with fail
      go_ret
      exact ⟨rfl, (unhide Tb).bel⟩

set_option maxRecDepth 100000 in
set_option maxHeartbeats 1000000 in
theorem zzLogprobsAre_same (ty : ByteArray) (tx rf im dt : Option Addr) (ana : Option Addr) (anl anc : Nat) (lpa : Option Addr) (lpl lpc : Nat) (za : Option Addr) (zc : Nat) (rv : Nat → Raw) (w : World)
    (hp : RawsAt w ⟨lpa, lpl, lpc⟩ rv) (hz : RawsAt w ⟨za, lpl, zc⟩ rv) (hn : lpa.isNone = za.isNone) :
    Calls Try.prog 40 #[.agg #[.string ty, .pointer tx, .pointer rf, .pointer im, .pointer dt, .slice ana anl anc, .slice lpa lpl lpc], .slice za lpl zc] w fun e w' => e = .returned (.bool true) ∧ Below w.heap.size w w' := by
  rcases opt_or lpa with rfl | ⟨a0, rfl⟩
  · rcases opt_or za with rfl | ⟨z0, rfl⟩
    · obtain rfl : lpl = 0 := by
        rcases Nat.eq_zero_or_pos lpl with e | e
        · exact e
        · obtain ⟨_, _, ea, _⟩ := hp.2 0 e
          exact absurd ea (by simp)
      clear hp hz hn
      go_enter Try.func40, Try.ntmps40
      go_wp2_with fail
      refine wp_loop_once ?_
      go_wp2_with fail
      go_ret
      exact ⟨rfl, al _ _⟩
    · exact absurd hn (by simp)
  rcases opt_or za with rfl | ⟨z0, rfl⟩
  · exact absurd hn (by simp)
  clear hn
  have Tb := hide (OB.made w [.string ty, .pointer tx, .pointer rf, .pointer im, .pointer dt, .slice ana anl anc, .slice (some a0) lpl lpc] 60)
  have la : lpl ≤ maxLen := hp.1
  unfold maxLen at la
  have Hp := hide hp
  have Hz := hide hz
  clear hp hz
  go_enter Try.func40, Try.ntmps40
  go_wp2_with fail
  generalize w.alloc (.cells (List.toArray [.string ty, .pointer tx, .pointer rf, .pointer im, .pointer dt, .slice ana anl anc, .slice (some a0) lpl lpc]) 60) = W1 at *
  go_loopw [5] (fun i wr => ∃ k : Nat, k ≤ lpl ∧ i = .int .i64 k ∧ OB w wr [.string ty, .pointer tx, .pointer rf, .pointer im, .pointer dt, .slice ana anl anc, .slice (some a0) lpl lpc]) (fun i _ => lpl - (intOf i).toNat)
  case atStart => exact ⟨0, Nat.zero_le _, rfl, unhide Tb⟩
  case round =>
    clear Tb
    obtain ⟨k, hk, rfl, tb⟩ := hrel
    have Tb := hide tb
    clear tb
    by_cases hlt : k < lpl
    · have hlt' : (k : Int) < lpl := by omega
      obtain ⟨b, off, ea, hc, hy⟩ := ((unhide Hp).step (unhide Tb).bel).2 k hlt
      obtain rfl : a0 = ⟨b, off, none⟩ := by simpa using ea
      obtain ⟨b', off', ea', hc', -⟩ := ((unhide Hz).step (unhide Tb).bel).2 k hlt
      obtain rfl : z0 = ⟨b', off', none⟩ := by simpa using ea'
      clear ea ea'
      have a5 := (unhide Tb).a.get 6 _ rfl
      have hcc : wr.cell? ⟨b, off + k, none⟩ = some (.slice (rv k).a (rv k).l (rv k).c) := hc
      have hdd : wr.cell? ⟨b', off' + k, none⟩ = some (.slice (rv k).a (rv k).l (rv k).c) := hc'
      have Hy := hide hy
      clear hc hy hc'
      go_wp2_with fail
      go_region_held3 (fun v => v.cell? ⟨w.heap.size, 6, none⟩ = some (.slice (some ⟨b, off, none⟩) lpl lpc) ∧ v.cell? ⟨b, off + k, none⟩ = some (.slice (rv k).a (rv k).l (rv k).c) ∧ v.cell? ⟨b', off' + k, none⟩ = some (.slice (rv k).a (rv k).l (rv k).c))
        (first | exact ⟨a5, hcc, hdd⟩ | exact ⟨Below.keep (unhide Hb) a5, Below.keep (unhide Hb) hcc, Below.keep (unhide Hb) hdd⟩)
        (first
          | (go_at_call 44; refine (zzSameBytes_self (rv k) _ ?_).mono ?_; exact (unhide Hy).step (Below.refl _ _).drew; rintro e w1 ⟨rfl, hb⟩; have Hb : Hid (Below wr.heap.size wr w1) := hide ((Below.refl _ _).drew.trans hb); clear hb))
      go_wp2_with fail
      go_roundw
      case rel => exact ⟨k + 1, by omega, by go_num, (unhide Tb).step (unhide Hb)⟩
      case measure => simp [intOf]; omega
    · have hlt' : ¬ (k : Int) < lpl := by omega
      have a5 := (unhide Tb).a.get 6 _ rfl
      go_wp2_with fail
      go_ret
      exact ⟨rfl, (unhide Tb).bel⟩

end Go.Proofs.Qxb6616371a
