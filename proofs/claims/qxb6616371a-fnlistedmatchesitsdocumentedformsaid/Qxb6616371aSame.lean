/-
  THE COMPARISONS, each of a value with itself.
-/
import Derived.Test.Qxb6616371aListed
import Derived.BigQuiet
namespace Go.Proofs.Qxb6616371a
open Go.RowKit
set_option linter.unusedVariables false

set_option maxRecDepth 100000 in
set_option maxHeartbeats 1000000 in
theorem zzSameBytes_self (r : Raw) (w : World) (hr : BytesAt w r) :
    Calls Try.prog 44 #[.slice r.a r.l r.c, .slice r.a r.l r.c] w fun e w' => e = .returned (.bool true) ∧ Below w.heap.size w w' := by
  obtain ⟨a, l, c⟩ := r
  have hl : l ≤ maxLen := hr.1
  have Hr := hide hr
  clear hr
  unfold maxLen at hl
  go_enter Try.func44, Try.ntmps44
  go_wp2_with fail
  go_loopw [5] (fun i wr => ∃ (k : Nat), k ≤ l ∧ i = .int .i64 k ∧ Below w.heap.size w wr) (fun i _ => l - (intOf i).toNat)
  case atStart => exact ⟨0, Nat.zero_le _, rfl, Below.refl _ _⟩
  case round =>
    obtain ⟨k, hk, rfl, bel⟩ := hrel
    by_cases hlt : k < l
    · have hlt' : (k : Int) < l := by omega
      obtain ⟨b, off, z, ea, hc⟩ := ((unhide Hr).step bel).2 k hlt
      simp only at ea
      subst ea
      have Bel := hide bel
      clear bel
      go_wp2_with fail
      go_region
      go_wp2_with fail
      go_roundw
      case rel => exact ⟨k + 1, by omega, by go_num, (unhide Bel).drew⟩
      case measure => simp [intOf]; omega
    · have hlt' : ¬ (k : Int) < l := by omega
      go_wp2_with fail
      go_ret
      exact ⟨rfl, bel⟩

set_option maxRecDepth 100000 in
set_option maxHeartbeats 400000 in
theorem zzSameStrp_self (p : Option Addr) (w : World) (hp : StrP w p) :
    Calls Try.prog 33 #[.pointer p, .pointer p] w fun e w' => e = .returned (.bool true) ∧ Below w.heap.size w w' := by
  cases p with
  | none =>
    go_enter Try.func33, Try.ntmps33
    go_wp2_with fail
    go_ret
    exact ⟨rfl, Below.refl _ _⟩
  | some a =>
    obtain ⟨s, hc, hs⟩ := hp a rfl
    clear hp hs
    go_enter Try.func33, Try.ntmps33
    go_wp2_with fail
    go_region
    go_wp2_with fail
    go_ret
    exact ⟨rfl, (Below.refl _ _).drew⟩
end Go.Proofs.Qxb6616371a
