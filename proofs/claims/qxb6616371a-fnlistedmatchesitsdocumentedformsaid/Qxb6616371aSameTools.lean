/-
  zzSameToolList OF A LIST WITH ITSELF; ZZErrOf.
-/
import Derived.Test.Qxb6616371aSameContent
import Derived.LaidEqlPtr
import Derived.WalkSmall
namespace Go.Proofs.Qxb6616371a
open Go.RowKit
set_option linter.unusedVariables false

@[go_sem] theorem eq72_self (a : Addr) (w : World) : (binOp .eql 72 (.pointer (some a)) (.pointer (some a))).run Try.prog w = .ok (.bool true) w := by
  obtain ⟨j, hj⟩ : ∃ j, Try.prog.info? (Try.prog.pointee 72) = some j := by
    have : (Try.prog.info? (Try.prog.pointee 72)).isSome = true := by kernel_rfl
    exact Option.isSome_iff_exists.1 this
  exact run_eql_ptr_same w a (by kernel_rfl) hj

set_option maxRecDepth 100000 in
set_option maxHeartbeats 1000000 in
theorem zzSameToolList_self (q : Raw) (w : World) (hn : 0 < q.l → ∃ b off, q.a = some ⟨b, off, none⟩) : Calls Try.prog 15 #[.slice q.a q.l q.c, .slice q.a q.l q.c] w fun e w' => e = .returned (.bool true) ∧ Below w.heap.size w w' := by
  obtain ⟨a, l, c⟩ := q
  by_cases hl : 0 < l
  · obtain ⟨b, off, ea⟩ := hn hl
    simp only at ea
    subst ea
    have h0 : ((l : Int) == 0) = false := by simp; omega
    have h1 : (0 : Int) < l := by omega
    clear hn
    go_enter Try.func15, Try.ntmps15
    go_wp2_with fail
    go_quiet (fail)
    go_wp2_with fail
    go_ret
    exact ⟨rfl, below_drewN (Below.refl _ _) _⟩
  · obtain rfl : l = 0 := by omega
    clear hn hl
    go_enter Try.func15, Try.ntmps15
    go_wp2_with fail
    go_quiet (fail)
    go_wp2_with fail
    go_ret
    exact ⟨rfl, below_drewN (Below.refl _ _) _⟩

set_option maxRecDepth 100000 in
set_option maxHeartbeats 400000 in
theorem zzErrOf_any (t i s r c su ca n ns ar inp o ts er : Value) (w : World) (hc : c.oneCell' = true) (ho : o.oneCell' = true) (ht : t.oneCell' = true) (hi : i.oneCell' = true) (hs : s.oneCell' = true) (hr : r.oneCell' = true) (hsu : su.oneCell' = true) (hca : ca.oneCell' = true) (hn : n.oneCell' = true) (hns : ns.oneCell' = true) (har : ar.oneCell' = true) (hinp : inp.oneCell' = true) (hts : ts.oneCell' = true) (her : er.oneCell' = true) :
    Calls Try.prog 16 #[.agg #[t, i, s, r, c, su, ca, n, ns, ar, inp, o, ts, er]] w fun e w' => e = .returned er ∧ Below w.heap.size w w' := by
  go_enter Try.func16, Try.ntmps16
  go_wp2
  go_ret
  exact ⟨rfl, (Below.refl _ _).alloc (Nat.le_refl _) _⟩

end Go.Proofs.Qxb6616371a
