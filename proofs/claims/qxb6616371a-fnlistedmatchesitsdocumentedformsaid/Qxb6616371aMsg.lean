/-
  THE WALKS OF THE SMALL CALLEES: zzIsMsg, (InputItem).IsMessage, the two length guards. Each is a contract over the loaded program.
-/
import Derived.Test.Qxb6616371aRows
import Derived.WalkKit
import Derived.WalkSpells
import Derived.WalkLawsBesides
namespace Go.Proofs.Qxb6616371a
open Go.RowKit

/-- A message: its type says so, or it has a role and no type. The bytes are those of the word message. -/
def isMsg (t r : ByteArray) : Bool := t.toList == [109, 101, 115, 115, 97, 103, 101] || (t.toList.isEmpty && !r.toList.isEmpty)

theorem ret_bool {a b : Bool} (h : a = b) : Ending.returned (.bool a) = .returned (.bool b) := by rw [h]

set_option maxHeartbeats 400000 in
theorem zzIsMsg_any (t r : ByteArray) (w : World) :
    Calls Try.prog 8 #[.string t, .string r] w fun e w' => e = .returned (.bool (isMsg t r)) ∧ w' = w := by
  go_enter Try.func8, Try.ntmps8
  go_wp2
  all_goals (go_ret; exact ⟨ret_bool (by simp_all [isMsg]), rfl⟩)

set_option maxHeartbeats 400000 in
theorem isMessage_any (t i s r c su ca n ns ar inp o ts er : Value) (tb rb : ByteArray) (w : World) (ht : t = .string tb) (hr : r = .string rb) :
    Calls Try.prog 10 #[.agg #[t, i, s, r, c, su, ca, n, ns, ar, inp, o, ts, er]] w fun e w' => e = .returned (.bool (isMsg tb rb)) ∧ w' = w.alloc (.cells #[t, i, s, r, c, su, ca, n, ns, ar, inp, o, ts, er] 32) := by
  subst ht hr
  go_enter Try.func10, Try.ntmps10
  go_wp2
  all_goals (go_ret; exact ⟨ret_bool (by simp_all [isMsg]), rfl⟩)

set_option maxHeartbeats 400000 in
theorem zzBytesRole_any (t r s : ByteArray) (w : World) (ht : t.size ≤ maxLen) (hr : r.size ≤ maxLen) (hs : s.size ≤ maxLen) :
    Calls Try.prog 11 #[.string t, .string r, .string s] w fun e w' => ∃ b, e = .returned (.bool b) ∧ w' = w := by
  unfold maxLen at *
  go_enter Try.func11, Try.ntmps11
  go_wp2
  all_goals (go_ret; exact ⟨_, rfl, rfl⟩)

set_option maxHeartbeats 400000 in
theorem zzBytesSurvives_any (t r s : ByteArray) (w : World) (ht : t.size ≤ maxLen) (hr : r.size ≤ maxLen) (hs : s.size ≤ maxLen) :
    Calls Try.prog 7 #[.string t, .string r, .string s] w fun e w' => ∃ b, e = .returned (.bool b) ∧ w' = w := by
  unfold maxLen at *
  go_enter Try.func7, Try.ntmps7
  go_wp2
  all_goals (go_ret; exact ⟨_, rfl, rfl⟩)

theorem isMsg_law1 (t r s : ByteArray) (h : t.toList = []) : (isMsg t r == isMsg t s) = (r.toList.isEmpty == s.toList.isEmpty) := by
  simp only [isMsg, h]
  cases r.toList.isEmpty <;> cases s.toList.isEmpty <;> rfl

theorem isMsg_law2 (t r s : ByteArray) (h : ¬ t.toList = []) : isMsg t r = isMsg t s := by
  have h' : t.toList.isEmpty = false := by simpa using h
  simp only [isMsg, h', Bool.false_and]

end Go.Proofs.Qxb6616371a
