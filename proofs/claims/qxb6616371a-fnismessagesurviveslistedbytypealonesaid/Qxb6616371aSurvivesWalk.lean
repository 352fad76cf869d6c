/-
  THE WALK OF FnIsMessageSurvivesListedByTypeAlone: four ways (a message or not; with a status or not), and the way out on long strings.
-/
import Derived.Test.Qxb6616371aListedNil
namespace Go.Proofs.Qxb6616371a.fnIsMessageSurvivesListedByTypeAlone
open Go.RowKit

theorem hide {p : Prop} (h : p) : Hid p := h
theorem unhide {p : Prop} (h : Hid p) : p := h

theorem bcell {W w1 : World} (hb : Below W.heap.size W w1) : (∀ b o, b < W.heap.size → w1.cell? ⟨b, o, none⟩ = W.cell? ⟨b, o, none⟩) ∧ (∀ b o, b < W.heap.size → w1.frozen? ⟨b, o, none⟩ = W.frozen? ⟨b, o, none⟩) :=
  ⟨fun b o h => hb.cell (p := ⟨b, o, none⟩) h, fun b o h => hb.frozen (p := ⟨b, o, none⟩) h⟩

theorem below_five {w w1 : World} (h : Below w.heap.size w w1) (a b c d e : Obj) : Below w.heap.size w (((((w1.alloc a).alloc b).alloc c).alloc d).alloc e) := by
  have hs := h.size
  refine ((((h.alloc hs a).alloc ?_ b).alloc ?_ c).alloc ?_ d).alloc ?_ e <;> simp <;> omega

theorem isMsg_none (t r : ByteArray) (h : isMsg t r = false) : isMsg t ⟨#[]⟩ = false := by
  simp only [isMsg, Bool.or_eq_false_iff] at h ⊢
  refine ⟨h.1, ?_⟩
  simp

set_option maxRecDepth 100000 in
set_option maxHeartbeats 2000000 in
theorem walk_ff (t r s : ByteArray) (ht : t.size ≤ maxLen) (hr : r.size ≤ maxLen) (hs : s.size ≤ maxLen) (w : World) (hm : isMsg t r = false) (hse : s.toList.isEmpty = false)
    (l1 : ¬ 65536 < (t.size : Int)) (l2 : ¬ 65536 < (r.size : Int)) (l3 : ¬ 65536 < (s.size : Int)) :
    Calls Try.prog 3 #[.string t, .string r, .string s] w fun e w' => e = .returned (.bool true) ∧ Below w.heap.size w w' := by
  have q2 : isMsg t ⟨#[]⟩ = false := isMsg_none t r hm
  go_enter Try.func3, Try.ntmps3
  go_wp2_with fail
  refine (zzBytesSurvives_any t r s _ ht hr hs).mono ?_
  rintro e w' ⟨b, rfl, rfl⟩
  unfold maxLen at *
  cases b
  · go_wp2_with fail
    go_ret
    exact ⟨rfl, Below.refl _ _⟩
  go_wp2_with fail
  refine (zzIsMsg_any _ _ _).mono ?_
  rintro e w' ⟨rfl, rfl⟩
  go_wp2_with fail
  refine (listed_nil _ _ _ _ _ _ _ _ _ _ _ _ _ rfl rfl rfl rfl rfl rfl rfl rfl rfl).mono ?_
  rintro e w1 ⟨c, hc1, rfl, hb⟩
  obtain ⟨hc, hf⟩ := bcell hb
  have hz : w'.heap.size < w1.heap.size := by have := hb.size; simp at this; omega
  have e1 : typeOf t r = t := by simp [typeOf, hm]
  have e2 : statusOf s = s := by simp [statusOf, hse]
  rw [e1, e2]
  clear e1 e2
  have Hb := hide hb
  clear hb
  go_wp2_with fail
  refine (isMessage_any _ _ _ _ _ _ _ _ _ _ _ _ _ _ _ _ _ rfl rfl).mono ?_
  rintro e w' ⟨rfl, rfl⟩
  go_wp2_with fail
  refine (isMessage_any _ _ _ _ _ _ _ _ _ _ _ _ _ _ _ _ _ rfl rfl).mono ?_
  rintro e w' ⟨rfl, rfl⟩
  go_wp2_with fail
  refine (isMessage_any _ _ _ _ _ _ _ _ _ _ _ _ _ _ _ _ _ rfl rfl).mono ?_
  rintro e w' ⟨rfl, rfl⟩
  go_wp2_with fail
  go_ret
  refine ⟨rfl, ?_⟩
  have hb := unhide Hb
  refine below_five ?_ _ _ _ _ _
  exact ((Below.refl _ _).alloc (Nat.le_refl _) _).trans (hb.mono (by simp))

set_option maxRecDepth 100000 in
set_option maxHeartbeats 2000000 in
theorem walk_ft (t r s : ByteArray) (ht : t.size ≤ maxLen) (hr : r.size ≤ maxLen) (hs : s.size ≤ maxLen) (w : World) (hm : isMsg t r = false) (hse : s.toList.isEmpty = true)
    (l1 : ¬ 65536 < (t.size : Int)) (l2 : ¬ 65536 < (r.size : Int)) (l3 : ¬ 65536 < (s.size : Int)) :
    Calls Try.prog 3 #[.string t, .string r, .string s] w fun e w' => e = .returned (.bool true) ∧ Below w.heap.size w w' := by
  have q2 : isMsg t ⟨#[]⟩ = false := isMsg_none t r hm
  go_enter Try.func3, Try.ntmps3
  go_wp2_with fail
  refine (zzBytesSurvives_any t r s _ ht hr hs).mono ?_
  rintro e w' ⟨b, rfl, rfl⟩
  unfold maxLen at *
  cases b
  · go_wp2_with fail
    go_ret
    exact ⟨rfl, Below.refl _ _⟩
  go_wp2_with fail
  refine (zzIsMsg_any _ _ _).mono ?_
  rintro e w' ⟨rfl, rfl⟩
  go_wp2_with fail
  refine (listed_nil _ _ _ _ _ _ _ _ _ _ _ _ _ rfl rfl rfl rfl rfl rfl rfl rfl rfl).mono ?_
  rintro e w1 ⟨c, hc1, rfl, hb⟩
  obtain ⟨hc, hf⟩ := bcell hb
  have hz : w'.heap.size < w1.heap.size := by have := hb.size; simp at this; omega
  have e1 : typeOf t r = t := by simp [typeOf, hm]
  have e2 : statusOf s = (⟨#[99, 111, 109, 112, 108, 101, 116, 101, 100]⟩ : ByteArray) := by simp [statusOf, hse, comB]
  rw [e1, e2]
  clear e1 e2
  have Hb := hide hb
  clear hb
  go_wp2_with fail
  refine (isMessage_any _ _ _ _ _ _ _ _ _ _ _ _ _ _ _ _ _ rfl rfl).mono ?_
  rintro e w' ⟨rfl, rfl⟩
  go_wp2_with fail
  refine (isMessage_any _ _ _ _ _ _ _ _ _ _ _ _ _ _ _ _ _ rfl rfl).mono ?_
  rintro e w' ⟨rfl, rfl⟩
  go_wp2_with fail
  refine (isMessage_any _ _ _ _ _ _ _ _ _ _ _ _ _ _ _ _ _ rfl rfl).mono ?_
  rintro e w' ⟨rfl, rfl⟩
  go_wp2_with fail
  go_ret
  refine ⟨rfl, ?_⟩
  have hb := unhide Hb
  refine below_five ?_ _ _ _ _ _
  exact ((Below.refl _ _).alloc (Nat.le_refl _) _).trans (hb.mono (by simp))

set_option maxRecDepth 100000 in
set_option maxHeartbeats 2000000 in
theorem walk_tf (t r s : ByteArray) (ht : t.size ≤ maxLen) (hr : r.size ≤ maxLen) (hs : s.size ≤ maxLen) (w : World) (hm : isMsg t r = true) (hse : s.toList.isEmpty = false)
    (l1 : ¬ 65536 < (t.size : Int)) (l2 : ¬ 65536 < (r.size : Int)) (l3 : ¬ 65536 < (s.size : Int)) :
    Calls Try.prog 3 #[.string t, .string r, .string s] w fun e w' => e = .returned (.bool true) ∧ Below w.heap.size w w' := by
  have q1 : isMsg (⟨#[109, 101, 115, 115, 97, 103, 101]⟩ : ByteArray) r = true := by simp [isMsg]
  have q2 : isMsg (⟨#[109, 101, 115, 115, 97, 103, 101]⟩ : ByteArray) ⟨#[]⟩ = true := by simp [isMsg]
  go_enter Try.func3, Try.ntmps3
  go_wp2_with fail
  refine (zzBytesSurvives_any t r s _ ht hr hs).mono ?_
  rintro e w' ⟨b, rfl, rfl⟩
  unfold maxLen at *
  cases b
  · go_wp2_with fail
    go_ret
    exact ⟨rfl, Below.refl _ _⟩
  go_wp2_with fail
  refine (zzIsMsg_any _ _ _).mono ?_
  rintro e w' ⟨rfl, rfl⟩
  go_wp2_with fail
  refine (listed_nil _ _ _ _ _ _ _ _ _ _ _ _ _ rfl rfl rfl rfl rfl rfl rfl rfl rfl).mono ?_
  rintro e w1 ⟨c, hc1, rfl, hb⟩
  obtain ⟨hc, hf⟩ := bcell hb
  have hz : w'.heap.size < w1.heap.size := by have := hb.size; simp at this; omega
  have e1 : typeOf t r = (⟨#[109, 101, 115, 115, 97, 103, 101]⟩ : ByteArray) := by simp [typeOf, hm, msgB]
  have e2 : statusOf s = s := by simp [statusOf, hse]
  rw [e1, e2]
  clear e1 e2
  have Hb := hide hb
  clear hb
  go_wp2_with fail
  refine (isMessage_any _ _ _ _ _ _ _ _ _ _ _ _ _ _ _ _ _ rfl rfl).mono ?_
  rintro e w' ⟨rfl, rfl⟩
  go_wp2_with fail
  refine (isMessage_any _ _ _ _ _ _ _ _ _ _ _ _ _ _ _ _ _ rfl rfl).mono ?_
  rintro e w' ⟨rfl, rfl⟩
  go_wp2_with fail
  refine (isMessage_any _ _ _ _ _ _ _ _ _ _ _ _ _ _ _ _ _ rfl rfl).mono ?_
  rintro e w' ⟨rfl, rfl⟩
  go_wp2_with fail
  go_ret
  refine ⟨rfl, ?_⟩
  have hb := unhide Hb
  refine below_five ?_ _ _ _ _ _
  exact ((Below.refl _ _).alloc (Nat.le_refl _) _).trans (hb.mono (by simp))

set_option maxRecDepth 100000 in
set_option maxHeartbeats 2000000 in
theorem walk_tt (t r s : ByteArray) (ht : t.size ≤ maxLen) (hr : r.size ≤ maxLen) (hs : s.size ≤ maxLen) (w : World) (hm : isMsg t r = true) (hse : s.toList.isEmpty = true)
    (l1 : ¬ 65536 < (t.size : Int)) (l2 : ¬ 65536 < (r.size : Int)) (l3 : ¬ 65536 < (s.size : Int)) :
    Calls Try.prog 3 #[.string t, .string r, .string s] w fun e w' => e = .returned (.bool true) ∧ Below w.heap.size w w' := by
  have q1 : isMsg (⟨#[109, 101, 115, 115, 97, 103, 101]⟩ : ByteArray) r = true := by simp [isMsg]
  have q2 : isMsg (⟨#[109, 101, 115, 115, 97, 103, 101]⟩ : ByteArray) ⟨#[]⟩ = true := by simp [isMsg]
  go_enter Try.func3, Try.ntmps3
  go_wp2_with fail
  refine (zzBytesSurvives_any t r s _ ht hr hs).mono ?_
  rintro e w' ⟨b, rfl, rfl⟩
  unfold maxLen at *
  cases b
  · go_wp2_with fail
    go_ret
    exact ⟨rfl, Below.refl _ _⟩
  go_wp2_with fail
  refine (zzIsMsg_any _ _ _).mono ?_
  rintro e w' ⟨rfl, rfl⟩
  go_wp2_with fail
  refine (listed_nil _ _ _ _ _ _ _ _ _ _ _ _ _ rfl rfl rfl rfl rfl rfl rfl rfl rfl).mono ?_
  rintro e w1 ⟨c, hc1, rfl, hb⟩
  obtain ⟨hc, hf⟩ := bcell hb
  have hz : w'.heap.size < w1.heap.size := by have := hb.size; simp at this; omega
  have e1 : typeOf t r = (⟨#[109, 101, 115, 115, 97, 103, 101]⟩ : ByteArray) := by simp [typeOf, hm, msgB]
  have e2 : statusOf s = (⟨#[99, 111, 109, 112, 108, 101, 116, 101, 100]⟩ : ByteArray) := by simp [statusOf, hse, comB]
  rw [e1, e2]
  clear e1 e2
  have Hb := hide hb
  clear hb
  go_wp2_with fail
  refine (isMessage_any _ _ _ _ _ _ _ _ _ _ _ _ _ _ _ _ _ rfl rfl).mono ?_
  rintro e w' ⟨rfl, rfl⟩
  go_wp2_with fail
  refine (isMessage_any _ _ _ _ _ _ _ _ _ _ _ _ _ _ _ _ _ rfl rfl).mono ?_
  rintro e w' ⟨rfl, rfl⟩
  go_wp2_with fail
  refine (isMessage_any _ _ _ _ _ _ _ _ _ _ _ _ _ _ _ _ _ rfl rfl).mono ?_
  rintro e w' ⟨rfl, rfl⟩
  go_wp2_with fail
  go_ret
  refine ⟨rfl, ?_⟩
  have hb := unhide Hb
  refine below_five ?_ _ _ _ _ _
  exact ((Below.refl _ _).alloc (Nat.le_refl _) _).trans (hb.mono (by simp))

set_option maxRecDepth 100000 in
set_option maxHeartbeats 2000000 in
theorem walk_long (t r s : ByteArray) (ht : t.size ≤ maxLen) (hr : r.size ≤ maxLen) (hs : s.size ≤ maxLen) (w : World)
    (l : 65536 < (t.size : Int) ∨ 65536 < (r.size : Int) ∨ 65536 < (s.size : Int)) :
    Calls Try.prog 3 #[.string t, .string r, .string s] w fun e w' => e = .returned (.bool true) ∧ Below w.heap.size w w' := by
  go_enter Try.func3, Try.ntmps3
  go_wp2_with fail
  refine (zzBytesSurvives_any t r s _ ht hr hs).mono ?_
  rintro e w' ⟨b, rfl, rfl⟩
  unfold maxLen at *
  cases b
  · go_wp2_with fail
    go_ret
    exact ⟨rfl, Below.refl _ _⟩
  by_cases l1 : 65536 < (t.size : Int)
  · go_wp2_with fail
    go_ret
    exact ⟨rfl, Below.refl _ _⟩
  by_cases l2 : 65536 < (r.size : Int)
  · go_wp2_with fail
    go_ret
    exact ⟨rfl, Below.refl _ _⟩
  have l3 : 65536 < (s.size : Int) := by omega
  go_wp2_with fail
  go_ret
  exact ⟨rfl, Below.refl _ _⟩

theorem walk_all (t r s : ByteArray) (ht : t.size ≤ maxLen) (hr : r.size ≤ maxLen) (hs : s.size ≤ maxLen) (w : World) :
    Calls Try.prog 3 #[.string t, .string r, .string s] w fun e w' => e = .returned (.bool true) ∧ Below w.heap.size w w' := by
  by_cases l1 : 65536 < (t.size : Int)
  · exact walk_long t r s ht hr hs w (.inl l1)
  by_cases l2 : 65536 < (r.size : Int)
  · exact walk_long t r s ht hr hs w (.inr (.inl l2))
  by_cases l3 : 65536 < (s.size : Int)
  · exact walk_long t r s ht hr hs w (.inr (.inr l3))
  cases hm : isMsg t r <;> cases hse : s.toList.isEmpty
  · exact walk_ff t r s ht hr hs w hm hse l1 l2 l3
  · exact walk_ft t r s ht hr hs w hm hse l1 l2 l3
  · exact walk_tf t r s ht hr hs w hm hse l1 l2 l3
  · exact walk_tt t r s ht hr hs w hm hse l1 l2 l3

end Go.Proofs.Qxb6616371a.fnIsMessageSurvivesListedByTypeAlone
