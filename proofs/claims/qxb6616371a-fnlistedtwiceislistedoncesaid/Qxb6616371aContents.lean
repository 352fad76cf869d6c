/-
  ZZTextOf, ZZPartsOf, ZZErrOf; zzSameContentValue, zzSameToolList OF THE SAME.
-/
import Derived.Test.Qxb6616371aSameParts
namespace Go.Proofs.Qxb6616371a
open Go.RowKit
set_option linter.unusedVariables false

def CK.str : CK → ByteArray
  | .text s => s
  | _ => ⟨#[]⟩
def CK.isText : CK → Bool
  | .text _ => true
  | _ => false
def CK.sl : CK → Raw
  | .parts q _ => q
  | _ => ⟨none, 0, 0⟩
def CK.isParts : CK → Bool
  | .parts _ _ => true
  | _ => false

set_option maxRecDepth 100000 in
set_option maxHeartbeats 400000 in
theorem zzTextOf_any (k : CK) (w : World) : Calls Try.prog 19 #[k.val] w fun e w' => e = .returned (.tuple #[.string k.str, .bool k.isText]) ∧ w' = w := by
  cases k with
  | nil =>
    simp only [val_nil]
    go_enter Try.func19, Try.ntmps19
    go_wp2
    exact bodyPost_ret (v := .tuple #[.string ⟨#[]⟩, .bool false]) (by simp [results, Try.results19, go_sem]) rfl ⟨rfl, rfl⟩
  | text s =>
    simp only [val_text]
    go_enter Try.func19, Try.ntmps19
    go_wp2
    exact bodyPost_ret (v := .tuple #[.string s, .bool true]) (by simp [results, Try.results19, go_sem]) rfl ⟨rfl, rfl⟩
  | parts q qv =>
    simp only [val_parts]
    go_enter Try.func19, Try.ntmps19
    go_wp2
    exact bodyPost_ret (v := .tuple #[.string ⟨#[]⟩, .bool false]) (by simp [results, Try.results19, go_sem]) rfl ⟨rfl, rfl⟩

set_option maxRecDepth 100000 in
set_option maxHeartbeats 400000 in
theorem zzPartsOf_any (k : CK) (w : World) : Calls Try.prog 17 #[k.val] w fun e w' => e = .returned (.tuple #[.slice k.sl.a k.sl.l k.sl.c, .bool k.isParts]) ∧ w' = w := by
  cases k with
  | nil =>
    simp only [val_nil]
    go_enter Try.func17, Try.ntmps17
    go_wp2
    exact bodyPost_ret (v := .tuple #[.slice none 0 0, .bool false]) (by simp [results, Try.results17, go_sem]) rfl ⟨rfl, rfl⟩
  | text s =>
    simp only [val_text]
    go_enter Try.func17, Try.ntmps17
    go_wp2
    exact bodyPost_ret (v := .tuple #[.slice none 0 0, .bool false]) (by simp [results, Try.results17, go_sem]) rfl ⟨rfl, rfl⟩
  | parts q qv =>
    simp only [val_parts]
    go_enter Try.func17, Try.ntmps17
    go_wp2
    exact bodyPost_ret (v := .tuple #[.slice q.a q.l q.c, .bool true]) (by simp [results, Try.results17, go_sem]) rfl ⟨rfl, rfl⟩

/-- The same content: nil, the same text, or two lists of parts with the same cells. -/
inductive SK (W : World) : CK → CK → Prop
  | nil : SK W .nil .nil
  | text (s : ByteArray) : SK W (.text s) (.text s)
  | parts (q : Raw) (qv : Nat → PartV) (q' : Raw) (qv' : Nat → PartV) : PartsAt W q qv → PartsAt W q' qv' → q.a.isNone = q'.a.isNone → q.l = q'.l → (∀ i, i < q.l → (qv' i).cells = (qv i).cells) → SK W (.parts q qv) (.parts q' qv')
theorem SK.up {W W' : World} {k k' : CK} (h : SK W k k') (hu : Up W W') : SK W' k k' := by
  cases h with
  | nil => exact .nil
  | text s => exact .text s
  | parts q qv q' qv' a b c d e => exact .parts q qv q' qv' (a.up hu) (b.up hu) c d e
theorem SK.isText {W : World} {k k' : CK} (h : SK W k k') : k.isText = k'.isText ∧ k.str = k'.str ∧ k.isParts = k'.isParts := by
  cases h <;> exact ⟨rfl, rfl, rfl⟩
/-- .. as two slices of parts. -/
theorem SK.lists {W : World} {k k' : CK} (h : SK W k k') : ∃ qv qv', PartsAt W k.sl qv ∧ PartsAt W k'.sl qv' ∧ k.sl.a.isNone = k'.sl.a.isNone ∧ k.sl.l = k'.sl.l ∧ ∀ i, i < k.sl.l → (qv' i).cells = (qv i).cells := by
  cases h with
  | nil => exact ⟨fun _ => p0 msgB none, fun _ => p0 msgB none, ⟨Nat.zero_le _, fun i hi => absurd hi (Nat.not_lt_zero _)⟩, ⟨Nat.zero_le _, fun i hi => absurd hi (Nat.not_lt_zero _)⟩, rfl, rfl, fun _ _ => rfl⟩
  | text s => exact ⟨fun _ => p0 msgB none, fun _ => p0 msgB none, ⟨Nat.zero_le _, fun i hi => absurd hi (Nat.not_lt_zero _)⟩, ⟨Nat.zero_le _, fun i hi => absurd hi (Nat.not_lt_zero _)⟩, rfl, rfl, fun _ _ => rfl⟩
  | parts q qv q' qv' a b c d e => exact ⟨qv, qv', a, b, c, d, e⟩

end Go.Proofs.Qxb6616371a
