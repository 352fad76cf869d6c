/-
  ZZTextOf, ZZPartsOf, ZZErrOf; zzSameContentValue, zzSameToolList OF THE SAME.
-/
import Derived.Test.Qxb6616371aSameParts
namespace Go.Proofs.Qxb6616371a
open Go.RowKit
set_option linter.unusedVariables false

def CK.str (k : CK) : ByteArray :=
  match k with
  | some (.inl s) => s
  | _ => ⟨#[]⟩
def CK.isText (k : CK) : Bool :=
  match k with
  | some (.inl _) => true
  | _ => false
def CK.sl (k : CK) : Raw :=
  match k with
  | some (.inr (q, _)) => q
  | _ => ⟨none, 0, 0⟩
def CK.isParts (k : CK) : Bool :=
  match k with
  | some (.inr _) => true
  | _ => false
theorem str_nil : CK.nil.str = ⟨#[]⟩ := rfl
theorem str_text (s : ByteArray) : (CK.text s).str = s := rfl
theorem str_parts (q : Raw) (qv : Nat → PartV) : (CK.parts q qv).str = ⟨#[]⟩ := rfl
theorem isText_nil : CK.nil.isText = false := rfl
theorem isText_text (s : ByteArray) : (CK.text s).isText = true := rfl
theorem isText_parts (q : Raw) (qv : Nat → PartV) : (CK.parts q qv).isText = false := rfl
theorem sl_nil : CK.nil.sl = ⟨none, 0, 0⟩ := rfl
theorem sl_text (s : ByteArray) : (CK.text s).sl = ⟨none, 0, 0⟩ := rfl
theorem sl_parts (q : Raw) (qv : Nat → PartV) : (CK.parts q qv).sl = q := rfl
theorem isParts_nil : CK.nil.isParts = false := rfl
theorem isParts_text (s : ByteArray) : (CK.text s).isParts = false := rfl
theorem isParts_parts (q : Raw) (qv : Nat → PartV) : (CK.parts q qv).isParts = true := rfl

set_option maxRecDepth 100000 in
set_option maxHeartbeats 400000 in
theorem zzTextOf_any (k : CK) (w : World) : Calls Try.prog 19 #[k.val] w fun e w' => e = .returned (.tuple #[.string k.str, .bool k.isText]) ∧ w' = w := by
  rcases k.three with rfl | ⟨s, rfl⟩ | ⟨q, qv, rfl⟩
  · skip
    simp only [val_nil]
    go_enter Try.func19, Try.ntmps19
    go_wp2
    exact bodyPost_ret (v := .tuple #[.string ⟨#[]⟩, .bool false]) (by simp [results, Try.results19, go_sem]) rfl ⟨rfl, rfl⟩
  · skip
    simp only [val_text]
    go_enter Try.func19, Try.ntmps19
    go_wp2
    exact bodyPost_ret (v := .tuple #[.string s, .bool true]) (by simp [results, Try.results19, go_sem]) rfl ⟨rfl, rfl⟩
  · skip
    simp only [val_parts]
    go_enter Try.func19, Try.ntmps19
    go_wp2
    exact bodyPost_ret (v := .tuple #[.string ⟨#[]⟩, .bool false]) (by simp [results, Try.results19, go_sem]) rfl ⟨rfl, rfl⟩

set_option maxRecDepth 100000 in
set_option maxHeartbeats 400000 in
theorem zzPartsOf_any (k : CK) (w : World) : Calls Try.prog 17 #[k.val] w fun e w' => e = .returned (.tuple #[.slice k.sl.a k.sl.l k.sl.c, .bool k.isParts]) ∧ w' = w := by
  rcases k.three with rfl | ⟨s, rfl⟩ | ⟨q, qv, rfl⟩
  · skip
    simp only [val_nil]
    go_enter Try.func17, Try.ntmps17
    go_wp2
    exact bodyPost_ret (v := .tuple #[.slice none 0 0, .bool false]) (by simp [results, Try.results17, go_sem]) rfl ⟨rfl, rfl⟩
  · skip
    simp only [val_text]
    go_enter Try.func17, Try.ntmps17
    go_wp2
    exact bodyPost_ret (v := .tuple #[.slice none 0 0, .bool false]) (by simp [results, Try.results17, go_sem]) rfl ⟨rfl, rfl⟩
  · skip
    simp only [val_parts]
    go_enter Try.func17, Try.ntmps17
    go_wp2
    exact bodyPost_ret (v := .tuple #[.slice q.a q.l q.c, .bool true]) (by simp [results, Try.results17, go_sem]) rfl ⟨rfl, rfl⟩

/-- The same content: nil, the same text, or two lists of parts with the same cells. -/
def SK (W : World) (k k' : CK) : Prop :=
  (k = .nil ∧ k' = .nil) ∨ (∃ s, k = .text s ∧ k' = .text s) ∨
  (∃ (q : Raw) (qv : Nat → PartV) (q' : Raw) (qv' : Nat → PartV), k = .parts q qv ∧ k' = .parts q' qv' ∧ PartsAt W q qv ∧ PartsAt W q' qv' ∧ q.a.isNone = q'.a.isNone ∧ q.l = q'.l ∧ (∀ i, i < q.l → (qv' i).cells = (qv i).cells))
theorem SK.nil {W : World} : SK W .nil .nil := .inl ⟨rfl, rfl⟩
theorem SK.text {W : World} (s : ByteArray) : SK W (.text s) (.text s) := .inr (.inl ⟨s, rfl, rfl⟩)
theorem SK.parts {W : World} (q : Raw) (qv : Nat → PartV) (q' : Raw) (qv' : Nat → PartV) (h1 : PartsAt W q qv) (h2 : PartsAt W q' qv') (h3 : q.a.isNone = q'.a.isNone) (h4 : q.l = q'.l) (h5 : ∀ i, i < q.l → (qv' i).cells = (qv i).cells) : SK W (.parts q qv) (.parts q' qv') :=
  .inr (.inr ⟨q, qv, q', qv', rfl, rfl, h1, h2, h3, h4, h5⟩)
theorem SK.up {W W' : World} {k k' : CK} (h : SK W k k') (hu : Up W W') : SK W' k k' := by
  rcases h with ⟨rfl, rfl⟩ | ⟨s, rfl, rfl⟩ | ⟨q, qv, q', qv', rfl, rfl, a, b, c, d, e⟩
  · exact .nil
  · exact .text s
  · exact .parts q qv q' qv' (a.up hu) (b.up hu) c d e

end Go.Proofs.Qxb6616371a
