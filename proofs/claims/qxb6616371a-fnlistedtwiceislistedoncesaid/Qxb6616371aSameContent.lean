/-
  zzSameContentValue OF THE SAME CONTENT.
-/
import Derived.Test.Qxb6616371aContents
namespace Go.Proofs.Qxb6616371a
open Go.RowKit
set_option linter.unusedVariables false
set_option linter.unusedSimpArgs false

set_option maxRecDepth 100000 in
set_option maxHeartbeats 1000000 in
theorem zzSameContentValue_same (k k' : CK) (w : World) (h : SK w k k') : Calls Try.prog 34 #[k.val, k'.val] w fun e w' => e = .returned (.bool true) ∧ Below w.heap.size w w' := by
  rcases h with ⟨rfl, rfl⟩ | ⟨s, rfl, rfl⟩ | ⟨q, qv, q', qv', rfl, rfl, hq, hq', hn, hl, he⟩
  · skip
    simp only [val_nil]
    go_enter Try.func34, Try.ntmps34
    go_wp2_with fail
    go_region
    go_wp2_with fail
    refine (zzTextOf_any .nil _).mono ?_
    rintro e w1 ⟨rfl, rfl⟩
    simp only [str_nil, str_text, str_parts, isText_nil, isText_text, isText_parts]
    go_wp2_with fail
    refine (zzTextOf_any .nil _).mono ?_
    rintro e w1 ⟨rfl, rfl⟩
    simp only [str_nil, str_text, str_parts, isText_nil, isText_text, isText_parts]
    go_wp2_with fail
    refine (zzPartsOf_any .nil _).mono ?_
    rintro e w1 ⟨rfl, rfl⟩
    simp only [sl_nil, sl_text, sl_parts, isParts_nil, isParts_text, isParts_parts]
    go_wp2_with fail
    refine (zzPartsOf_any .nil _).mono ?_
    rintro e w1 ⟨rfl, rfl⟩
    simp only [sl_nil, sl_text, sl_parts, isParts_nil, isParts_text, isParts_parts]
    go_wp2_with fail
    refine (zzSamePartsValue_same ⟨none, 0, 0⟩ ⟨none, 0, 0⟩ (fun _ => p0 msgB none) (fun _ => p0 msgB none) _ ⟨Nat.zero_le _, fun i hi => absurd hi (Nat.not_lt_zero _)⟩ ⟨Nat.zero_le _, fun i hi => absurd hi (Nat.not_lt_zero _)⟩ rfl rfl (fun _ _ => rfl)).mono ?_
    rintro e w1 ⟨rfl, hb⟩
    have Hb := hide hb
    clear hb
    go_wp2_with fail
    go_ret
    exact ⟨rfl, (Below.refl _ _).drew.trans (unhide Hb)⟩
  · skip
    simp only [val_text]
    go_enter Try.func34, Try.ntmps34
    go_wp2_with fail
    go_region
    go_wp2_with fail
    refine (zzTextOf_any (.text s) _).mono ?_
    rintro e w1 ⟨rfl, rfl⟩
    simp only [str_nil, str_text, str_parts, isText_nil, isText_text, isText_parts]
    go_wp2_with fail
    refine (zzTextOf_any (.text s) _).mono ?_
    rintro e w1 ⟨rfl, rfl⟩
    simp only [str_nil, str_text, str_parts, isText_nil, isText_text, isText_parts]
    go_wp2_with fail
    refine (zzPartsOf_any (.text s) _).mono ?_
    rintro e w1 ⟨rfl, rfl⟩
    simp only [sl_nil, sl_text, sl_parts, isParts_nil, isParts_text, isParts_parts]
    go_wp2_with fail
    refine (zzPartsOf_any (.text s) _).mono ?_
    rintro e w1 ⟨rfl, rfl⟩
    simp only [sl_nil, sl_text, sl_parts, isParts_nil, isParts_text, isParts_parts]
    go_wp2_with fail
    refine (zzSamePartsValue_same ⟨none, 0, 0⟩ ⟨none, 0, 0⟩ (fun _ => p0 msgB none) (fun _ => p0 msgB none) _ ⟨Nat.zero_le _, fun i hi => absurd hi (Nat.not_lt_zero _)⟩ ⟨Nat.zero_le _, fun i hi => absurd hi (Nat.not_lt_zero _)⟩ rfl rfl (fun _ _ => rfl)).mono ?_
    rintro e w1 ⟨rfl, hb⟩
    have Hb := hide hb
    clear hb
    go_wp2_with fail
    go_ret
    exact ⟨rfl, (Below.refl _ _).drew.trans (unhide Hb)⟩
  · skip
    have Hq := hide hq
    have Hq' := hide hq'
    have Hn := hide hn
    have Hl := hide hl
    have He := hide he
    clear hq hq' hn hl he
    simp only [val_parts]
    go_enter Try.func34, Try.ntmps34
    go_wp2_with fail
    go_region
    go_wp2_with fail
    refine (zzTextOf_any (.parts q qv) _).mono ?_
    rintro e w1 ⟨rfl, rfl⟩
    simp only [str_nil, str_text, str_parts, isText_nil, isText_text, isText_parts]
    go_wp2_with fail
    refine (zzTextOf_any (.parts q' qv') _).mono ?_
    rintro e w1 ⟨rfl, rfl⟩
    simp only [str_nil, str_text, str_parts, isText_nil, isText_text, isText_parts]
    go_wp2_with fail
    refine (zzPartsOf_any (.parts q qv) _).mono ?_
    rintro e w1 ⟨rfl, rfl⟩
    simp only [sl_nil, sl_text, sl_parts, isParts_nil, isParts_text, isParts_parts]
    go_wp2_with fail
    refine (zzPartsOf_any (.parts q' qv') _).mono ?_
    rintro e w1 ⟨rfl, rfl⟩
    simp only [sl_nil, sl_text, sl_parts, isParts_nil, isParts_text, isParts_parts]
    go_wp2_with fail
    refine (zzSamePartsValue_same q q' qv qv' _ ((unhide Hq).step (Below.refl _ _).drew) ((unhide Hq').step (Below.refl _ _).drew) (unhide Hn) (unhide Hl) (unhide He)).mono ?_
    rintro e w1 ⟨rfl, hb⟩
    have Hb := hide hb
    clear hb
    go_wp2_with fail
    go_ret
    exact ⟨rfl, (Below.refl _ _).drew.trans (unhide Hb)⟩

end Go.Proofs.Qxb6616371a
