/-
  PLAIN LAWS FOR THE LISTED ITEM: listing what is listed changes nothing. No walk here.
-/
import Derived.Test.Qxb6616371aContents
namespace Go.Proofs.Qxb6616371a
open Go.RowKit
set_option linter.unusedVariables false

theorem msgB_list : msgB.toList = [109, 101, 115, 115, 97, 103, 101] := by kernel_rfl
theorem comB_list : comB.toList.isEmpty = false := by kernel_rfl
theorem isMsg_typeOf (t r : ByteArray) : isMsg (typeOf t r) r = isMsg t r := by
  unfold typeOf
  cases h : isMsg t r with
  | true => simp only [cond_true, isMsg, msgB_list]; rfl
  | false => exact h
theorem typeOf_typeOf (t r : ByteArray) : typeOf (typeOf t r) r = typeOf t r := by
  have h := isMsg_typeOf t r
  cases hm : isMsg t r with
  | true => rw [hm] at h; simp only [typeOf, hm, cond_true] at h ⊢; simp only [h, cond_true]
  | false => rw [hm] at h; simp only [typeOf, hm, cond_false]
theorem statusOf_statusOf (s : ByteArray) : statusOf (statusOf s) = statusOf s := by
  unfold statusOf
  cases h : s.toList.isEmpty with
  | true => simp only [cond_true, comB_list, cond_false]
  | false => simp only [cond_false, h]

/-- A part that is listed is not changed by listing it. -/
theorem Lst.again {G G' : Nat} {W W' : World} {p q r : PartV} (h : Lst G W p q) (h' : Lst G' W' q r) : r.cells = q.cells := by
  have e1 : r.dt = q.dt := by
    rcases h'.dt with ⟨i, n, _⟩ | ⟨_, e⟩
    · rcases h.dt with ⟨_, _, a, ea, _⟩ | ⟨hp, e⟩
      · rw [n] at ea; cases ea
      · rw [h.ty] at i
        rcases hp with hp | hp
        · rw [i] at hp; cases hp
        · rw [← e] at hp; exact absurd n hp
    · exact e
  have e2 : r.an = q.an := by
    rcases h'.an with ⟨i, n, _⟩ | ⟨_, e⟩
    · rcases h.an with ⟨_, _, ea, _⟩ | ⟨hp, e⟩
      · exact absurd n ea
      · rw [h.ty] at i
        rcases hp with hp | hp
        · rw [i] at hp; cases hp
        · rw [← e] at hp; exact absurd n hp
    · exact e
  have e3 : r.lp = q.lp := by
    rcases h'.lp with ⟨i, n, _⟩ | ⟨_, e⟩
    · rcases h.lp with ⟨_, _, ea, _⟩ | ⟨hp, e⟩
      · exact absurd n ea
      · rw [h.ty] at i
        rcases hp with hp | hp
        · rw [i] at hp; cases hp
        · rw [← e] at hp; exact absurd n hp
    · exact e
  simp only [PartV.cells, h'.ty, h'.tx, h'.rf, h'.im, e1, e2, e3]

theorem sk_again {K K' : Nat} {W W' : World} {k k' k'' : CK} (h : LK K W k k') (h' : LK K' W' k' k'') (o1 : k'.ok W') (o2 : k''.ok W') : SK W' k' k'' := by
  rcases h with ⟨rfl, rfl⟩ | ⟨s, rfl, rfl⟩ | ⟨q, qv, b, qv', rfl, rfl, hb, hl⟩
  · rcases h' with ⟨e, rfl⟩ | ⟨s, e, rfl⟩ | ⟨q, qv, b, qv', e, rfl, _, _⟩
    · exact .nil
    · cases e
    · cases e
  · rcases h' with ⟨e, rfl⟩ | ⟨s', e, rfl⟩ | ⟨q, qv, b, qv', e, rfl, _, _⟩
    · cases e
    · cases e
      exact .text s
    · cases e
  · rcases h' with ⟨e, rfl⟩ | ⟨s', e, rfl⟩ | ⟨q2, qv2, b', qv'', e, rfl, hb', hl'⟩
    · cases e
    · cases e
    · cases e
      exact .parts _ _ _ _ o1.1 o2.1 rfl rfl (fun i hi => (hl i hi).again (hl' i hi))

/-- A message's content is a list of parts when it goes into listedParts, and stays one. -/
theorem pre_list {K : Nat} {W V : World} {a : Bool} {k k1 k' : CK} (h : Pre V a true k k1) (hl : LK K W k1 k') : ∃ q qv, k' = .parts q qv := by
  have h1 : ∃ q qv, k1 = .parts q qv := by
    rcases h with ⟨e, _⟩ | ⟨_, _, b, qv, rfl⟩ | ⟨_, s, b, qv, _, rfl, _⟩ | ⟨_, q, qv, _, rfl⟩
    · cases e
    · exact ⟨_, _, rfl⟩
    · exact ⟨_, _, rfl⟩
    · exact ⟨_, _, rfl⟩
  obtain ⟨q, qv, rfl⟩ := h1
  rcases hl with ⟨e, _⟩ | ⟨s, e, _⟩ | ⟨q2, qv2, b, qv', _, rfl, _, _⟩
  · cases e
  · cases e
  · exact ⟨_, _, rfl⟩
theorem pre_again {K : Nat} {W V W' : World} {a m : Bool} {k k1 k' k2 : CK} (h : Pre V a m k k1) (hl : LK K W k1 k') (h2 : Pre W' a m k' k2) : k2 = k' := by
  cases m with
  | false =>
    rcases h2 with ⟨_, e⟩ | ⟨e, _⟩ | ⟨e, _⟩ | ⟨e, _⟩
    · exact e
    · cases e
    · cases e
    · cases e
  | true =>
    obtain ⟨q, qv, rfl⟩ := pre_list h hl
    rcases h2 with ⟨e, _⟩ | ⟨_, e, _⟩ | ⟨_, s, b, qv', e, _, _⟩ | ⟨_, q', qv', e, rfl⟩
    · cases e
    · cases e
    · cases e
    · exact e.symm
theorem pre_parts {K : Nat} {W V : World} {a m : Bool} {k k1 k' : CK} (h : Pre V a m k k1) (hl : LK K W k1 k') (hm : m = true) : k'.isParts = true := by
  subst hm
  obtain ⟨q, qv, rfl⟩ := pre_list h hl
  rfl

/-- The content that zzItem has laid. -/
theorem cont_ck {w W : World} {p tx : Option Addr} {ps cq : Raw} {pv cqv : Nat → PartV} {C : Value} (h : Cont w W p tx ps pv C cq cqv) (hc : ContentAt w p tx ps pv) : ∃ k : CK, C = k.val ∧ k.ok W := by
  rcases h with ⟨x, rfl, rfl⟩ | ⟨a', a, s, hp, ht, hw, rfl, rfl⟩ | ⟨a', hp, ht, _, _, hq, _, hf, _, rfl⟩
  · exact ⟨.nil, rfl, trivial⟩
  · obtain ⟨_, _, _, _, _, hs, _⟩ := hc a' hp
    obtain ⟨s', hs', hl⟩ := hs a ht
    rw [hw] at hs'
    obtain rfl : s = s' := by simpa using hs'
    exact ⟨.text s, rfl, hl⟩
  · exact ⟨.parts cq cqv, rfl, hq, hf.1⟩

end Go.Proofs.Qxb6616371a
