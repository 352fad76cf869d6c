/-
  WHAT THE LISTED CONTENT IS, BY WHAT CAME IN. No walk here.
-/
import Derived.Test.Qxb6616371aMsgText
import Derived.Test.Qxb6616371aTwice
namespace Go.Proofs.Qxb6616371a
open Go.RowKit
set_option linter.unusedVariables false

/-- The listed content k, of a content pointer p (its text tx, its parts ps) that came in; cq: the list that was handed in. -/
def Res (W : World) (asst m : Bool) (p tx : Option Addr) (ps : Raw) (pv : Nat → PartV) (cq : Raw) (k : CK) : Prop :=
  (∃ (b : Nat) (qv : Nat → PartV), k = .parts ⟨some ⟨b, 0, none⟩, 0, 0⟩ qv ∧ p = none ∧ m = true) ∨
  (k = .nil ∧ p = none ∧ m = false) ∨
  (∃ (a' a : Addr) (s : ByteArray) (b : Nat) (qv : Nat → PartV), k = .parts ⟨some ⟨b, 0, none⟩, 1, 1⟩ qv ∧ p = some a' ∧ tx = some a ∧ W.cell? a = some (.string s) ∧ m = true ∧ PartsAt W ⟨some ⟨b, 0, none⟩, 1, 1⟩ qv ∧ MsgPart W s asst (qv 0)) ∨
  (∃ (a' a : Addr) (s : ByteArray), k = .text s ∧ p = some a' ∧ tx = some a ∧ W.cell? a = some (.string s) ∧ m = false) ∨
  (∃ (a' : Addr) (b : Nat) (gv cqv : Nat → PartV), k = .parts ⟨some ⟨b, 0, none⟩, ps.l, ps.l⟩ gv ∧ p = some a' ∧ tx = none ∧ cq.l = ps.l ∧ PartsAt W ⟨some ⟨b, 0, none⟩, ps.l, ps.l⟩ gv ∧ PartsAt W cq cqv ∧ (∀ i, i < ps.l → Good W (pv i) (gv i)) ∧
    (0 < ps.l → ∀ b' off, cq.a = some ⟨b', off, none⟩ → b ≠ b' ∧ Free W b'))
theorem Res.up {W W' : World} {asst m : Bool} {p tx : Option Addr} {ps : Raw} {pv : Nat → PartV} {cq : Raw} {k : CK} (h : Res W asst m p tx ps pv cq k) (hu : Up W W') : Res W' asst m p tx ps pv cq k := by
  rcases h with ⟨b, qv, rfl, x, y⟩ | ⟨rfl, x, y⟩ | ⟨a', a, s, b, qv, rfl, x, y, z, u, v, m⟩ | ⟨a', a, s, rfl, x, y, z, u⟩ | ⟨a', b, gv, cqv, rfl, x, y, z, u, v, g, f⟩
  · exact .inl ⟨b, qv, rfl, x, y⟩
  · exact .inr (.inl ⟨rfl, x, y⟩)
  · exact .inr (.inr (.inl ⟨a', a, s, b, qv, rfl, x, y, (hu _ _ z).1, u, v.up hu, m.up hu⟩))
  · exact .inr (.inr (.inr (.inl ⟨a', a, s, rfl, x, y, (hu _ _ z).1, u⟩)))
  · refine .inr (.inr (.inr (.inr ⟨a', b, gv, cqv, rfl, x, y, z, u.up hu, v.up hu, fun i hi => (g i hi).up hu, fun hl b' off e => ?_⟩)))
    obtain ⟨h1, h2⟩ := f hl b' off e
    have fa : FreeAt W cq := fun hl' b'' off' e' => (f hl b'' off' e').2
    exact ⟨h1, fa.up v hu (by omega) b' off e⟩

theorem cont_res {w W : World} {p tx : Option Addr} {ps cq : Raw} {pv cqv : Nat → PartV} {C : Value} (h : Cont w W p tx ps pv C cq cqv) (hc : ContentAt w p tx ps pv) (hw : Up w W) :
    ∃ k : CK, C = k.val ∧ k.ok W ∧ ∀ (W' : World) (K : Nat) (asst m : Bool) (k1 k' : CK), Up W W' → W.heap.size ≤ K → Pre W' asst m k k1 → LK K W' k1 k' → k'.ok W' → Res W' asst m p tx ps pv cq k' := by
  rcases h with ⟨hp, rfl, rfl⟩ | ⟨a', a, s, hp, ht, hs, rfl, rfl⟩ | ⟨a', hp, ht, hn, hl, hq, sm, hf, fr, rfl⟩
  · refine ⟨.nil, rfl, trivial, fun W' K asst m k1 k' hu hK pre lk ok => ?_⟩
    rcases pre with ⟨rfl, rfl⟩ | ⟨rfl, _, b, qv, rfl⟩ | ⟨_, s, b, qv, e, _, _⟩ | ⟨_, q, qv, e, _⟩
    · rcases lk with ⟨_, rfl⟩ | ⟨s, e, _⟩ | ⟨q, qv, b, qv', e, _, _, _⟩
      · exact .inr (.inl ⟨rfl, hp, rfl⟩)
      · cases e
      · cases e
    · rcases lk with ⟨e, _⟩ | ⟨s, e, _⟩ | ⟨q, qv, b', qv', e, rfl, _, _⟩
      · cases e
      · cases e
      · cases e
        exact .inl ⟨_, _, rfl, hp, rfl⟩
    · cases e
    · cases e
  · obtain ⟨_, _, _, _, _, hst, _⟩ := hc a' hp
    obtain ⟨s', hs', hl⟩ := hst a ht
    rw [hs] at hs'
    obtain rfl : s = s' := by simpa using hs'
    refine ⟨.text s, rfl, hl, fun W' K asst m k1 k' hu hK pre lk ok => ?_⟩
    have hs2 := (hu _ _ (hw _ _ hs).1).1
    rcases pre with ⟨rfl, rfl⟩ | ⟨_, e, _⟩ | ⟨rfl, s', b, qv, e, rfl, one⟩ | ⟨_, q, qv, e, _⟩
    · rcases lk with ⟨e, _⟩ | ⟨s', e, rfl⟩ | ⟨q, qv, b, qv', e, _, _, _⟩
      · cases e
      · cases e
        exact .inr (.inr (.inr (.inl ⟨a', a, s, rfl, hp, ht, hs2, rfl⟩)))
      · cases e
    · cases e
    · cases e
      rcases lk with ⟨e, _⟩ | ⟨s', e, _⟩ | ⟨q, qv2, b', qv', e, rfl, hb, hls⟩
      · cases e
      · cases e
      · cases e
        exact .inr (.inr (.inl ⟨a', a, s, b', qv', rfl, hp, ht, hs2, rfl, ok.1, .of one (hls 0 (by show 0 < 1; omega))⟩))
    · cases e
  · refine ⟨.parts cq cqv, rfl, ⟨hq, hf.1⟩, fun W' K asst m k1 k' hu hK pre lk ok => ?_⟩
    obtain rfl : k1 = .parts cq cqv := by
      rcases pre with ⟨_, e⟩ | ⟨_, e, _⟩ | ⟨_, s, b, qv, e, _, _⟩ | ⟨_, q, qv, e, rfl⟩
      · exact e
      · cases e
      · cases e
      · exact e.symm
    rcases lk with ⟨e, _⟩ | ⟨s, e, _⟩ | ⟨q, qv2, b', qv', e, rfl, hb, hls⟩
    · cases e
    · cases e
    · cases e
      have ok1 := ok.1
      rw [hl] at ok1 ⊢
      refine .inr (.inr (.inr (.inr ⟨a', b', qv', cqv, rfl, hp, ht, hl, ok1, hq.up hu, fun i hi => .of (sm i hi) (hls i (by omega)), fun h0 b'' off e => ⟨?_, fr.up hq hu (by omega) b'' off e⟩⟩)))
      obtain ⟨b3, off3, e3, hr3, _⟩ := hq.2 0 (by omega)
      rw [e] at e3
      obtain ⟨rfl, rfl⟩ : b'' = b3 ∧ off = off3 := by simpa using e3
      have := lt_of_cell (hr3 0 _ rfl)
      simp only at this
      omega

end Go.Proofs.Qxb6616371a
