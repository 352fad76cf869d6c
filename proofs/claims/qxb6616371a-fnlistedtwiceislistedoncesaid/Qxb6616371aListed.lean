/-
  (InputItem).Listed, IN GENERAL.
-/
import Derived.Test.Qxb6616371aListedParts
namespace Go.Proofs.Qxb6616371a
open Go.RowKit
set_option linter.unusedVariables false

def outB : ByteArray := ⟨#[111, 117, 116, 112, 117, 116, 95, 116, 101, 120, 116]⟩
def inB : ByteArray := ⟨#[105, 110, 112, 117, 116, 95, 116, 101, 120, 116]⟩
def isAsst (r : ByteArray) : Bool := r.toList == [97, 115, 115, 105, 115, 116, 97, 110, 116]

/-- The one part that holds a message's string. -/
structure One (W : World) (s : ByteArray) (asst : Bool) (p : PartV) : Prop where
  ty : p.ty = bif asst then outB else inB
  tx : ∃ a, p.tx = some a ∧ W.cell? a = some (.string s)
  rf : p.rf = none
  im : p.im = none
  dt : p.dt = none
  an : p.an = ⟨none, 0, 0⟩
  lp : p.lp = ⟨none, 0, 0⟩
theorem One.up {W W' : World} {s : ByteArray} {asst : Bool} {p : PartV} (h : One W s asst p) (hu : Up W W') : One W' s asst p :=
  ⟨h.ty, let ⟨a, e, c⟩ := h.tx; ⟨a, e, (hu _ _ c).1⟩, h.rf, h.im, h.dt, h.an, h.lp⟩

/-- The content that goes into listedParts. -/
def Pre (W : World) (asst m : Bool) (k k' : CK) : Prop :=
  (m = false ∧ k' = k) ∨
  (m = true ∧ k = .nil ∧ ∃ (b : Nat) (qv : Nat → PartV), k' = .parts ⟨some ⟨b, 0, none⟩, 0, 0⟩ qv) ∨
  (m = true ∧ ∃ (s : ByteArray) (b : Nat) (qv : Nat → PartV), k = .text s ∧ k' = .parts ⟨some ⟨b, 0, none⟩, 1, 1⟩ qv ∧ One W s asst (qv 0)) ∨
  (m = true ∧ ∃ (q : Raw) (qv : Nat → PartV), k = .parts q qv ∧ k' = .parts q qv)
theorem Pre.other {W : World} {asst : Bool} (k : CK) : Pre W asst false k k := .inl ⟨rfl, rfl⟩
theorem Pre.nil {W : World} {asst : Bool} (b : Nat) (qv : Nat → PartV) : Pre W asst true .nil (.parts ⟨some ⟨b, 0, none⟩, 0, 0⟩ qv) := .inr (.inl ⟨rfl, rfl, b, qv, rfl⟩)
theorem Pre.text {W : World} {asst : Bool} (s : ByteArray) (b : Nat) (qv : Nat → PartV) (h : One W s asst (qv 0)) : Pre W asst true (.text s) (.parts ⟨some ⟨b, 0, none⟩, 1, 1⟩ qv) := .inr (.inr (.inl ⟨rfl, s, b, qv, rfl, rfl, h⟩))
theorem Pre.parts {W : World} {asst : Bool} (q : Raw) (qv : Nat → PartV) : Pre W asst true (.parts q qv) (.parts q qv) := .inr (.inr (.inr ⟨rfl, q, qv, rfl, rfl⟩))
theorem Pre.up {W W' : World} {asst m : Bool} {k k' : CK} (h : Pre W asst m k k') (hu : Up W W') : Pre W' asst m k k' := by
  rcases h with ⟨rfl, rfl⟩ | ⟨rfl, rfl, b, qv, rfl⟩ | ⟨rfl, s, b, qv, rfl, rfl, h1⟩ | ⟨rfl, q, qv, rfl, rfl⟩
  · exact .other _
  · exact .nil b qv
  · exact .text s b qv (h1.up hu)
  · exact .parts q qv

/-- Listed's own boxes. -/
abbrev Own2 (w : World) : Nat → Prop := fun b => b = w.heap.size ∨ b = w.heap.size + 1
/-- Inside Listed: the item (it lies in its own variable), the result's variable. -/
structure LZ (w W : World) (cs : List Value) : Prop where
  bel : Below w.heap.size w W
  z : BoxAt W w.heap.size cs
  r : BoxAt W (w.heap.size + 1) [.string ⟨#[]⟩, .string ⟨#[]⟩, .string ⟨#[]⟩, .string ⟨#[]⟩, .nilIface, .slice none 0 0, .pointer none, .pointer none, .string ⟨#[]⟩, .pointer none, .pointer none, .nilIface, .slice none 0 0, .nilIface]
theorem LZ.step {w W W' : World} {cs : List Value} (h : LZ w W cs) (hb : Below W.heap.size W W') : LZ w W' cs := ⟨h.bel.trans (hb.mono h.bel.size), h.z.step hb, h.r.step hb⟩
theorem LZ.put {w W : World} {cs : List Value} (h : LZ w W cs) (j : Nat) (v : Value) (hj : j < cs.length) : LZ w (W.setCell ⟨w.heap.size, j, none⟩ v) (cs.set j v) :=
  ⟨h.bel.setCell (Nat.le_refl _) _, h.z.put j v hj, h.r.other _ _ (by simp)⟩
theorem LZ.alloc {w W : World} {cs : List Value} (h : LZ w W cs) (o : Obj) : LZ w (W.alloc o) cs := h.step (al _ _)
theorem LZ.own {w W : World} {cs : List Value} (h : LZ w W cs) : ∀ b, Own2 w b → w.heap.size ≤ b ∧ b < W.heap.size := fun b e => by
  have h1 := h.r.size
  rcases e with e | e <;> omega
theorem LZ.made (w : World) (cs : List Value) : LZ w ((w.alloc (.cells cs.toArray 32)).alloc (.cells #[.string ⟨#[]⟩, .string ⟨#[]⟩, .string ⟨#[]⟩, .string ⟨#[]⟩, .nilIface, .slice none 0 0, .pointer none, .pointer none, .string ⟨#[]⟩, .pointer none, .pointer none, .nilIface, .slice none 0 0, .nilIface] 32)) cs := by
  have z := BoxAt.made w cs 32
  have s0 : (w.alloc (.cells cs.toArray 32)).heap.size = w.heap.size + 1 := by simp
  have b0 := al w (.cells cs.toArray 32)
  generalize w.alloc (.cells cs.toArray 32) = W0 at *
  have r := BoxAt.made W0 [.string ⟨#[]⟩, .string ⟨#[]⟩, .string ⟨#[]⟩, .string ⟨#[]⟩, .nilIface, .slice none 0 0, .pointer none, .pointer none, .string ⟨#[]⟩, .pointer none, .pointer none, .nilIface, .slice none 0 0, .nilIface] 32
  have b1 := al W0 (.cells #[.string ⟨#[]⟩, .string ⟨#[]⟩, .string ⟨#[]⟩, .string ⟨#[]⟩, .nilIface, .slice none 0 0, .pointer none, .pointer none, .string ⟨#[]⟩, .pointer none, .pointer none, .nilIface, .slice none 0 0, .nilIface] 32)
  rw [s0] at r
  exact ⟨b0.trans (b1.mono b0.size), z.step b1, r⟩

theorem val_nil : CK.nil.val = .nilIface := rfl
theorem val_text (s : ByteArray) : (CK.text s).val = .iface 57 (.string s) := rfl
theorem val_parts (q : Raw) (qv : Nat → PartV) : (CK.parts q qv).val = .iface 56 (.slice q.a q.l q.c) := rfl
def p0 (b : ByteArray) (a : Option Addr) : PartV := ⟨b, a, none, none, none, ⟨none, 0, 0⟩, ⟨none, 0, 0⟩, fun _ => ⟨none, 0, 0⟩, fun _ => ⟨none, 0, 0⟩⟩
theorem text_cells (V : World) (s b : ByteArray) (n : Nat) (hn : V.heap.size = n) :
    (((V.alloc (.cells #[.string s] 9)).alloc (.cells #[.string b, .pointer (some ⟨n, 0, none⟩), .pointer none, .pointer none, .pointer none, .slice none 0 0, .slice none 0 0] 60)).alloc (.cells #[.string b, .pointer (some ⟨n, 0, none⟩), .pointer none, .pointer none, .pointer none, .slice none 0 0, .slice none 0 0] 60)).cell? ⟨n, 0, none⟩ = some (.string s) ∧
    (((V.alloc (.cells #[.string s] 9)).alloc (.cells #[.string b, .pointer (some ⟨n, 0, none⟩), .pointer none, .pointer none, .pointer none, .slice none 0 0, .slice none 0 0] 60)).alloc (.cells #[.string b, .pointer (some ⟨n, 0, none⟩), .pointer none, .pointer none, .pointer none, .slice none 0 0, .slice none 0 0] 60)).rangeAt (n + 1 + 1) 0 (p0 b (some ⟨n, 0, none⟩)).cells := by
  subst hn
  have h1 := (BoxAt.made V [.string s] 9).get 0 _ rfl
  have s1 : (V.alloc (.cells #[.string s] 9)).heap.size = V.heap.size + 1 := by simp
  generalize V.heap.size = n at *
  change (V.alloc (.cells #[.string s] 9)).cell? ⟨n, 0, none⟩ = some (.string s) at h1
  generalize V.alloc (.cells #[.string s] 9) = V1 at *
  have h2 := Below.keep (al V1 (.cells #[.string b, .pointer (some ⟨n, 0, none⟩), .pointer none, .pointer none, .pointer none, .slice none 0 0, .slice none 0 0] 60)) h1
  have s2 : (V1.alloc (.cells #[.string b, .pointer (some ⟨n, 0, none⟩), .pointer none, .pointer none, .pointer none, .slice none 0 0, .slice none 0 0] 60)).heap.size = n + 1 + 1 := by simp [s1]
  generalize V1.alloc (.cells #[.string b, .pointer (some ⟨n, 0, none⟩), .pointer none, .pointer none, .pointer none, .slice none 0 0, .slice none 0 0] 60) = V2 at *
  refine ⟨Below.keep (al V2 _) h2, fun j v hj => ?_⟩
  have := (BoxAt.made V2 [.string b, .pointer (some ⟨n, 0, none⟩), .pointer none, .pointer none, .pointer none, .slice none 0 0, .slice none 0 0] 60).get j v hj
  rw [s2] at this
  rw [Nat.zero_add]
  exact this
theorem one_one {W : World} {S : Nat → Prop} [DecidablePred S] {s b : ByteArray} {n : Nat} {asst : Bool} (h1 : ¬ S n) (hc : W.cell? ⟨n, 0, none⟩ = some (.string s)) (he : b = bif asst then outB else inB) : One (hole W S) s asst (p0 b (some ⟨n, 0, none⟩)) :=
  ⟨he, ⟨_, rfl, by rw [hole_ne (by exact h1)]; exact hc⟩, rfl, rfl, rfl, rfl, rfl⟩
theorem one_parts {W : World} {S : Nat → Prop} [DecidablePred S] {s b : ByteArray} {n : Nat} (hs : s.size ≤ maxLen) (hb : b.size ≤ maxLen) (h1 : ¬ S n) (h2 : ¬ S (n + 1 + 1)) (hc : W.cell? ⟨n, 0, none⟩ = some (.string s)) (hr : W.rangeAt (n + 1 + 1) 0 (p0 b (some ⟨n, 0, none⟩)).cells) :
    PartsAt (hole W S) ⟨some ⟨n + 1 + 1, 0, none⟩, 1, 1⟩ (fun _ => p0 b (some ⟨n, 0, none⟩)) := by
  refine ⟨by show 1 ≤ maxLen; decide, fun i hi => ⟨n + 1 + 1, 0, rfl, fun j v hv => ?_, ⟨hb, fun a e => ?_, StrP.none _, StrP.none _, StrP.none _, RawsAt.none _ _, RawsAt.none _ _⟩⟩⟩
  · have hi' : i < 1 := hi
    obtain rfl : i = 0 := by omega
    rw [hole_ne (by exact h2)]
    exact hr j v hv
  · obtain rfl : (⟨n, 0, none⟩ : Addr) = a := by simpa [p0] using e
    exact ⟨s, by rw [hole_ne (by exact h1)]; exact hc, hs⟩

set_option maxRecDepth 100000 in
set_option maxHeartbeats 2000000 in
theorem listed_any (ty id st ro : ByteArray) (k : CK) (su : Raw) (ci nm : Option Addr) (ns : ByteArray) (ar inp : Option Addr) (o : CK) (ts : Raw) (w : World) (hk : k.ok w) (ho : o.ok w) :
    Calls Try.prog 9 #[.agg #[.string ty, .string id, .string st, .string ro, k.val, .slice su.a su.l su.c, .pointer ci, .pointer nm, .string ns, .pointer ar, .pointer inp, o.val, .slice ts.a ts.l ts.c, .nilIface]] w fun e w' =>
      ∃ k1 k' o' : CK, e = .returned (.agg #[.string (typeOf ty ro), .string id, .string (statusOf st), .string ro, k'.val, .slice su.a su.l su.c, .pointer ci, .pointer nm, .string ns, .pointer ar, .pointer inp, o'.val, .slice ts.a ts.l ts.c, .nilIface]) ∧
        Pre w' (isAsst ro) (isMsg ty ro) k k1 ∧ LK w.heap.size w' k1 k' ∧ LK w.heap.size w' o o' ∧ k'.ok w' ∧ o'.ok w' ∧ Below w.heap.size w w' := by
  have Hk := hide hk
  have Ho := hide ho
  clear hk ho
  have lz := LZ.made w [.string ty, .string id, .string st, .string ro, k.val, .slice su.a su.l su.c, .pointer ci, .pointer nm, .string ns, .pointer ar, .pointer inp, o.val, .slice ts.a ts.l ts.c, .nilIface]
  have k1 := k.one
  have o1 := o.one
  have Lz := hide lz
  clear lz
  go_enter Try.func9, Try.ntmps9
  go_upto_if 9 with fail
  generalize (w.alloc (.cells (List.toArray [.string ty, .string id, .string st, .string ro, k.val, .slice su.a su.l su.c, .pointer ci, .pointer nm, .string ns, .pointer ar, .pointer inp, o.val, .slice ts.a ts.l ts.c, .nilIface]) 32)).alloc (.cells #[.string ⟨#[]⟩, .string ⟨#[]⟩, .string ⟨#[]⟩, .string ⟨#[]⟩, .nilIface, .slice none 0 0, .pointer none, .pointer none, .string ⟨#[]⟩, .pointer none, .pointer none, .nilIface, .slice none 0 0, .nilIface] 32) = W1 at *
  go_cut [] from 7 to 10 (fun wc => LZ w wc [.string ty, .string id, .string (statusOf st), .string ro, k.val, .slice su.a su.l su.c, .pointer ci, .pointer nm, .string ns, .pointer ar, .pointer inp, o.val, .slice ts.a ts.l ts.c, .nilIface])
  case first =>
    by_cases hs : st.toList.isEmpty = true
    · simp only [hs]
      have c2 := (unhide Lz).z.get 2 _ rfl
      have f2 := (unhide Lz).z.free 2
      go_wp2_with fail
      go_meet
      case rel =>
        have := (unhide Lz).put 2 (.string comB) (by simp)
        have hst : statusOf st = comB := by simp [statusOf, hs]
        rw [hst]
        exact this
    · replace hs : st.toList.isEmpty = false := by simpa using hs
      simp only [hs]
      go_wp2_with fail
      go_meet
      case rel => simpa [statusOf, hs] using unhide Lz
  case rest =>
    have Lz2 := hide hcut
    clear Lz hcut
    generalize hst : statusOf st = st' at *
    have Hst := hide hst
    clear hst
    have c0 := (unhide Lz2).z.get 0 _ rfl
    have c1 := (unhide Lz2).z.get 1 _ rfl
    have c2 := (unhide Lz2).z.get 2 _ rfl
    have c3 := (unhide Lz2).z.get 3 _ rfl
    have c4 := (unhide Lz2).z.get 4 _ rfl
    have c5 := (unhide Lz2).z.get 5 _ rfl
    have c6 := (unhide Lz2).z.get 6 _ rfl
    have c7 := (unhide Lz2).z.get 7 _ rfl
    have c8 := (unhide Lz2).z.get 8 _ rfl
    have c9 := (unhide Lz2).z.get 9 _ rfl
    have c10 := (unhide Lz2).z.get 10 _ rfl
    have c11 := (unhide Lz2).z.get 11 _ rfl
    have c12 := (unhide Lz2).z.get 12 _ rfl
    have c13 := (unhide Lz2).z.get 13 _ rfl
    go_wp2_with fail
    refine (isMessage_any _ _ _ _ _ _ _ _ _ _ _ _ _ _ _ _ _ rfl rfl).mono ?_
    rintro e w' ⟨rfl, hw'⟩
    have Lz3 := hide ((unhide Lz2).alloc (.cells #[.string ty, .string id, .string st', .string ro, k.val, .slice su.a su.l su.c, .pointer ci, .pointer nm, .string ns, .pointer ar, .pointer inp, o.val, .slice ts.a ts.l ts.c, .nilIface] 32))
    rw [← hw'] at Lz3
    clear hw' Lz2 c0 c1 c2 c3 c4 c5 c6 c7 c8 c9 c10 c11 c12 c13
    go_upto_if 12 with fail
    go_cut [] from 11 to 32 (fun wd => ∃ k2 : CK, LZ w wd [.string (typeOf ty ro), .string id, .string st', .string ro, k2.val, .slice su.a su.l su.c, .pointer ci, .pointer nm, .string ns, .pointer ar, .pointer inp, o.val, .slice ts.a ts.l ts.c, .nilIface] ∧ Pre (hole wd (Own2 w)) (isAsst ro) (isMsg ty ro) k k2 ∧ k2.ok (hole wd (Own2 w)))
    case first =>
      by_cases hm : isMsg ty ro = true
      · simp only [hm]
        have ht : typeOf ty ro = msgB := by simp [typeOf, hm]
        have Ht := hide ht
        clear ht
        have c0 := (unhide Lz3).z.get 0 _ rfl
        have f0 := (unhide Lz3).z.free 0
        have c4 := (unhide Lz3).z.get 4 _ rfl
        have f4 := (unhide Lz3).z.free 4
        have c3 := (unhide Lz3).z.get 3 _ rfl
        have hz0 : w.heap.size < w'.heap.size := (unhide Lz3).z.size
        have hz1 : w.heap.size < w'.heap.size + 1 := by omega
        have hz2 : w.heap.size < w'.heap.size + 1 + 1 := by omega
        have hz3 : w.heap.size < w'.heap.size + 1 + 1 + 1 := by omega
        rcases k.three with rfl | ⟨s, rfl⟩ | ⟨q, qv, rfl⟩
        · skip
          simp only [val_nil] at c4
          go_wp2_with fail
          go_meet
          case rel =>
            rw [hm]
            refine ⟨.parts ⟨some ⟨w'.heap.size, 0, none⟩, 0, 0⟩ (fun _ => p0 msgB none), ?_, .nil _ _, ⟨⟨Nat.zero_le _, fun i hi => absurd hi (Nat.not_lt_zero _)⟩, Nat.zero_le _⟩⟩
            rw [unhide Ht]
            exact (((unhide Lz3).put 0 _ (by simp)).put 4 _ (by simp)).alloc _
        · skip
          simp only [val_text] at c4
          by_cases ha : (ro.toList == [97, 115, 115, 105, 115, 116, 97, 110, 116]) = true
          · go_wp2_with fail
            go_meet
            case rel =>
              have tc := text_cells ((w'.setCell ⟨w.heap.size, 0, none⟩ (.string msgB)).setCell ⟨w.heap.size, 4, none⟩ (.iface 56 (.slice (some ⟨w'.heap.size + 1 + 1, 0, none⟩) 1 1))) s outB w'.heap.size (by simp)
              have hr1 := (unhide Lz3).r.size
              have hn1 : ¬ Own2 w w'.heap.size := fun e => by rcases e with e | e <;> omega
              have hn2 : ¬ Own2 w (w'.heap.size + 1 + 1) := fun e => by rcases e with e | e <;> omega
              have ps := one_parts (S := Own2 w) (unhide Hk) (by decide) hn1 hn2 tc.1 tc.2
              rw [hm]
              refine ⟨.parts ⟨some ⟨w'.heap.size + 1 + 1, 0, none⟩, 1, 1⟩ (fun _ => p0 outB (some ⟨w'.heap.size, 0, none⟩)), ?_, .text s _ _ (one_one hn1 tc.1 (by simp [isAsst, ha])), ⟨ps, by show 1 ≤ 1048576; decide⟩⟩
              rw [unhide Ht]
              exact (((((unhide Lz3).put 0 _ (by simp)).put 4 _ (by simp)).alloc _).alloc _).alloc _
          · replace ha : (ro.toList == [97, 115, 115, 105, 115, 116, 97, 110, 116]) = false := by simpa using ha
            go_wp2_with fail
            go_meet
            case rel =>
              have tc := text_cells ((w'.setCell ⟨w.heap.size, 0, none⟩ (.string msgB)).setCell ⟨w.heap.size, 4, none⟩ (.iface 56 (.slice (some ⟨w'.heap.size + 1 + 1, 0, none⟩) 1 1))) s inB w'.heap.size (by simp)
              have hr1 := (unhide Lz3).r.size
              have hn1 : ¬ Own2 w w'.heap.size := fun e => by rcases e with e | e <;> omega
              have hn2 : ¬ Own2 w (w'.heap.size + 1 + 1) := fun e => by rcases e with e | e <;> omega
              have ps := one_parts (S := Own2 w) (unhide Hk) (by decide) hn1 hn2 tc.1 tc.2
              rw [hm]
              refine ⟨.parts ⟨some ⟨w'.heap.size + 1 + 1, 0, none⟩, 1, 1⟩ (fun _ => p0 inB (some ⟨w'.heap.size, 0, none⟩)), ?_, .text s _ _ (one_one hn1 tc.1 (by simp [isAsst, ha])), ⟨ps, by show 1 ≤ 1048576; decide⟩⟩
              rw [unhide Ht]
              exact (((((unhide Lz3).put 0 _ (by simp)).put 4 _ (by simp)).alloc _).alloc _).alloc _
        · skip
          simp only [val_parts] at c4
          go_wp2_with fail
          go_meet
          case rel =>
            rw [hm]
            refine ⟨.parts q qv, ?_, .parts q qv, ((unhide Hk).up (up_hole (unhide Lz3).bel (fun b e => ((unhide Lz3).own b e).1))).up (hole_set (a := ⟨w.heap.size, 0, none⟩) _ (.inl rfl))⟩
            rw [unhide Ht]
            exact (unhide Lz3).put 0 _ (by simp)
      · replace hm : isMsg ty ro = false := by simpa using hm
        simp only [hm]
        go_wp2_with fail
        go_meet
        case rel =>
          have ht : typeOf ty ro = ty := by simp [typeOf, hm]
          rw [hm, ht]
          refine ⟨k, ?_, ?_, (unhide Hk).up (up_hole (unhide Lz3).bel (fun b e => ((unhide Lz3).own b e).1))⟩
          · exact unhide Lz3
          · exact .other k
    case rest =>
      obtain ⟨k2, lz, pre, ok2⟩ := hcut
      have Lz4 := hide lz
      have Pre2 := hide pre
      have Ok2 := hide ok2
      have k21 := k2.one
      clear lz pre ok2 Lz3 Hk k1
      generalize hty : typeOf ty ro = ty' at *
      have Hty := hide hty
      clear hty
      have c4 := (unhide Lz4).z.get 4 _ rfl
      go_upto_region 16 with fail
      go_cut [] from 33 to 36 (fun wd => ∃ k' : CK, LZ w wd [.string ty', .string id, .string st', .string ro, k'.val, .slice su.a su.l su.c, .pointer ci, .pointer nm, .string ns, .pointer ar, .pointer inp, o.val, .slice ts.a ts.l ts.c, .nilIface] ∧ Pre (hole wd (Own2 w)) (isAsst ro) (isMsg ty ro) k k2 ∧ k'.ok (hole wd (Own2 w)) ∧ LK w.heap.size (hole wd (Own2 w)) k2 k')
      case first =>
        go_wp2_with fail
        refine (listedParts_any k2 _ ((unhide Ok2).up (hole_up _ _))).mono ?_
        rintro e w2 ⟨k', rfl, lk, -, hx, hb⟩
        have okK := hx (Own2 w) (fun b e => ((unhide Lz4).own b e).2) (unhide Ok2)
        have lkK := lk.hole (S := Own2 w) (fun b e => ((unhide Lz4).own b e).2)
        have preK := (unhide Pre2).up ((up_below hb).hole (Own2 w))
        have Lz5 := hide ((unhide Lz4).step hb)
        have Kf := hide (And.intro preK (And.intro okK (lkK.mono (unhide Lz4).bel.size)))
        clear lk hx hb okK lkK preK c4 Lz4 Pre2 Ok2
        have c4 := (unhide Lz5).z.get 4 _ rfl
        have f4 := (unhide Lz5).z.free 4
        rcases k'.three with rfl | ⟨s, rfl⟩ | ⟨q, qv, rfl⟩
        · skip
          simp only [val_nil]
          go_wp2_with fail
          go_meet
          case rel =>
            have hu := hole_set (W := w2) (S := Own2 w) (a := ⟨w.heap.size, 4, none⟩) CK.nil.val (.inl rfl)
            exact ⟨.nil, (unhide Lz5).put 4 _ (by simp), (unhide Kf).1.up hu, (unhide Kf).2.1.up hu, (unhide Kf).2.2.up hu⟩
        · skip
          simp only [val_text]
          go_wp2_with fail
          go_meet
          case rel =>
            have hu := hole_set (W := w2) (S := Own2 w) (a := ⟨w.heap.size, 4, none⟩) (CK.text s).val (.inl rfl)
            exact ⟨.text s, (unhide Lz5).put 4 _ (by simp), (unhide Kf).1.up hu, (unhide Kf).2.1.up hu, (unhide Kf).2.2.up hu⟩
        · skip
          simp only [val_parts]
          go_wp2_with fail
          go_meet
          case rel =>
            have hu := hole_set (W := w2) (S := Own2 w) (a := ⟨w.heap.size, 4, none⟩) (CK.parts q qv).val (.inl rfl)
            exact ⟨.parts q qv, (unhide Lz5).put 4 _ (by simp), (unhide Kf).1.up hu, (unhide Kf).2.1.up hu, (unhide Kf).2.2.up hu⟩
      case rest =>
      obtain ⟨k', lz, kf⟩ := hcut
      have Lz6 := hide lz
      have Kf2 := hide kf
      have k'1 := k'.one
      clear lz kf c4 Lz4 Pre2 Ok2
      have c11 := (unhide Lz6).z.get 11 _ rfl
      go_upto_region 17 with fail
      go_cut [] from 37 to 40 (fun wd => ∃ o' : CK, LZ w wd [.string ty', .string id, .string st', .string ro, k'.val, .slice su.a su.l su.c, .pointer ci, .pointer nm, .string ns, .pointer ar, .pointer inp, o'.val, .slice ts.a ts.l ts.c, .nilIface] ∧ Pre (hole wd (Own2 w)) (isAsst ro) (isMsg ty ro) k k2 ∧ k'.ok (hole wd (Own2 w)) ∧ LK w.heap.size (hole wd (Own2 w)) k2 k' ∧ o'.ok (hole wd (Own2 w)) ∧ LK w.heap.size (hole wd (Own2 w)) o o')
      case first =>
        go_wp2_with fail
        refine (listedParts_any o _ ((unhide Ho).up (up_below (unhide Lz6).bel))).mono ?_
        rintro e w4 ⟨o', rfl, lk, -, hx, hb⟩
        have okO := hx (Own2 w) (fun b e => ((unhide Lz6).own b e).2) ((unhide Ho).up (up_hole (unhide Lz6).bel (fun b e => ((unhide Lz6).own b e).1)))
        have lkO := (lk.hole (S := Own2 w) (fun b e => ((unhide Lz6).own b e).2)).mono (unhide Lz6).bel.size
        have hu := (up_below hb).hole (Own2 w)
        have Lz7 := hide ((unhide Lz6).step hb)
        have Kf3 := hide (And.intro ((unhide Kf2).1.up hu) (And.intro ((unhide Kf2).2.1.up hu) (And.intro ((unhide Kf2).2.2.up hu) (And.intro okO lkO))))
        clear lk hx hb okO lkO hu Lz6 Kf2 c11
        have c11 := (unhide Lz7).z.get 11 _ rfl
        have f11 := (unhide Lz7).z.free 11
        rcases o'.three with rfl | ⟨s, rfl⟩ | ⟨q, qv, rfl⟩
        · skip
          simp only [val_nil]
          go_wp2_with fail
          go_meet
          case rel =>
            have hu := hole_set (W := w4) (S := Own2 w) (a := ⟨w.heap.size, 11, none⟩) CK.nil.val (.inl rfl)
            exact ⟨.nil, (unhide Lz7).put 11 _ (by simp), (unhide Kf3).1.up hu, (unhide Kf3).2.1.up hu, (unhide Kf3).2.2.1.up hu, (unhide Kf3).2.2.2.1.up hu, (unhide Kf3).2.2.2.2.up hu⟩
        · skip
          simp only [val_text]
          go_wp2_with fail
          go_meet
          case rel =>
            have hu := hole_set (W := w4) (S := Own2 w) (a := ⟨w.heap.size, 11, none⟩) (CK.text s).val (.inl rfl)
            exact ⟨.text s, (unhide Lz7).put 11 _ (by simp), (unhide Kf3).1.up hu, (unhide Kf3).2.1.up hu, (unhide Kf3).2.2.1.up hu, (unhide Kf3).2.2.2.1.up hu, (unhide Kf3).2.2.2.2.up hu⟩
        · skip
          simp only [val_parts]
          go_wp2_with fail
          go_meet
          case rel =>
            have hu := hole_set (W := w4) (S := Own2 w) (a := ⟨w.heap.size, 11, none⟩) (CK.parts q qv).val (.inl rfl)
            exact ⟨.parts q qv, (unhide Lz7).put 11 _ (by simp), (unhide Kf3).1.up hu, (unhide Kf3).2.1.up hu, (unhide Kf3).2.2.1.up hu, (unhide Kf3).2.2.2.1.up hu, (unhide Kf3).2.2.2.2.up hu⟩
      case rest =>
      obtain ⟨o', lz, kf⟩ := hcut
      have Lz7 := hide lz
      have Kf3 := hide kf
      have o'1 := o'.one
      clear lz kf Lz6 Kf2 c11
      have c0 := (unhide Lz7).z.get 0 _ rfl
      have c1 := (unhide Lz7).z.get 1 _ rfl
      have c2 := (unhide Lz7).z.get 2 _ rfl
      have c3 := (unhide Lz7).z.get 3 _ rfl
      have c4 := (unhide Lz7).z.get 4 _ rfl
      have c5 := (unhide Lz7).z.get 5 _ rfl
      have c6 := (unhide Lz7).z.get 6 _ rfl
      have c7 := (unhide Lz7).z.get 7 _ rfl
      have c8 := (unhide Lz7).z.get 8 _ rfl
      have c9 := (unhide Lz7).z.get 9 _ rfl
      have c10 := (unhide Lz7).z.get 10 _ rfl
      have c11 := (unhide Lz7).z.get 11 _ rfl
      have c12 := (unhide Lz7).z.get 12 _ rfl
      have c13 := (unhide Lz7).z.get 13 _ rfl
      have r0 := (unhide Lz7).r.get 0 _ rfl
      have r1 := (unhide Lz7).r.get 1 _ rfl
      have r2 := (unhide Lz7).r.get 2 _ rfl
      have r3 := (unhide Lz7).r.get 3 _ rfl
      have r4 := (unhide Lz7).r.get 4 _ rfl
      have r5 := (unhide Lz7).r.get 5 _ rfl
      have r6 := (unhide Lz7).r.get 6 _ rfl
      have r7 := (unhide Lz7).r.get 7 _ rfl
      have r8 := (unhide Lz7).r.get 8 _ rfl
      have r9 := (unhide Lz7).r.get 9 _ rfl
      have r10 := (unhide Lz7).r.get 10 _ rfl
      have r11 := (unhide Lz7).r.get 11 _ rfl
      have r12 := (unhide Lz7).r.get 12 _ rfl
      have r13 := (unhide Lz7).r.get 13 _ rfl
      have rf0 := (unhide Lz7).r.free 0
      have rf1 := (unhide Lz7).r.free 1
      have rf2 := (unhide Lz7).r.free 2
      have rf3 := (unhide Lz7).r.free 3
      have rf4 := (unhide Lz7).r.free 4
      have rf5 := (unhide Lz7).r.free 5
      have rf6 := (unhide Lz7).r.free 6
      have rf7 := (unhide Lz7).r.free 7
      have rf8 := (unhide Lz7).r.free 8
      have rf9 := (unhide Lz7).r.free 9
      have rf10 := (unhide Lz7).r.free 10
      have rf11 := (unhide Lz7).r.free 11
      have rf12 := (unhide Lz7).r.free 12
      have rf13 := (unhide Lz7).r.free 13
      go_wp2_with fail
      have bel := fin14_below (unhide Lz7).bel (Nat.le_add_right w.heap.size 1) (.string ty') (.string id) (.string st') (.string ro) (k'.val) (.slice su.a su.l su.c) (.pointer ci) (.pointer nm) (.string ns) (.pointer ar) (.pointer inp) (o'.val) (.slice ts.a ts.l ts.c) (.nilIface)
      have up : Up (hole wc (Own2 w)) (fin14 wc (w.heap.size + 1) (.string ty') (.string id) (.string st') (.string ro) (k'.val) (.slice su.a su.l su.c) (.pointer ci) (.pointer nm) (.string ns) (.pointer ar) (.pointer inp) (o'.val) (.slice ts.a ts.l ts.c) (.nilIface)) := (fin14_up (S := Own2 w) (.inr rfl) _ _ _ _ _ _ _ _ _ _ _ _ _ _).trans (hole_up _ _)
      obtain ⟨pre, okK, lkK, okO, lkO⟩ := unhide Kf3
      refine bodyPost_ret (v := .agg #[.string ty', .string id, .string st', .string ro, k'.val, .slice su.a su.l su.c, .pointer ci, .pointer nm, .string ns, .pointer ar, .pointer inp, o'.val, .slice ts.a ts.l ts.c, .nilIface]) (by simp [results, Try.results9, go_sem, r0, r1, r2, r3, r4, r5, r6, r7, r8, r9, r10, r11, r12, r13]) rfl ⟨k2, k', o', by rw [unhide Hty, unhide Hst], pre.up up, lkK.up up, lkO.up up, okK.up up, okO.up up, bel⟩
end Go.Proofs.Qxb6616371a
