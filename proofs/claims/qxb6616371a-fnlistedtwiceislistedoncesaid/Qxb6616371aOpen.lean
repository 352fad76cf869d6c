/-
  OPENING THE ARGUMENT: an item that reads as data is what the walks are told of memory ('ItemOk'). The depth of the tools is the reading's fuel.
-/
import Derived.Test.Qxb6616371aSize
import Derived.ProofKit
import Derived.OpenShut
import Derived.ChangeOld
namespace Go.Proofs.Qxb6616371a
open Go.RowKit
set_option linter.unusedVariables false

section
variable {H : Type} {enc : TypeId × Value → H} {W : World} {base : Nat} {sp : Nat → Bool} {held : Bool}

/-- It reads as data of type t. -/
def TR (enc : TypeId × Value → H) (W : World) (base : Nat) (sp : Nat → Bool) (held : Bool) (n : Nat) (t : TypeId) (cs : List Value) : Prop := ∃ x, DataW.trod enc Try.prog W base sp held n t cs = some x

theorem cells_row {a : Addr} {n : Nat} {cs : List Value} (h : W.cells? base a n = some cs) (hn : 0 < n) : ∃ b o, a = ⟨b, o, none⟩ ∧ W.rangeAt b o cs ∧ cs.length = n := by
  obtain ⟨_, hl, hc⟩ := World.cells?_some h
  obtain ⟨b, o, s⟩ := a
  have h0 := hc 0 hn
  have hlt : 0 < cs.length := by omega
  rw [List.getElem?_eq_getElem hlt] at h0
  have hs := World.cell?_spot h0
  simp [Addr.add] at hs
  subst hs
  refine ⟨b, o, rfl, fun j v hj => ?_, hl⟩
  have hj' : j < n := by rw [← hl]; exact (List.getElem?_eq_some_iff.1 hj).1
  have := hc j hj'
  rw [hj] at this
  by_cases e : j = 0
  · subst e; simpa [Addr.add] using this
  · simpa [Addr.add, e] using this

theorem pick_fun {α : Type} (d : α) {p : Nat → α → Prop} : ∀ {n : Nat}, (∀ i, i < n → ∃ x, p i x) → ∃ f : Nat → α, ∀ i, i < n → p i (f i)
  | 0, _ => ⟨fun _ => d, fun i hi => absurd hi (Nat.not_lt_zero _)⟩
  | n + 1, h => by
    obtain ⟨f, hf⟩ := pick_fun d (n := n) (fun i hi => h i (by omega))
    obtain ⟨x, hx⟩ := h n (by omega)
    refine ⟨fun i => if i = n then x else f i, fun i hi => ?_⟩
    by_cases e : i = n
    · subst e; simp only [if_true]; exact hx
    · simp only [if_neg e]; exact hf i (by omega)

/-- A slice whose elements are k cells. -/
theorem slice_rows {n k : Nat} {t e : TypeId} {cs : List Value} (ht : Try.prog.underlying t = some (.slice e)) (hk : Try.prog.cellsOf e = k) (h0 : 0 < k) (h : TR enc W base sp held n t cs) :
    ∃ r : Raw, cs = [r.val] ∧ r.l ≤ maxLen ∧ ∃ m, n = m + 1 ∧ ∀ i, i < r.l → ∃ b off cs', r.a = some ⟨b, off, none⟩ ∧ W.rangeAt b (off + i * k) cs' ∧ cs'.length = k ∧ TR enc W base sp held m e cs' := by
  obtain ⟨x, hx⟩ := h
  cases n with
  | zero => simp [DataW.trod] at hx
  | succ m =>
    rcases DataW.trod_slice ht hx with ⟨rfl, _⟩ | ⟨a, len, cap, elems, rest, m', hm, rfl, _, _, hlc, hcm, hel, hget, _, _⟩
    · exact ⟨⟨none, 0, 0⟩, rfl, Nat.zero_le _, m, rfl, fun i hi => absurd hi (Nat.not_lt_zero _)⟩
    · obtain rfl : m = m' := by omega
      refine ⟨⟨some a, len, cap⟩, rfl, Nat.le_trans hlc hcm, m, rfl, ?_⟩
      have key : ∀ i, i < len → ∃ cs', W.cells? base (a.add (i * k)) k = some cs' ∧ TR enc W base sp held m e cs' := fun i hi => by
        have h1 := hget i hi
        rw [hk, List.getElem?_eq_getElem (by omega)] at h1
        obtain ⟨cs', h2, h3⟩ := Option.bind_eq_some_iff.1 h1
        exact ⟨cs', h2, _, h3⟩
      intro i hi
      obtain ⟨b, off, hs⟩ : ∃ b off, a = ⟨b, off, none⟩ := by
        obtain ⟨cs', h2, _⟩ := key 0 (Nat.lt_of_le_of_lt (Nat.zero_le _) hi)
        obtain ⟨b, o, e1, _⟩ := cells_row h2 h0
        exact ⟨b, o, by simpa [Addr.add] using e1⟩
      subst hs
      obtain ⟨cs', h2, h3⟩ := key i hi
      obtain ⟨b', o', e1, hr, hl⟩ := cells_row h2 h0
      refine ⟨b, off, cs', rfl, ?_, hl, h3⟩
      by_cases ei : i * k = 0
      · simp [Addr.add, ei] at e1
        obtain ⟨rfl, rfl⟩ := e1
        rw [ei]; exact hr
      · simp [Addr.add, ei] at e1
        obtain ⟨rfl, rfl⟩ := e1
        exact hr

theorem struct_flds {n : Nat} {t : TypeId} {fs : Array Field} {cs : List Value} (ht : Try.prog.underlying t = some (.struct fs)) (h : TR enc W base sp held n t cs) :
    cs.length = Try.prog.cellsOf t ∧ ∃ m, n = m + 1 ∧ ∀ (i : Nat) (f : Field), fs[i]? = some f → TR enc W base sp held m f.type ((cs.drop f.offset).take (Try.prog.cellsOf f.type)) := by
  obtain ⟨x, hx⟩ := h
  obtain ⟨xs, m, hm, _, hl, hxs, hf⟩ := DataW.trod_struct ht hx
  refine ⟨hl, m, hm, fun i f hi => ?_⟩
  have h1 := hf i f hi
  have hlt : i < xs.length := by rw [hxs]; exact (Array.getElem?_eq_some_iff.1 hi).1
  rw [List.getElem?_eq_getElem hlt] at h1
  exact ⟨_, h1⟩

theorem fld1 {m : Nat} {fs : Array Field} {cs cs' : List Value} {ty : TypeId} (hf : ∀ (i : Nat) (f : Field), fs[i]? = some f → TR enc W base sp held m f.type ((cs.drop f.offset).take (Try.prog.cellsOf f.type)))
    (i : Nat) (f : Field) (hi : fs[i]? = some f) (ht : f.type = ty) (hc : Try.prog.cellsOf ty = 1) (hd : (cs.drop f.offset).take 1 = cs') : TR enc W base sp held m ty cs' := by
  have := hf i f hi
  rw [ht, hc, hd] at this
  exact this

theorem cells9 : Try.prog.cellsOf 9 = 1 := by kernel_rfl
theorem cells27 : Try.prog.cellsOf 27 = 1 := by kernel_rfl
theorem cells35 : Try.prog.cellsOf 35 = 1 := by kernel_rfl
theorem cells36 : Try.prog.cellsOf 36 = 1 := by kernel_rfl
theorem cells37 : Try.prog.cellsOf 37 = 1 := by kernel_rfl
theorem cells39 : Try.prog.cellsOf 39 = 13 := by kernel_rfl
theorem cells49 : Try.prog.cellsOf 49 = 2 := by kernel_rfl
theorem cells83 : Try.prog.cellsOf 83 = 7 := by kernel_rfl
theorem cells90 : Try.prog.cellsOf 90 = 8 := by kernel_rfl
theorem cells81 : Try.prog.cellsOf 81 = 1 := by kernel_rfl
theorem cells87 : Try.prog.cellsOf 87 = 1 := by kernel_rfl
theorem cells74 : Try.prog.cellsOf 74 = 1 := by kernel_rfl
theorem cells88 : Try.prog.cellsOf 88 = 1 := by kernel_rfl
theorem cells91 : Try.prog.cellsOf 91 = 1 := by kernel_rfl
theorem cells93 : Try.prog.cellsOf 93 = 3 := by kernel_rfl
theorem cells5 : Try.prog.cellsOf 5 = 1 := by kernel_rfl

theorem str_at {n : Nat} {c : Value} (h : TR enc W base sp held n 9 [c]) : ∃ s : ByteArray, c = .string s ∧ s.size ≤ maxLen := by
  obtain ⟨x, hx⟩ := h
  obtain ⟨s, e, _, hs⟩ := DataW.trod_string Try.underlying9 hx
  exact ⟨s, by simpa using e, hs⟩

theorem strp_at {n : Nat} {c : Value} (h : TR enc W base sp held n 27 [c]) : ∃ p, c = .pointer p ∧ StrP W p := by
  obtain ⟨x, hx⟩ := h
  rcases DataW.trod_pointer Try.underlying27 hx with ⟨e, _⟩ | ⟨a, cs', y, m, _, e, _, hc, hy⟩
  · exact ⟨none, by simpa using e, StrP.none _⟩
  · refine ⟨some a, by simpa using e, fun a' ea => ?_⟩
    obtain rfl : a = a' := by simpa using ea
    obtain ⟨s, rfl, _, hs⟩ := DataW.trod_string Try.underlying9 hy
    rw [cells9] at hc
    exact ⟨s, Go.ChangeShapes.cell_of_cells?_one hc, hs⟩

theorem ptr_at {n : Nat} {t e : TypeId} {c : Value} (ht : Try.prog.underlying t = some (.pointer e)) (h : TR enc W base sp held n t [c]) :
    ∃ p, c = .pointer p ∧ ∀ a, p = some a → ∃ cs' m, W.cells? base a (Try.prog.cellsOf e) = some cs' ∧ TR enc W base sp held m e cs' := by
  obtain ⟨x, hx⟩ := h
  rcases DataW.trod_pointer ht hx with ⟨e, _⟩ | ⟨a, cs', y, m, _, e, _, hc, hy⟩
  · exact ⟨none, by simpa using e, fun a ea => absurd ea (by simp)⟩
  · refine ⟨some a, by simpa using e, fun a' ea => ?_⟩
    obtain rfl : a = a' := by simpa using ea
    exact ⟨cs', m, hc, _, hy⟩

theorem bytes_at {n : Nat} {c : Value} (h : TR enc W base sp held n 91 [c]) : ∃ r : Raw, c = r.val ∧ BytesAt W r := by
  obtain ⟨r, e, hl, m, _, hg⟩ := slice_rows Try.underlying91 cells5 (by omega) h
  refine ⟨r, by simpa using e, hl, fun i hi => ?_⟩
  obtain ⟨b, off, cs', ea, hr, hl', x, hx⟩ := hg i hi
  obtain ⟨z, rfl, _⟩ := DataW.trod_int Try.underlying5 hx
  refine ⟨b, off, z, ea, ?_⟩
  have := hr 0 _ rfl
  simpa using this

def raw0 : Raw := ⟨none, 0, 0⟩
def part0 : PartV := ⟨⟨#[]⟩, none, none, none, none, ⟨none, 0, 0⟩, ⟨none, 0, 0⟩, fun _ => ⟨none, 0, 0⟩, fun _ => ⟨none, 0, 0⟩⟩

theorem raws_at {n : Nat} {c : Value} (h : TR enc W base sp held n 81 [c]) : ∃ (r : Raw) (rv : Nat → Raw), c = r.val ∧ RawsAt W r rv := by
  obtain ⟨r, e, hl, m, _, hg⟩ := slice_rows Try.underlying81 cells91 (by omega) h
  obtain ⟨rv, hrv⟩ := pick_fun raw0 (p := fun i q => ∃ b off, r.a = some ⟨b, off, none⟩ ∧ W.cell? ⟨b, off + i, none⟩ = some q.val ∧ BytesAt W q) (n := r.l) (fun i hi => by
    obtain ⟨b, off, cs', ea, hr, hl', hx⟩ := hg i hi
    obtain ⟨c', rfl⟩ : ∃ c', cs' = [c'] := List.length_eq_one_iff.1 hl'
    obtain ⟨q, rfl, hq⟩ := bytes_at hx
    exact ⟨q, b, off, ea, by simpa using hr 0 _ rfl, hq⟩)
  exact ⟨r, rv, by simpa using e, hl, hrv⟩

theorem part_at {n : Nat} {cs : List Value} (h : TR enc W base sp held n 83 cs) : ∃ p : PartV, cs = p.cells ∧ PartOk W p := by
  obtain ⟨hl, m, hm, hf⟩ := struct_flds Try.underlying83 h
  rw [cells83] at hl
  obtain ⟨c0, c1, c2, c3, c4, c5, c6, rfl⟩ : ∃ c0 c1 c2 c3 c4 c5 c6, cs = [c0, c1, c2, c3, c4, c5, c6] := by
    obtain _ | ⟨c0, cs⟩ := cs
    · simp at hl
    obtain _ | ⟨c1, cs⟩ := cs
    · simp at hl
    obtain _ | ⟨c2, cs⟩ := cs
    · simp at hl
    obtain _ | ⟨c3, cs⟩ := cs
    · simp at hl
    obtain _ | ⟨c4, cs⟩ := cs
    · simp at hl
    obtain _ | ⟨c5, cs⟩ := cs
    · simp at hl
    obtain _ | ⟨c6, cs⟩ := cs
    · simp at hl
    obtain _ | ⟨cx, cs⟩ := cs
    · exact ⟨c0, c1, c2, c3, c4, c5, c6, rfl⟩
    · simp at hl
  have f0 : TR enc W base sp held m 9 [c0] := fld1 hf 0 _ rfl rfl cells9 rfl
  obtain ⟨ty, rfl, l0⟩ := str_at f0
  have f1 : TR enc W base sp held m 27 [c1] := fld1 hf 1 _ rfl rfl cells27 rfl
  obtain ⟨tx, rfl, l1⟩ := strp_at f1
  have f2 : TR enc W base sp held m 27 [c2] := fld1 hf 2 _ rfl rfl cells27 rfl
  obtain ⟨rf, rfl, l2⟩ := strp_at f2
  have f3 : TR enc W base sp held m 27 [c3] := fld1 hf 3 _ rfl rfl cells27 rfl
  obtain ⟨im, rfl, l3⟩ := strp_at f3
  have f4 : TR enc W base sp held m 27 [c4] := fld1 hf 4 _ rfl rfl cells27 rfl
  obtain ⟨dt, rfl, l4⟩ := strp_at f4
  have f5 : TR enc W base sp held m 81 [c5] := fld1 hf 5 _ rfl rfl cells81 rfl
  obtain ⟨an, ar, rfl, l5⟩ := raws_at f5
  have f6 : TR enc W base sp held m 81 [c6] := fld1 hf 6 _ rfl rfl cells81 rfl
  obtain ⟨lp, lr, rfl, l6⟩ := raws_at f6
  exact ⟨⟨ty, tx, rf, im, dt, an, lp, ar, lr⟩, rfl, ⟨l0, l1, l2, l3, l4, l5, l6⟩⟩

theorem parts_at {n : Nat} {c : Value} (h : TR enc W base sp held n 36 [c]) : ∃ (r : Raw) (pv : Nat → PartV), c = r.val ∧ PartsAt W r pv := by
  obtain ⟨r, e, hl, m, _, hg⟩ := slice_rows Try.underlying36 cells83 (by omega) h
  obtain ⟨pv, hpv⟩ := pick_fun part0 (p := fun i q => ∃ b off, r.a = some ⟨b, off, none⟩ ∧ W.rangeAt b (off + i * 7) q.cells ∧ PartOk W q) (n := r.l) (fun i hi => by
    obtain ⟨b, off, cs', ea, hr, hl', hx⟩ := hg i hi
    obtain ⟨q, rfl, hq⟩ := part_at hx
    exact ⟨q, b, off, ea, hr, hq⟩)
  exact ⟨r, pv, by simpa using e, hl, hpv⟩

theorem content_flds {n : Nat} {cs : List Value} (h : TR enc W base sp held n 49 cs) : ∃ tx ps pv, cs = [.pointer tx, Raw.val ps] ∧ StrP W tx ∧ PartsAt W ps pv := by
  obtain ⟨hl, m, hm, hf⟩ := struct_flds Try.underlying49 h
  rw [cells49] at hl
  obtain ⟨c0, c1, rfl⟩ : ∃ c0 c1, cs = [c0, c1] := by
    obtain _ | ⟨c0, cs⟩ := cs
    · simp at hl
    obtain _ | ⟨c1, cs⟩ := cs
    · simp at hl
    obtain _ | ⟨cx, cs⟩ := cs
    · exact ⟨c0, c1, rfl⟩
    · simp at hl
  have f0 : TR enc W base sp held m 27 [c0] := fld1 hf 0 _ rfl rfl cells27 rfl
  obtain ⟨tx, rfl, l0⟩ := strp_at f0
  have f1 : TR enc W base sp held m 36 [c1] := fld1 hf 1 _ rfl rfl cells36 rfl
  obtain ⟨ps, pv, rfl, l1⟩ := parts_at f1
  exact ⟨tx, ps, pv, rfl, l0, l1⟩

theorem content_at {n : Nat} {c : Value} (h : TR enc W base sp held n 35 [c]) : ∃ (p tx : Option Addr) (ps : Raw) (pv : Nat → PartV), c = .pointer p ∧ ContentAt W p tx ps pv := by
  obtain ⟨p, rfl, hp⟩ := ptr_at Try.underlying35 h
  cases p with
  | none => exact ⟨none, none, ⟨none, 0, 0⟩, fun _ => part0, rfl, fun a ea => absurd ea (by simp)⟩
  | some a =>
    obtain ⟨cs', m, hc, hx⟩ := hp a rfl
    rw [cells49] at hc
    obtain ⟨b, o, rfl, hr, _⟩ := cells_row hc (by omega)
    obtain ⟨tx, ps, pv, rfl, l0, l1⟩ := content_flds hx
    refine ⟨some ⟨b, o, none⟩, tx, ps, pv, rfl, fun a' ea => ?_⟩
    obtain rfl : (⟨b, o, none⟩ : Addr) = a' := by simpa using ea
    exact ⟨b, o, rfl, by simpa using hr 0 _ rfl, hr 1 _ rfl, l0, l1⟩

theorem format_flds {n : Nat} {cs : List Value} (h : TR enc W base sp held n 93 cs) : ∃ s0 s1 s2 : ByteArray, cs = [.string s0, .string s1, .string s2] ∧ s0.size ≤ maxLen ∧ s1.size ≤ maxLen ∧ s2.size ≤ maxLen := by
  obtain ⟨hl, m, hm, hf⟩ := struct_flds Try.underlying93 h
  rw [cells93] at hl
  obtain ⟨c0, c1, c2, rfl⟩ : ∃ c0 c1 c2, cs = [c0, c1, c2] := by
    obtain _ | ⟨c0, cs⟩ := cs
    · simp at hl
    obtain _ | ⟨c1, cs⟩ := cs
    · simp at hl
    obtain _ | ⟨c2, cs⟩ := cs
    · simp at hl
    obtain _ | ⟨cx, cs⟩ := cs
    · exact ⟨c0, c1, c2, rfl⟩
    · simp at hl
  have f0 : TR enc W base sp held m 9 [c0] := fld1 hf 0 _ rfl rfl cells9 rfl
  obtain ⟨s0, rfl, l0⟩ := str_at f0
  have f1 : TR enc W base sp held m 9 [c1] := fld1 hf 1 _ rfl rfl cells9 rfl
  obtain ⟨s1, rfl, l1⟩ := str_at f1
  have f2 : TR enc W base sp held m 9 [c2] := fld1 hf 2 _ rfl rfl cells9 rfl
  obtain ⟨s2, rfl, l2⟩ := str_at f2
  exact ⟨s0, s1, s2, rfl, l0, l1, l2⟩

theorem tool_at {n : Nat} {cs : List Value} (h : TR enc W base sp held n 90 cs) : ∃ t : ToolV, cs = t.cells ∧ ToolOk W t ∧ ∃ m, n = m + 1 ∧ TR enc W base sp held m 37 [t.ts.val] := by
  obtain ⟨hl, m, hm, hf⟩ := struct_flds Try.underlying90 h
  rw [cells90] at hl
  obtain ⟨c0, c1, c2, c3, c4, c5, c6, c7, rfl⟩ : ∃ c0 c1 c2 c3 c4 c5 c6 c7, cs = [c0, c1, c2, c3, c4, c5, c6, c7] := by
    obtain _ | ⟨c0, cs⟩ := cs
    · simp at hl
    obtain _ | ⟨c1, cs⟩ := cs
    · simp at hl
    obtain _ | ⟨c2, cs⟩ := cs
    · simp at hl
    obtain _ | ⟨c3, cs⟩ := cs
    · simp at hl
    obtain _ | ⟨c4, cs⟩ := cs
    · simp at hl
    obtain _ | ⟨c5, cs⟩ := cs
    · simp at hl
    obtain _ | ⟨c6, cs⟩ := cs
    · simp at hl
    obtain _ | ⟨c7, cs⟩ := cs
    · simp at hl
    obtain _ | ⟨cx, cs⟩ := cs
    · exact ⟨c0, c1, c2, c3, c4, c5, c6, c7, rfl⟩
    · simp at hl
  have f0 : TR enc W base sp held m 9 [c0] := fld1 hf 0 _ rfl rfl cells9 rfl
  obtain ⟨ty, rfl, l0⟩ := str_at f0
  have f1 : TR enc W base sp held m 9 [c1] := fld1 hf 1 _ rfl rfl cells9 rfl
  obtain ⟨nm, rfl, l1⟩ := str_at f1
  have f2 : TR enc W base sp held m 9 [c2] := fld1 hf 2 _ rfl rfl cells9 rfl
  obtain ⟨ns, rfl, l2⟩ := str_at f2
  have f3 : TR enc W base sp held m 27 [c3] := fld1 hf 3 _ rfl rfl cells27 rfl
  obtain ⟨de, rfl, l3⟩ := strp_at f3
  have f4 : TR enc W base sp held m 87 [c4] := fld1 hf 4 _ rfl rfl cells87 rfl
  obtain ⟨pa, rfl, l4⟩ := ptr_at Try.underlying87 f4
  have f5 : TR enc W base sp held m 74 [c5] := fld1 hf 5 _ rfl rfl cells74 rfl
  obtain ⟨st, rfl, l5⟩ := ptr_at Try.underlying74 f5
  have f6 : TR enc W base sp held m 88 [c6] := fld1 hf 6 _ rfl rfl cells88 rfl
  obtain ⟨fo, rfl, l6⟩ := ptr_at Try.underlying88 f6
  have f7 : TR enc W base sp held m 37 [c7] := fld1 hf 7 _ rfl rfl cells37 rfl
  obtain ⟨ts, e7, _⟩ := slice_rows Try.underlying37 cells90 (by omega) f7
  obtain rfl : c7 = ts.val := by simpa using e7
  refine ⟨⟨ty, nm, ns, de, pa, st, fo, ts⟩, rfl, ⟨l0, l1, l2, l3, fun a ea => ?_, fun a ea => ?_⟩, m, hm, f7⟩
  · obtain ⟨cs', m', hc, hx⟩ := l4 a ea
    rw [cells91] at hc
    obtain ⟨b, o, rfl, hr, hl'⟩ := cells_row hc (by omega)
    obtain ⟨c', rfl⟩ : ∃ c', cs' = [c'] := List.length_eq_one_iff.1 hl'
    obtain ⟨q, rfl, hq⟩ := bytes_at hx
    exact ⟨q, by simpa using hr 0 _ rfl, hq.1⟩
  · obtain ⟨cs', m', hc, hx⟩ := l6 a ea
    rw [cells93] at hc
    obtain ⟨b, o, rfl, hr, hl'⟩ := cells_row hc (by omega)
    obtain ⟨s0, s1, s2, rfl, k0, k1, k2⟩ := format_flds hx
    exact ⟨b, o, rfl, s0, s1, s2, by simpa using hr 0 _ rfl, hr 1 _ rfl, hr 2 _ rfl, k0, k1, k2⟩

theorem ToolsOk.succ : ∀ {d : Nat} {s : Raw}, ToolsOk d W s → ToolsOk (d + 1) W s
  | 0, _, h => h.elim
  | d + 1, s, h => ⟨h.1, fun i hi => let ⟨b, off, t, e, hr, ho, hn⟩ := h.2 i hi; ⟨b, off, t, e, hr, ho, ToolsOk.succ hn⟩⟩

theorem tools_at : ∀ {n : Nat} {c : Value}, TR enc W base sp held n 37 [c] → ∃ r : Raw, c = r.val ∧ ToolsOk n W r := by
  intro n
  induction n using Nat.strongRecOn with
  | ind n ih =>
    intro c h
    obtain ⟨r, e, hl, m, hm, hg⟩ := slice_rows Try.underlying37 cells90 (by omega) h
    subst hm
    refine ⟨r, by simpa using e, hl, fun i hi => ?_⟩
    obtain ⟨b, off, cs', ea, hr, hl', hx⟩ := hg i hi
    obtain ⟨t, rfl, ht, m', hm', ht'⟩ := tool_at hx
    subst hm'
    obtain ⟨r', er, hr'⟩ := ih m' (by omega) ht'
    have er' : t.ts = r' := by
      obtain ⟨a0, l0, c0⟩ := r'
      generalize t.ts = q at er
      obtain ⟨a1, l1, c1⟩ := q
      simp [Raw.val] at er
      obtain ⟨rfl, rfl, rfl⟩ := er
      rfl
    exact ⟨b, off, t, ea, hr, ht, by rw [er']; exact hr'.succ⟩

theorem item_at {n : Nat} {cs : List Value} (h : TR enc W base sp held n 39 cs) : ∃ (d : Nat) (t : ItemV), cs = t.cells ∧ ItemOk d W t := by
  obtain ⟨hl, m, hm, hf⟩ := struct_flds Try.underlying39 h
  rw [cells39] at hl
  obtain ⟨c0, c1, c2, c3, c4, c5, c6, c7, c8, c9, c10, c11, c12, rfl⟩ : ∃ c0 c1 c2 c3 c4 c5 c6 c7 c8 c9 c10 c11 c12, cs = [c0, c1, c2, c3, c4, c5, c6, c7, c8, c9, c10, c11, c12] := by
    obtain _ | ⟨c0, cs⟩ := cs
    · simp at hl
    obtain _ | ⟨c1, cs⟩ := cs
    · simp at hl
    obtain _ | ⟨c2, cs⟩ := cs
    · simp at hl
    obtain _ | ⟨c3, cs⟩ := cs
    · simp at hl
    obtain _ | ⟨c4, cs⟩ := cs
    · simp at hl
    obtain _ | ⟨c5, cs⟩ := cs
    · simp at hl
    obtain _ | ⟨c6, cs⟩ := cs
    · simp at hl
    obtain _ | ⟨c7, cs⟩ := cs
    · simp at hl
    obtain _ | ⟨c8, cs⟩ := cs
    · simp at hl
    obtain _ | ⟨c9, cs⟩ := cs
    · simp at hl
    obtain _ | ⟨c10, cs⟩ := cs
    · simp at hl
    obtain _ | ⟨c11, cs⟩ := cs
    · simp at hl
    obtain _ | ⟨c12, cs⟩ := cs
    · simp at hl
    obtain _ | ⟨cx, cs⟩ := cs
    · exact ⟨c0, c1, c2, c3, c4, c5, c6, c7, c8, c9, c10, c11, c12, rfl⟩
    · simp at hl
  have f0 : TR enc W base sp held m 9 [c0] := fld1 hf 0 _ rfl rfl cells9 rfl
  obtain ⟨ty, rfl, l0⟩ := str_at f0
  have f1 : TR enc W base sp held m 9 [c1] := fld1 hf 1 _ rfl rfl cells9 rfl
  obtain ⟨id, rfl, l1⟩ := str_at f1
  have f2 : TR enc W base sp held m 9 [c2] := fld1 hf 2 _ rfl rfl cells9 rfl
  obtain ⟨st, rfl, l2⟩ := str_at f2
  have f3 : TR enc W base sp held m 9 [c3] := fld1 hf 3 _ rfl rfl cells9 rfl
  obtain ⟨ro, rfl, l3⟩ := str_at f3
  have f4 : TR enc W base sp held m 35 [c4] := fld1 hf 4 _ rfl rfl cells35 rfl
  obtain ⟨co, ctx, cps, cpv, rfl, l4⟩ := content_at f4
  have f5 : TR enc W base sp held m 36 [c5] := fld1 hf 5 _ rfl rfl cells36 rfl
  obtain ⟨su, spv, rfl, l5⟩ := parts_at f5
  have f6 : TR enc W base sp held m 27 [c6] := fld1 hf 6 _ rfl rfl cells27 rfl
  obtain ⟨ci, rfl, l6⟩ := strp_at f6
  have f7 : TR enc W base sp held m 27 [c7] := fld1 hf 7 _ rfl rfl cells27 rfl
  obtain ⟨nm, rfl, l7⟩ := strp_at f7
  have f8 : TR enc W base sp held m 9 [c8] := fld1 hf 8 _ rfl rfl cells9 rfl
  obtain ⟨ns, rfl, l8⟩ := str_at f8
  have f9 : TR enc W base sp held m 27 [c9] := fld1 hf 9 _ rfl rfl cells27 rfl
  obtain ⟨ar, rfl, l9⟩ := strp_at f9
  have f10 : TR enc W base sp held m 27 [c10] := fld1 hf 10 _ rfl rfl cells27 rfl
  obtain ⟨inp, rfl, l10⟩ := strp_at f10
  have f11 : TR enc W base sp held m 35 [c11] := fld1 hf 11 _ rfl rfl cells35 rfl
  obtain ⟨ou, otx, ops, opv, rfl, l11⟩ := content_at f11
  have f12 : TR enc W base sp held m 37 [c12] := fld1 hf 12 _ rfl rfl cells37 rfl
  obtain ⟨ts, rfl, l12⟩ := tools_at f12
  exact ⟨_, ⟨ty, id, st, ro, co, su, ci, nm, ns, ar, inp, ou, ts, ctx, cps, cpv, spv, otx, ops, opv⟩, rfl, ⟨l0, l1, l2, l3, l8, l4, l5, l6, l7, l9, l10, l11, l12⟩⟩

end
end Go.Proofs.Qxb6616371a
