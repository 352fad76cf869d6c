/-
  WHAT THE WALKS ARE TOLD OF MEMORY: strings behind pointers, lists of raw bytes, parts, tools, contents, the item; boxes and rows of the call's own. No walk here.
-/
import Derived.Test.Qxb6616371aOps
import Derived.ProofKit
import Derived.OpenShut
import Derived.ChangeOld
import Derived.Deep.MidRow
import Derived.Deep.WholeRow
namespace Go.Proofs.Qxb6616371a
open Go.RowKit
set_option linter.unusedVariables false

theorem hide {p : Prop} (h : p) : Hid p := h
theorem unhide {p : Prop} (h : Hid p) : p := h

theorem lt_of_cell {w : World} {a : Addr} {v : Value} (h : w.cell? a = some v) : a.block < w.heap.size := by
  rcases Nat.lt_or_ge a.block w.heap.size with h1 | h1
  · exact h1
  · simp [World.cell?, Array.getElem?_eq_none h1] at h

/-- A cell that is there stays as it was. -/
theorem Below.keep {w w' : World} (hb : Below w.heap.size w w') {a : Addr} {v : Value} (h : w.cell? a = some v) : w'.cell? a = some v := by
  rw [hb.cell (lt_of_cell h)]; exact h

/-! ### What came in -/
/-- A slice value. -/
structure Raw where
  a : Option Addr
  l : Nat
  c : Nat
def Raw.val (r : Raw) : Value := .slice r.a r.l r.c

/-- A slice of bytes. -/
def BytesAt (w : World) (r : Raw) : Prop := r.l ≤ maxLen ∧ ∀ i, i < r.l → ∃ b off z, r.a = some ⟨b, off, none⟩ ∧ w.cell? ⟨b, off + i, none⟩ = some (.int .u8 z)

/-- A slice of slices of bytes. -/
def RawsAt (w : World) (s : Raw) (rv : Nat → Raw) : Prop := s.l ≤ maxLen ∧ ∀ i, i < s.l → ∃ b off, s.a = some ⟨b, off, none⟩ ∧ w.cell? ⟨b, off + i, none⟩ = some (rv i).val ∧ BytesAt w (rv i)

/-- A pointer to a string. -/
def StrP (w : World) (p : Option Addr) : Prop := ∀ a, p = some a → ∃ s : ByteArray, w.cell? a = some (.string s) ∧ s.size ≤ maxLen

/-- A part. 'ar', 'lr': what its two lists hold. -/
structure PartV where
  ty : ByteArray
  tx : Option Addr
  rf : Option Addr
  im : Option Addr
  dt : Option Addr
  an : Raw
  lp : Raw
  ar : Nat → Raw
  lr : Nat → Raw
def PartV.cells (p : PartV) : List Value := [.string p.ty, .pointer p.tx, .pointer p.rf, .pointer p.im, .pointer p.dt, p.an.val, p.lp.val]

structure PartOk (w : World) (p : PartV) : Prop where
  ty : p.ty.size ≤ maxLen
  tx : StrP w p.tx
  rf : StrP w p.rf
  im : StrP w p.im
  dt : StrP w p.dt
  an : RawsAt w p.an p.ar
  lp : RawsAt w p.lp p.lr

/-- A slice of parts. -/
def PartsAt (w : World) (s : Raw) (pv : Nat → PartV) : Prop := s.l ≤ maxLen ∧ ∀ i, i < s.l → ∃ b off, s.a = some ⟨b, off, none⟩ ∧ w.rangeAt b (off + i * 7) (pv i).cells ∧ PartOk w (pv i)

structure ToolV where
  ty : ByteArray
  nm : ByteArray
  ns : ByteArray
  de : Option Addr
  pa : Option Addr
  st : Option Addr
  fo : Option Addr
  ts : Raw
def ToolV.cells (t : ToolV) : List Value := [.string t.ty, .string t.nm, .string t.ns, .pointer t.de, .pointer t.pa, .pointer t.st, .pointer t.fo, t.ts.val]

structure ToolOk (w : World) (t : ToolV) : Prop where
  ty : t.ty.size ≤ maxLen
  nm : t.nm.size ≤ maxLen
  ns : t.ns.size ≤ maxLen
  de : StrP w t.de
  pa : ∀ a, t.pa = some a → ∃ r : Raw, w.cell? a = some r.val ∧ r.l ≤ maxLen
  fo : ∀ a, t.fo = some a → ∃ b o, a = ⟨b, o, none⟩ ∧ ∃ s0 s1 s2 : ByteArray, w.cell? ⟨b, o, none⟩ = some (.string s0) ∧ w.cell? ⟨b, o + 1, none⟩ = some (.string s1) ∧ w.cell? ⟨b, o + 2, none⟩ = some (.string s2) ∧ s0.size ≤ maxLen ∧ s1.size ≤ maxLen ∧ s2.size ≤ maxLen

/-- A slice of tools, tools in tools down to depth d. -/
def ToolsOk : Nat → World → Raw → Prop
  | 0, _, _ => False
  | d + 1, w, s => s.l ≤ maxLen ∧ ∀ i, i < s.l → ∃ b off t, s.a = some ⟨b, off, none⟩ ∧ w.rangeAt b (off + i * 8) (ToolV.cells t) ∧ ToolOk w t ∧ ToolsOk d w t.ts
/-- .. each list within the bound. -/
def ToolsFit : Nat → World → Raw → Prop
  | 0, _, _ => False
  | d + 1, w, s => s.l ≤ 1048576 ∧ ∀ i, i < s.l → ∃ b off t, s.a = some ⟨b, off, none⟩ ∧ w.rangeAt b (off + i * 8) (ToolV.cells t) ∧ ToolOk w t ∧ ToolsFit d w t.ts

/-- A pointer to a content. -/
def ContentAt (w : World) (p : Option Addr) (tx : Option Addr) (ps : Raw) (pv : Nat → PartV) : Prop :=
  ∀ a, p = some a → ∃ b o, a = ⟨b, o, none⟩ ∧ w.cell? ⟨b, o, none⟩ = some (.pointer tx) ∧ w.cell? ⟨b, o + 1, none⟩ = some ps.val ∧ StrP w tx ∧ PartsAt w ps pv

/-! ### All of it stays when only new blocks are made -/
theorem BytesAt.step {w w' : World} {r : Raw} (h : BytesAt w r) (hb : Below w.heap.size w w') : BytesAt w' r :=
  ⟨h.1, fun i hi => let ⟨b, off, z, e, hc⟩ := h.2 i hi; ⟨b, off, z, e, Below.keep hb hc⟩⟩
theorem RawsAt.step {w w' : World} {s : Raw} {rv : Nat → Raw} (h : RawsAt w s rv) (hb : Below w.heap.size w w') : RawsAt w' s rv :=
  ⟨h.1, fun i hi => let ⟨b, off, e, hc, hy⟩ := h.2 i hi; ⟨b, off, e, Below.keep hb hc, hy.step hb⟩⟩
theorem StrP.step {w w' : World} {p : Option Addr} (h : StrP w p) (hb : Below w.heap.size w w') : StrP w' p :=
  fun a e => let ⟨s, hc, hs⟩ := h a e; ⟨s, Below.keep hb hc, hs⟩
theorem StrP.none (w : World) : StrP w none := fun _ e => absurd e (by simp)
theorem PartOk.step {w w' : World} {p : PartV} (h : PartOk w p) (hb : Below w.heap.size w w') : PartOk w' p :=
  ⟨h.ty, h.tx.step hb, h.rf.step hb, h.im.step hb, h.dt.step hb, h.an.step hb, h.lp.step hb⟩
theorem rangeAt_step {w w' : World} {b o : Nat} {cs : List Value} (h : w.rangeAt b o cs) (hb : Below w.heap.size w w') : w'.rangeAt b o cs :=
  fun j v hv => Below.keep hb (h j v hv)
theorem PartsAt.step {w w' : World} {s : Raw} {pv : Nat → PartV} (h : PartsAt w s pv) (hb : Below w.heap.size w w') : PartsAt w' s pv :=
  ⟨h.1, fun i hi => let ⟨b, off, e, hr, ho⟩ := h.2 i hi; ⟨b, off, e, rangeAt_step hr hb, ho.step hb⟩⟩
theorem ToolOk.step {w w' : World} {t : ToolV} (h : ToolOk w t) (hb : Below w.heap.size w w') : ToolOk w' t :=
  ⟨h.ty, h.nm, h.ns, h.de.step hb, fun a e => let ⟨r, hc, hl⟩ := h.pa a e; ⟨r, Below.keep hb hc, hl⟩,
   fun a e => let ⟨b, o, ea, s0, s1, s2, h0, h1, h2, l⟩ := h.fo a e; ⟨b, o, ea, s0, s1, s2, Below.keep hb h0, Below.keep hb h1, Below.keep hb h2, l⟩⟩
theorem ToolsOk.step {w w' : World} (hb : Below w.heap.size w w') : ∀ {d : Nat} {s : Raw}, ToolsOk d w s → ToolsOk d w' s
  | 0, _, h => h.elim
  | d + 1, s, h => ⟨h.1, fun i hi => let ⟨b, off, t, e, hr, ho, hn⟩ := h.2 i hi; ⟨b, off, t, e, rangeAt_step hr hb, ho.step hb, ToolsOk.step hb hn⟩⟩
theorem ToolsFit.step {w w' : World} (hb : Below w.heap.size w w') : ∀ {d : Nat} {s : Raw}, ToolsFit d w s → ToolsFit d w' s
  | 0, _, h => h.elim
  | d + 1, s, h => ⟨h.1, fun i hi => let ⟨b, off, t, e, hr, ho, hn⟩ := h.2 i hi; ⟨b, off, t, e, rangeAt_step hr hb, ho.step hb, ToolsFit.step hb hn⟩⟩
theorem ContentAt.step {w w' : World} {p tx : Option Addr} {ps : Raw} {pv : Nat → PartV} (h : ContentAt w p tx ps pv) (hb : Below w.heap.size w w') : ContentAt w' p tx ps pv :=
  fun a e => let ⟨b, o, ea, h0, h1, hs, hp⟩ := h a e; ⟨b, o, ea, Below.keep hb h0, Below.keep hb h1, hs.step hb, hp.step hb⟩

/-! ### Boxes of the call's own -/
/-- Block b holds the cells cs, and may be written. -/
structure BoxAt (W : World) (b : Nat) (cs : List Value) : Prop where
  size : b < W.heap.size
  free : ∀ o, W.frozen? ⟨b, o, none⟩ = false
  get : ∀ j v, cs[j]? = some v → W.cell? ⟨b, j, none⟩ = some v

theorem BoxAt.made (W : World) (cs : List Value) (t : TypeId) : BoxAt (W.alloc (.cells cs.toArray t)) W.heap.size cs :=
  ⟨by simp, fun o => World.frozen?_alloc_at _ _ _ _ rfl, fun j v hv => by rw [World.cell?_alloc_at _ _ _ _ rfl]; simpa using hv⟩
theorem BoxAt.step {W W' : World} {b : Nat} {cs : List Value} (h : BoxAt W b cs) (hb : Below W.heap.size W W') : BoxAt W' b cs :=
  ⟨Nat.lt_of_lt_of_le h.size hb.size, fun o => by rw [hb.frozen h.size]; exact h.free o, fun j v hv => Below.keep hb (h.get j v hv)⟩
theorem BoxAt.below {W W' : World} {B b : Nat} {cs : List Value} (h : BoxAt W b cs) (hb : Below B W W') (hB : b < B) : BoxAt W' b cs :=
  ⟨Nat.lt_of_lt_of_le h.size hb.size, fun o => by rw [hb.frozen hB]; exact h.free o, fun j v hv => by rw [hb.cell hB]; exact h.get j v hv⟩
theorem BoxAt.other {W : World} {b : Nat} {cs : List Value} (h : BoxAt W b cs) (a : Addr) (v : Value) (ha : a.block ≠ b) : BoxAt (W.setCell a v) b cs :=
  ⟨by simpa [World.setCell] using h.size, fun o => by rw [World.frozen?_setCell]; exact h.free o, fun j u hu => by
    rw [World.cell?_setCell_other _ _ _ _ (fun e => ha (congrArg Addr.block e))]; exact h.get j u hu⟩
theorem BoxAt.put {W : World} {b : Nat} {cs : List Value} (h : BoxAt W b cs) (j : Nat) (v : Value) (hj : j < cs.length) : BoxAt (W.setCell ⟨b, j, none⟩ v) b (cs.set j v) :=
  ⟨by simpa [World.setCell] using h.size, fun o => by rw [World.frozen?_setCell]; exact h.free o, fun i u hu => by
    by_cases e : j = i
    · subst e
      rw [List.getElem?_set_self hj] at hu
      obtain rfl : v = u := by simpa using hu
      exact World.cell?_setCell_same _ _ _ (h.get j _ (List.getElem?_eq_getElem hj))
    · rw [List.getElem?_set_ne e] at hu
      rw [World.cell?_setCell_other _ _ _ _ (fun c => e (congrArg Addr.off c))]
      exact h.get i u hu⟩

/-! ### Rows of the call's own: n rows of k cells in block B -/
structure RowsAt (W : World) (B n k : Nat) (row : Nat → List Value) : Prop where
  size : B < W.heap.size
  free : ∀ o, W.frozen? ⟨B, o, none⟩ = false
  rows : ∀ i, i < n → W.rangeAt B (i * k) (row i)

theorem RowsAt.step {W W' : World} {B n k : Nat} {row : Nat → List Value} (h : RowsAt W B n k row) (hb : Below W.heap.size W W') : RowsAt W' B n k row :=
  ⟨Nat.lt_of_lt_of_le h.size hb.size, fun o => by rw [hb.frozen h.size]; exact h.free o, fun i hi => rangeAt_step (h.rows i hi) hb⟩
theorem RowsAt.below {W W' : World} {B' B n k : Nat} {row : Nat → List Value} (h : RowsAt W B n k row) (hb : Below B' W W') (hB : B < B') : RowsAt W' B n k row :=
  ⟨Nat.lt_of_lt_of_le h.size hb.size, fun o => by rw [hb.frozen hB]; exact h.free o, fun i hi j v hv => by rw [hb.cell hB]; exact h.rows i hi j v hv⟩
theorem RowsAt.other {W : World} {B n k : Nat} {row : Nat → List Value} (h : RowsAt W B n k row) (a : Addr) (v : Value) (ha : a.block ≠ B) : RowsAt (W.setCell a v) B n k row :=
  ⟨by simpa [World.setCell] using h.size, fun o => by rw [World.frozen?_setCell]; exact h.free o, fun i hi j u hu => by
    rw [World.cell?_setCell_other _ _ _ _ (fun e => ha (congrArg Addr.block e))]; exact h.rows i hi j u hu⟩
theorem RowsAt.congr {W : World} {B n k : Nat} {row row' : Nat → List Value} (h : RowsAt W B n k row) (he : ∀ i, i < n → row i = row' i) : RowsAt W B n k row' :=
  ⟨h.size, h.free, fun i hi => by rw [← he i hi]; exact h.rows i hi⟩

/-- A whole row is stored. -/
theorem RowsAt.store {W : World} {B n k : Nat} {row : Nat → List Value} (h : RowsAt W B n k row) (hk : ∀ i, i < n → (row i).length = k) (m : Nat) (hm : m < n) (vs : List Value) (hv : vs.length = k) :
    RowsAt (W.setCells B (m * k) vs) B n k (fun i => if i = m then vs else row i) := by
  have hthere : W.there B (m * k) vs.length := fun j hj => by
    rw [hv, ← hk m hm] at hj
    exact ⟨by rw [h.rows m hm j _ (List.getElem?_eq_getElem hj)]; rfl, h.free _⟩
  refine ⟨?_, fun o => by rw [World.frozen?_setCells]; exact h.free o, fun i hi => ?_⟩
  · have : ∀ (vs : List Value) (o : Nat) (W : World), (W.setCells B o vs).heap.size = W.heap.size := by
      intro vs
      induction vs with
      | nil => intro o W; rfl
      | cons v r ih => intro o W; rw [World.setCells, ih]; simp [World.setCell]
    rw [this]; exact h.size
  · by_cases e : i = m
    · subst e
      simp only [if_true]
      exact World.rangeAt_setCells_same _ _ _ _ hthere
    · simp only [if_neg e]
      refine World.rangeAt_setCells_apart (h.rows i hi) _ _ _ (.inr ?_)
      rw [hk i hi, hv]
      rcases Nat.lt_or_gt_of_ne e with hlt | hgt
      · left
        calc i * k + k = (i + 1) * k := by rw [Nat.add_mul, Nat.one_mul]
          _ ≤ m * k := Nat.mul_le_mul_right _ hlt
      · right
        calc m * k + k = (m + 1) * k := by rw [Nat.add_mul, Nat.one_mul]
          _ ≤ i * k := Nat.mul_le_mul_right _ hgt

/-- n zero rows, as 'make' lays them. -/
theorem RowsAt.made (W : World) (z : List Value) (n k : Nat) (t : TypeId) (hz : z.length = k) (hk : 0 < k) : RowsAt (W.alloc (.cells (madeCells z.toArray (n * k)) t)) W.heap.size n k (fun _ => z) := by
  refine ⟨by simp, fun o => World.frozen?_alloc_at _ _ _ _ rfl, fun i hi j v hv => ?_⟩
  rw [World.cell?_alloc_at _ _ _ _ rfl]
  have hj : j < k := by rw [← hz]; exact (List.getElem?_eq_some_iff.1 hv).1
  have hlt : i * k + j < n * k := by
    calc i * k + j < i * k + k := by omega
      _ = (i + 1) * k := by rw [Nat.add_mul, Nat.one_mul]
      _ ≤ n * k := Nat.mul_le_mul_right _ hi
  have hs : i * k + j < (madeCells z.toArray (n * k)).size := by rw [size_madeCells]; exact hlt
  rw [Array.getElem?_eq_getElem hs]
  have e : (i * k + j) % k = j := by rw [Nat.mul_comm, Nat.mul_add_mod]; exact Nat.mod_eq_of_lt hj
  have hg := List.getElem?_eq_some_iff.1 hv
  obtain ⟨hl, hv'⟩ := hg
  simp only [madeCells, Array.getElem_map, Array.getElem_range, List.size_toArray, hz, e]
  simp [hl, hv']

end Go.Proofs.Qxb6616371a
