/-
  CELLS THAT STAY ('Up'), AND A WORLD WITH ONE BLOCK TAKEN OUT ('hole'): to say that a list has no cell in a block.
-/
import Derived.Test.Qxb6616371aPart
namespace Go.Proofs.Qxb6616371a
open Go.RowKit
set_option linter.unusedVariables false

/-- Every cell of W is in W', and what may be written there may be written. -/
def Up (W W' : World) : Prop := ∀ a v, W.cell? a = some v → W'.cell? a = some v ∧ ∀ o, W'.frozen? ⟨a.block, o, none⟩ = W.frozen? ⟨a.block, o, none⟩
theorem Up.trans {a b c : World} (h : Up a b) (k : Up b c) : Up a c := fun x v hx => ⟨(k x v (h x v hx).1).1, fun o => ((k x v (h x v hx).1).2 o).trans ((h x v hx).2 o)⟩
theorem up_below {w W : World} (hb : Below w.heap.size w W) : Up w W := fun a _ h => ⟨Below.keep hb h, fun o => hb.frozen (p := ⟨a.block, o, none⟩) (by have := lt_of_cell h; exact this)⟩

/-- All of block b may be written. -/
def Free (W : World) (b : Nat) : Prop := ∀ o, W.frozen? ⟨b, o, none⟩ = false
theorem Free.up {W W' : World} {b o : Nat} {v : Value} (h : Free W b) (hc : W.cell? ⟨b, o, none⟩ = some v) (hu : Up W W') : Free W' b := fun o' => ((hu _ _ hc).2 o').trans (h o')

theorem BytesAt.up {w w' : World} {r : Raw} (h : BytesAt w r) (hb : Up w w') : BytesAt w' r :=
  ⟨h.1, fun i hi => let ⟨b, off, z, e, hc⟩ := h.2 i hi; ⟨b, off, z, e, (hb _ _ hc).1⟩⟩
theorem RawsAt.up {w w' : World} {s : Raw} {rv : Nat → Raw} (h : RawsAt w s rv) (hb : Up w w') : RawsAt w' s rv :=
  ⟨h.1, fun i hi => let ⟨b, off, e, hc, hy⟩ := h.2 i hi; ⟨b, off, e, (hb _ _ hc).1, hy.up hb⟩⟩
theorem StrP.up {w w' : World} {p : Option Addr} (h : StrP w p) (hb : Up w w') : StrP w' p :=
  fun a e => let ⟨s, hc, hs⟩ := h a e; ⟨s, (hb _ _ hc).1, hs⟩
theorem PartOk.up {w w' : World} {p : PartV} (h : PartOk w p) (hb : Up w w') : PartOk w' p :=
  ⟨h.ty, h.tx.up hb, h.rf.up hb, h.im.up hb, h.dt.up hb, h.an.up hb, h.lp.up hb⟩
theorem rangeAt_up {w w' : World} {b o : Nat} {cs : List Value} (h : w.rangeAt b o cs) (hb : Up w w') : w'.rangeAt b o cs :=
  fun j v hv => (hb _ _ (h j v hv)).1
theorem PartsAt.up {w w' : World} {s : Raw} {pv : Nat → PartV} (h : PartsAt w s pv) (hb : Up w w') : PartsAt w' s pv :=
  ⟨h.1, fun i hi => let ⟨b, off, e, hr, ho⟩ := h.2 i hi; ⟨b, off, e, rangeAt_up hr hb, ho.up hb⟩⟩

/-- W without the blocks of S. -/
def hole (W : World) (S : Nat → Prop) [DecidablePred S] : World := { W with heap := W.heap.mapIdx (fun i o => if S i then .cells #[] 0 else o) }

theorem hole_ne {W : World} {S : Nat → Prop} [DecidablePred S] {a : Addr} (h : ¬ S a.block) : (hole W S).cell? a = W.cell? a :=
  World.cell?_of_block (by
    simp only [hole, Array.getElem?_mapIdx]
    cases W.heap[a.block]? <;> simp [h])
theorem hole_eq {W : World} {S : Nat → Prop} [DecidablePred S] {a : Addr} (h : S a.block) : (hole W S).cell? a = none := by
  simp only [World.cell?, hole, Array.getElem?_mapIdx]
  cases W.heap[a.block]? <;> simp [h]
theorem hole_frozen {W : World} {S : Nat → Prop} [DecidablePred S] {a : Addr} (h : ¬ S a.block) : (hole W S).frozen? a = W.frozen? a :=
  World.frozen?_of_block (by
    simp only [hole, Array.getElem?_mapIdx]
    cases W.heap[a.block]? <;> simp [h])
theorem hole_size (W : World) (S : Nat → Prop) [DecidablePred S] : (hole W S).heap.size = W.heap.size := by simp [hole]
theorem hole_some {W : World} {S : Nat → Prop} [DecidablePred S] {a : Addr} {v : Value} (h : (hole W S).cell? a = some v) : ¬ S a.block ∧ W.cell? a = some v := by
  by_cases e : S a.block
  · rw [hole_eq e] at h; exact absurd h (by simp)
  · exact ⟨e, by rw [← hole_ne e]; exact h⟩
theorem hole_up (W : World) (S : Nat → Prop) [DecidablePred S] : Up (hole W S) W := fun a _ h => ⟨(hole_some h).2, fun o => (hole_frozen (a := ⟨a.block, o, none⟩) (by exact (hole_some h).1)).symm⟩
theorem Up.hole {W W' : World} (h : Up W W') (S : Nat → Prop) [DecidablePred S] : Up (hole W S) (Qxb6616371a.hole W' S) := fun a v hc => by
  obtain ⟨e, hc'⟩ := hole_some hc
  refine ⟨by rw [hole_ne e]; exact (h _ _ hc').1, fun o => ?_⟩
  rw [hole_frozen (by exact e), hole_frozen (by exact e)]; exact (h _ _ hc').2 o
/-- What is older than the blocks of S is in the world without them. -/
theorem up_hole {w W : World} (h : Below w.heap.size w W) {S : Nat → Prop} [DecidablePred S] (hX : ∀ b, S b → w.heap.size ≤ b) : Up w (hole W S) := fun a v hc => by
  have := lt_of_cell hc
  have hn : ¬ S a.block := fun e => by have := hX _ e; omega
  refine ⟨by rw [hole_ne hn]; exact Below.keep h hc, fun o => ?_⟩
  rw [hole_frozen (by exact hn)]; exact h.frozen this
/-- More blocks taken out, all of them newer. -/
theorem up_more {w W : World} (h : Below w.heap.size w W) {S T : Nat → Prop} [DecidablePred S] [DecidablePred T] (hT : ∀ b, T b → S b ∨ w.heap.size ≤ b) : Up (hole w S) (hole W T) := fun a v hc => by
  obtain ⟨e, hc'⟩ := hole_some hc
  have := lt_of_cell hc'
  have hn : ¬ T a.block := fun t => by rcases hT _ t with x | x; exact e x; omega
  refine ⟨by rw [hole_ne hn]; exact Below.keep h hc', fun o => ?_⟩
  rw [hole_frozen (by exact hn), hole_frozen (by exact e)]; exact h.frozen this
/-- A store into S is not seen without S. -/
theorem hole_set {W : World} {S : Nat → Prop} [DecidablePred S] {a : Addr} (v : Value) (h : S a.block) : Up (hole W S) (hole (W.setCell a v) S) := fun x u hc => by
  obtain ⟨e, hc'⟩ := hole_some hc
  refine ⟨by rw [hole_ne e, World.cell?_setCell_other _ _ _ _ (fun c => e (by rw [← c]; exact h))]; exact hc', fun o => ?_⟩
  rw [hole_frozen (by exact e), hole_frozen (by exact e), World.frozen?_setCell]

/-- A list of parts in memory that may be written. -/
def FreeAt (W : World) (q : Raw) : Prop := 0 < q.l → ∀ b off, q.a = some ⟨b, off, none⟩ → Free W b
theorem FreeAt.up {W W' : World} {q : Raw} {qv : Nat → PartV} (h : FreeAt W q) (hp : PartsAt W q qv) (hu : Up W W') : FreeAt W' q := fun hl b off e => by
  obtain ⟨b', off', e', hr, _⟩ := hp.2 0 hl
  rw [e] at e'
  obtain ⟨rfl, rfl⟩ : b = b' ∧ off = off' := by simpa using e'
  exact (h hl b off e).up (hr 0 _ rfl) hu
theorem free_hole {w W : World} {q : Raw} {S : Nat → Prop} [DecidablePred S] (h : ∀ b off, q.a = some ⟨b, off, none⟩ → w.heap.size ≤ b ∧ Free W b) (hS : ∀ b, S b → b < w.heap.size) : FreeAt (hole W S) q := fun _ b off e o => by
  obtain ⟨h1, h2⟩ := h b off e
  rw [hole_frozen (fun t => by have := hS _ t; exact absurd h1 (by simpa using this))]; exact h2 o

end Go.Proofs.Qxb6616371a
