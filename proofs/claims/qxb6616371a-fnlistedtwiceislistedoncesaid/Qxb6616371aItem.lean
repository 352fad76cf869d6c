/-
  BUILDING THE ITEM: zzItem. Its first region draws its order (three ways), two calls in it; then the content and the output.
-/
import Derived.Test.Qxb6616371aTools
import Derived.Deep.RegionHeld3
import Derived.Deep.DeepCutAuto
import Derived.Deep.CutRange
namespace Go.Proofs.Qxb6616371a
open Go.RowKit
set_option linter.unusedVariables false

/-- What zzItem's loads read. -/
abbrev SL (w : World) (t : ItemV) (v : World) : Prop := v.cell? ⟨w.heap.size, 0, none⟩ = some (.string t.ty) ∧ v.cell? ⟨w.heap.size, 1, none⟩ = some (.string t.id) ∧ v.cell? ⟨w.heap.size, 2, none⟩ = some (.string t.st) ∧ v.cell? ⟨w.heap.size, 3, none⟩ = some (.string t.ro) ∧ v.cell? ⟨w.heap.size, 5, none⟩ = some (.slice t.su.a t.su.l t.su.c) ∧ v.cell? ⟨w.heap.size, 6, none⟩ = some (.pointer t.ci) ∧ v.cell? ⟨w.heap.size, 7, none⟩ = some (.pointer t.nm) ∧ v.cell? ⟨w.heap.size, 8, none⟩ = some (.string t.ns) ∧ v.cell? ⟨w.heap.size, 9, none⟩ = some (.pointer t.ar) ∧ v.cell? ⟨w.heap.size, 10, none⟩ = some (.pointer t.inp) ∧ v.cell? ⟨w.heap.size, 12, none⟩ = some (.slice t.ts.a t.ts.l t.ts.c)
theorem SL.step {w : World} {t : ItemV} {V V' : World} (h : SL w t V) (hb : Below V.heap.size V V') : SL w t V' := by
  obtain ⟨h0, h1, h2, h3, h5, h6, h7, h8, h9, h10, h12⟩ := h
  exact ⟨Below.keep hb h0, Below.keep hb h1, Below.keep hb h2, Below.keep hb h3, Below.keep hb h5, Below.keep hb h6, Below.keep hb h7, Below.keep hb h8, Below.keep hb h9, Below.keep hb h10, Below.keep hb h12⟩
theorem SL.drew {w : World} {t : ItemV} {V : World} (h : SL w t V) : SL w t V.drew := h
theorem SL.alloc {w : World} {t : ItemV} {V : World} (h : SL w t V) (o : Obj) : SL w t (V.alloc o) := h.step ((Below.refl _ _).alloc (Nat.le_refl _) _)
theorem SL.set {w : World} {t : ItemV} {V : World} (h : SL w t V) (a : Addr) (u : Value) (ha : a.block ≠ w.heap.size) : SL w t (V.setCell a u) := by
  have key : ∀ j, (V.setCell a u).cell? ⟨w.heap.size, j, none⟩ = V.cell? ⟨w.heap.size, j, none⟩ := fun j => World.cell?_setCell_other _ _ _ _ (fun e => ha (congrArg Addr.block e))
  obtain ⟨h0, h1, h2, h3, h5, h6, h7, h8, h9, h10, h12⟩ := h
  exact ⟨(key _).trans h0, (key _).trans h1, (key _).trans h2, (key _).trans h3, (key _).trans h5, (key _).trans h6, (key _).trans h7, (key _).trans h8, (key _).trans h9, (key _).trans h10, (key _).trans h12⟩

def zeros14 : List Value := [.string ⟨#[]⟩, .string ⟨#[]⟩, .string ⟨#[]⟩, .string ⟨#[]⟩, .nilIface, .slice none 0 0, .pointer none, .pointer none, .string ⟨#[]⟩, .pointer none, .pointer none, .nilIface, .slice none 0 0, .nilIface]
theorem zbox_new' {W w1 : World} (hb : Below (W.alloc (.cells #[.string ⟨#[]⟩, .string ⟨#[]⟩, .string ⟨#[]⟩, .string ⟨#[]⟩, .nilIface, .slice none 0 0, .pointer none, .pointer none, .string ⟨#[]⟩, .pointer none, .pointer none, .nilIface, .slice none 0 0, .nilIface] 32)).drew.heap.size (W.alloc (.cells #[.string ⟨#[]⟩, .string ⟨#[]⟩, .string ⟨#[]⟩, .string ⟨#[]⟩, .nilIface, .slice none 0 0, .pointer none, .pointer none, .string ⟨#[]⟩, .pointer none, .pointer none, .nilIface, .slice none 0 0, .nilIface] 32)).drew w1) : BoxAt w1 W.heap.size [.string ⟨#[]⟩, .string ⟨#[]⟩, .string ⟨#[]⟩, .string ⟨#[]⟩, .nilIface, .slice none 0 0, .pointer none, .pointer none, .string ⟨#[]⟩, .pointer none, .pointer none, .nilIface, .slice none 0 0, .nilIface] :=
  (BoxAt.made W [.string ⟨#[]⟩, .string ⟨#[]⟩, .string ⟨#[]⟩, .string ⟨#[]⟩, .nilIface, .slice none 0 0, .pointer none, .pointer none, .string ⟨#[]⟩, .pointer none, .pointer none, .nilIface, .slice none 0 0, .nilIface] 32).drew.step hb
theorem zbox_new {W w1 : World} (hb : Below (W.alloc (.cells #[.string ⟨#[]⟩, .string ⟨#[]⟩, .string ⟨#[]⟩, .string ⟨#[]⟩, .nilIface, .slice none 0 0, .pointer none, .pointer none, .string ⟨#[]⟩, .pointer none, .pointer none, .nilIface, .slice none 0 0, .nilIface] 32)).heap.size (W.alloc (.cells #[.string ⟨#[]⟩, .string ⟨#[]⟩, .string ⟨#[]⟩, .string ⟨#[]⟩, .nilIface, .slice none 0 0, .pointer none, .pointer none, .string ⟨#[]⟩, .pointer none, .pointer none, .nilIface, .slice none 0 0, .nilIface] 32)) w1) : BoxAt w1 W.heap.size [.string ⟨#[]⟩, .string ⟨#[]⟩, .string ⟨#[]⟩, .string ⟨#[]⟩, .nilIface, .slice none 0 0, .pointer none, .pointer none, .string ⟨#[]⟩, .pointer none, .pointer none, .nilIface, .slice none 0 0, .nilIface] :=
  (BoxAt.made W [.string ⟨#[]⟩, .string ⟨#[]⟩, .string ⟨#[]⟩, .string ⟨#[]⟩, .nilIface, .slice none 0 0, .pointer none, .pointer none, .string ⟨#[]⟩, .pointer none, .pointer none, .nilIface, .slice none 0 0, .nilIface] 32).step hb

/-- Inside zzItem: the item that came in; the result's variable. -/
structure IZ (w W : World) (t : ItemV) : Prop where
  bel : Below w.heap.size w W
  z : BoxAt W w.heap.size [.string t.ty, .string t.id, .string t.st, .string t.ro, .pointer t.co, .slice t.su.a t.su.l t.su.c, .pointer t.ci, .pointer t.nm, .string t.ns, .pointer t.ar, .pointer t.inp, .pointer t.ou, .slice t.ts.a t.ts.l t.ts.c]
  r : BoxAt W (w.heap.size + 1) [.string ⟨#[]⟩, .string ⟨#[]⟩, .string ⟨#[]⟩, .string ⟨#[]⟩, .nilIface, .slice none 0 0, .pointer none, .pointer none, .string ⟨#[]⟩, .pointer none, .pointer none, .nilIface, .slice none 0 0, .nilIface]
theorem IZ.step {w W W' : World} {t : ItemV} (h : IZ w W t) (hb : Below W.heap.size W W') : IZ w W' t := ⟨h.bel.trans (hb.mono h.bel.size), h.z.step hb, h.r.step hb⟩
theorem IZ.alloc {w W : World} {t : ItemV} (h : IZ w W t) (o : Obj) : IZ w (W.alloc o) t := h.step ((Below.refl _ _).alloc (Nat.le_refl _) _)
theorem PartsAt.alloc {W : World} {q : Raw} {qv : Nat → PartV} (h : PartsAt W q qv) (o : Obj) : PartsAt (W.alloc o) q qv := h.step ((Below.refl _ _).alloc (Nat.le_refl _) _)
theorem IZ.drew {w W : World} {t : ItemV} (h : IZ w W t) : IZ w W.drew t := ⟨h.bel.drew, h.z.drew, h.r.drew⟩
theorem IZ.other {w W : World} {t : ItemV} (h : IZ w W t) (a : Addr) (u : Value) (ha : w.heap.size + 1 < a.block) : IZ w (W.setCell a u) t := ⟨h.bel.setCell (by omega) _, h.z.other _ _ (by omega), h.r.other _ _ (by omega)⟩
theorem IZ.sl {w W : World} {t : ItemV} (h : IZ w W t) : SL w t W := ⟨h.z.get 0 _ rfl, h.z.get 1 _ rfl, h.z.get 2 _ rfl, h.z.get 3 _ rfl, h.z.get 5 _ rfl, h.z.get 6 _ rfl, h.z.get 7 _ rfl, h.z.get 8 _ rfl, h.z.get 9 _ rfl, h.z.get 10 _ rfl, h.z.get 12 _ rfl⟩
theorem IZ.made (w : World) (t : ItemV) : IZ w ((w.alloc (.cells #[.string t.ty, .string t.id, .string t.st, .string t.ro, .pointer t.co, .slice t.su.a t.su.l t.su.c, .pointer t.ci, .pointer t.nm, .string t.ns, .pointer t.ar, .pointer t.inp, .pointer t.ou, .slice t.ts.a t.ts.l t.ts.c] 39)).alloc (.cells #[.string ⟨#[]⟩, .string ⟨#[]⟩, .string ⟨#[]⟩, .string ⟨#[]⟩, .nilIface, .slice none 0 0, .pointer none, .pointer none, .string ⟨#[]⟩, .pointer none, .pointer none, .nilIface, .slice none 0 0, .nilIface] 32)) t := by
  have z := BoxAt.made w [.string t.ty, .string t.id, .string t.st, .string t.ro, .pointer t.co, .slice t.su.a t.su.l t.su.c, .pointer t.ci, .pointer t.nm, .string t.ns, .pointer t.ar, .pointer t.inp, .pointer t.ou, .slice t.ts.a t.ts.l t.ts.c] 39
  have b0 : Below w.heap.size w (w.alloc (.cells #[.string t.ty, .string t.id, .string t.st, .string t.ro, .pointer t.co, .slice t.su.a t.su.l t.su.c, .pointer t.ci, .pointer t.nm, .string t.ns, .pointer t.ar, .pointer t.inp, .pointer t.ou, .slice t.ts.a t.ts.l t.ts.c] 39)) := (Below.refl _ _).alloc (Nat.le_refl _) _
  have s0 : (w.alloc (.cells #[.string t.ty, .string t.id, .string t.st, .string t.ro, .pointer t.co, .slice t.su.a t.su.l t.su.c, .pointer t.ci, .pointer t.nm, .string t.ns, .pointer t.ar, .pointer t.inp, .pointer t.ou, .slice t.ts.a t.ts.l t.ts.c] 39)).heap.size = w.heap.size + 1 := by simp
  generalize w.alloc (.cells #[.string t.ty, .string t.id, .string t.st, .string t.ro, .pointer t.co, .slice t.su.a t.su.l t.su.c, .pointer t.ci, .pointer t.nm, .string t.ns, .pointer t.ar, .pointer t.inp, .pointer t.ou, .slice t.ts.a t.ts.l t.ts.c] 39) = W0 at *
  have r := BoxAt.made W0 [.string ⟨#[]⟩, .string ⟨#[]⟩, .string ⟨#[]⟩, .string ⟨#[]⟩, .nilIface, .slice none 0 0, .pointer none, .pointer none, .string ⟨#[]⟩, .pointer none, .pointer none, .nilIface, .slice none 0 0, .nilIface] 32
  have b1 : Below W0.heap.size W0 (W0.alloc (.cells #[.string ⟨#[]⟩, .string ⟨#[]⟩, .string ⟨#[]⟩, .string ⟨#[]⟩, .nilIface, .slice none 0 0, .pointer none, .pointer none, .string ⟨#[]⟩, .pointer none, .pointer none, .nilIface, .slice none 0 0, .nilIface] 32)) := (Below.refl _ _).alloc (Nat.le_refl _) _
  rw [s0] at r
  exact ⟨b0.trans (b1.mono b0.size), z.step b1, r⟩

/-- The call's own boxes. -/
abbrev Own (w : World) (B : Nat) : Nat → Prop := fun b => b = w.heap.size ∨ b = w.heap.size + 1 ∨ b = B

def fin14 (W : World) (B : Nat) (v0 v1 v2 v3 v4 v5 v6 v7 v8 v9 v10 v11 v12 v13 : Value) : World := ((((((((((((((W.setCell ⟨B, 0, none⟩ v0).setCell ⟨B, 1, none⟩ v1).setCell ⟨B, 2, none⟩ v2).setCell ⟨B, 3, none⟩ v3).setCell ⟨B, 4, none⟩ v4).setCell ⟨B, 5, none⟩ v5).setCell ⟨B, 6, none⟩ v6).setCell ⟨B, 7, none⟩ v7).setCell ⟨B, 8, none⟩ v8).setCell ⟨B, 9, none⟩ v9).setCell ⟨B, 10, none⟩ v10).setCell ⟨B, 11, none⟩ v11).setCell ⟨B, 12, none⟩ v12).setCell ⟨B, 13, none⟩ v13)
theorem fin14_below {w W : World} {B : Nat} (h : Below w.heap.size w W) (hB : w.heap.size ≤ B) (v0 v1 v2 v3 v4 v5 v6 v7 v8 v9 v10 v11 v12 v13 : Value) : Below w.heap.size w (fin14 W B v0 v1 v2 v3 v4 v5 v6 v7 v8 v9 v10 v11 v12 v13) :=
  ((((((((((((((h.setCell (p := ⟨B, 0, none⟩) hB v0).setCell (p := ⟨B, 1, none⟩) hB v1).setCell (p := ⟨B, 2, none⟩) hB v2).setCell (p := ⟨B, 3, none⟩) hB v3).setCell (p := ⟨B, 4, none⟩) hB v4).setCell (p := ⟨B, 5, none⟩) hB v5).setCell (p := ⟨B, 6, none⟩) hB v6).setCell (p := ⟨B, 7, none⟩) hB v7).setCell (p := ⟨B, 8, none⟩) hB v8).setCell (p := ⟨B, 9, none⟩) hB v9).setCell (p := ⟨B, 10, none⟩) hB v10).setCell (p := ⟨B, 11, none⟩) hB v11).setCell (p := ⟨B, 12, none⟩) hB v12).setCell (p := ⟨B, 13, none⟩) hB v13)
theorem fin14_iz {w W : World} {t : ItemV} {B : Nat} (h : IZ w W t) (hB : w.heap.size + 1 < B) (v0 v1 v2 v3 v4 v5 v6 v7 v8 v9 v10 v11 v12 v13 : Value) : IZ w (fin14 W B v0 v1 v2 v3 v4 v5 v6 v7 v8 v9 v10 v11 v12 v13) t :=
  ((((((((((((((h.other ⟨B, 0, none⟩ v0 hB).other ⟨B, 1, none⟩ v1 hB).other ⟨B, 2, none⟩ v2 hB).other ⟨B, 3, none⟩ v3 hB).other ⟨B, 4, none⟩ v4 hB).other ⟨B, 5, none⟩ v5 hB).other ⟨B, 6, none⟩ v6 hB).other ⟨B, 7, none⟩ v7 hB).other ⟨B, 8, none⟩ v8 hB).other ⟨B, 9, none⟩ v9 hB).other ⟨B, 10, none⟩ v10 hB).other ⟨B, 11, none⟩ v11 hB).other ⟨B, 12, none⟩ v12 hB).other ⟨B, 13, none⟩ v13 hB)
theorem fin14_box {W : World} {B : Nat} (h : BoxAt W B [.string ⟨#[]⟩, .string ⟨#[]⟩, .string ⟨#[]⟩, .string ⟨#[]⟩, .nilIface, .slice none 0 0, .pointer none, .pointer none, .string ⟨#[]⟩, .pointer none, .pointer none, .nilIface, .slice none 0 0, .nilIface]) (v0 v1 v2 v3 v4 v5 v6 v7 v8 v9 v10 v11 v12 v13 : Value) : BoxAt (fin14 W B v0 v1 v2 v3 v4 v5 v6 v7 v8 v9 v10 v11 v12 v13) B [v0, v1, v2, v3, v4, v5, v6, v7, v8, v9, v10, v11, v12, v13] :=
  ((((((((((((((h.put 0 v0 (by simp)).put 1 v1 (by simp)).put 2 v2 (by simp)).put 3 v3 (by simp)).put 4 v4 (by simp)).put 5 v5 (by simp)).put 6 v6 (by simp)).put 7 v7 (by simp)).put 8 v8 (by simp)).put 9 v9 (by simp)).put 10 v10 (by simp)).put 11 v11 (by simp)).put 12 v12 (by simp)).put 13 v13 (by simp))
theorem fin14_up {W : World} {B : Nat} {S : Nat → Prop} [DecidablePred S] (h : S B) (v0 v1 v2 v3 v4 v5 v6 v7 v8 v9 v10 v11 v12 v13 : Value) : Up (hole W S) (hole (fin14 W B v0 v1 v2 v3 v4 v5 v6 v7 v8 v9 v10 v11 v12 v13) S) :=
  ((((((((((((((hole_set (W := W) (a := ⟨B, 0, none⟩) v0 h).trans (hole_set (a := ⟨B, 1, none⟩) v1 h)).trans (hole_set (a := ⟨B, 2, none⟩) v2 h)).trans (hole_set (a := ⟨B, 3, none⟩) v3 h)).trans (hole_set (a := ⟨B, 4, none⟩) v4 h)).trans (hole_set (a := ⟨B, 5, none⟩) v5 h)).trans (hole_set (a := ⟨B, 6, none⟩) v6 h)).trans (hole_set (a := ⟨B, 7, none⟩) v7 h)).trans (hole_set (a := ⟨B, 8, none⟩) v8 h)).trans (hole_set (a := ⟨B, 9, none⟩) v9 h)).trans (hole_set (a := ⟨B, 10, none⟩) v10 h)).trans (hole_set (a := ⟨B, 11, none⟩) v11 h)).trans (hole_set (a := ⟨B, 12, none⟩) v12 h)).trans (hole_set (a := ⟨B, 13, none⟩) v13 h))

theorem hq_gen {w V wA : World} {s q : Raw} {pv qv : Nat → PartV} (ok : PartsAt w s pv) (bel : Below w.heap.size w V) (hqx : ∀ (S : Nat → Prop) [DecidablePred S], (∀ b, S b → b < V.heap.size) → PartsAt (hole V S) s pv → PartsAt (hole wA S) q qv) :
    ∀ (S : Nat → Prop) [DecidablePred S], (∀ b, S b → w.heap.size ≤ b ∧ b < V.heap.size) → PartsAt (hole wA S) q qv :=
  fun S _ hS => hqx S (fun b e => (hS b e).2) (ok.up (up_hole bel (fun b e => (hS b e).1)))

/-- The item in the making: it lies in block B; content C, output O. -/
structure ItO (w W : World) (t : ItemV) (B : Nat) (q : Raw) (qv : Nat → PartV) (tq : Raw) (C O : Value) : Prop where
  iz : IZ w W t
  lt : w.heap.size + 1 < B
  o : BoxAt W B [.string t.ty, .string t.id, .string t.st, .string t.ro, C, .slice q.a q.l q.c, .pointer t.ci, .pointer t.nm, .string t.ns, .pointer t.ar, .pointer t.inp, O, .slice tq.a tq.l tq.c, .nilIface]
  sn : q.a.isNone = t.su.a.isNone
  sl : q.l = t.su.l
  ss : ∀ i, i < t.su.l → Same (t.spv i) (qv i)
  sf : PartsFit q qv
  sp : PartsAt (hole W (Own w B)) q qv
  tn : 0 < tq.l → ∃ b off, tq.a = some ⟨b, off, none⟩

theorem ItO.made {w wB : World} {t : ItemV} {q : Raw} {qv : Nat → PartV} {tq : Raw} (iz : IZ w wB t) (sn : q.a.isNone = t.su.a.isNone) (sl : q.l = t.su.l) (ss : ∀ i, i < t.su.l → Same (t.spv i) (qv i)) (sf : PartsFit q qv)
    (sp : PartsAt (hole wB (fun b => b = w.heap.size ∨ b = w.heap.size + 1)) q qv) (tn : 0 < tq.l → ∃ b off, tq.a = some ⟨b, off, none⟩) :
    ItO w (wB.alloc (.cells #[.string t.ty, .string t.id, .string t.st, .string t.ro, .nilIface, .slice q.a q.l q.c, .pointer t.ci, .pointer t.nm, .string t.ns, .pointer t.ar, .pointer t.inp, .nilIface, .slice tq.a tq.l tq.c, .nilIface] 32)) t wB.heap.size q qv tq .nilIface .nilIface :=
  ⟨iz.alloc _, iz.r.size, BoxAt.made wB [.string t.ty, .string t.id, .string t.st, .string t.ro, .nilIface, .slice q.a q.l q.c, .pointer t.ci, .pointer t.nm, .string t.ns, .pointer t.ar, .pointer t.inp, .nilIface, .slice tq.a tq.l tq.c, .nilIface] 32, sn, sl, ss, sf,
    sp.up (up_more ((Below.refl _ _).alloc (Nat.le_refl _) _) (fun b e => by rcases e with e | e | e; exact .inl (.inl e); exact .inl (.inr e); exact .inr (by omega))), tn⟩
theorem ItO.filled {w wB : World} {t : ItemV} {X : Nat} {q : Raw} {qv : Nat → PartV} {tq : Raw} (iz : IZ w wB t) (zb : BoxAt wB X [.string ⟨#[]⟩, .string ⟨#[]⟩, .string ⟨#[]⟩, .string ⟨#[]⟩, .nilIface, .slice none 0 0, .pointer none, .pointer none, .string ⟨#[]⟩, .pointer none, .pointer none, .nilIface, .slice none 0 0, .nilIface]) (lt : w.heap.size + 1 < X) (sn : q.a.isNone = t.su.a.isNone) (sl : q.l = t.su.l) (ss : ∀ i, i < t.su.l → Same (t.spv i) (qv i)) (sf : PartsFit q qv)
    (sp : PartsAt (hole wB (Own w X)) q qv) (tn : 0 < tq.l → ∃ b off, tq.a = some ⟨b, off, none⟩) :
    ItO w (fin14 wB X (.string t.ty) (.string t.id) (.string t.st) (.string t.ro) (.nilIface) (.slice q.a q.l q.c) (.pointer t.ci) (.pointer t.nm) (.string t.ns) (.pointer t.ar) (.pointer t.inp) (.nilIface) (.slice tq.a tq.l tq.c) (.nilIface)) t X q qv tq .nilIface .nilIface :=
  ⟨fin14_iz iz lt _ _ _ _ _ _ _ _ _ _ _ _ _ _, lt, fin14_box zb _ _ _ _ _ _ _ _ _ _ _ _ _ _, sn, sl, ss, sf, sp.up (fin14_up (.inr (.inr rfl)) _ _ _ _ _ _ _ _ _ _ _ _ _ _), tn⟩

theorem opt_or (o : Option Addr) : o = none ∨ ∃ a, o = some a := by cases o <;> simp
/-- A content that zzItem has laid: nothing, a text, or a new list of the same parts. -/
def Cont (w W : World) (p tx : Option Addr) (ps : Raw) (pv : Nat → PartV) (C : Value) (cq : Raw) (cqv : Nat → PartV) : Prop :=
  (p = none ∧ C = .nilIface ∧ cq = ⟨none, 0, 0⟩) ∨
  (∃ (a' a : Addr) (s : ByteArray), p = some a' ∧ tx = some a ∧ w.cell? a = some (.string s) ∧ C = .iface 57 (.string s) ∧ cq = ⟨none, 0, 0⟩) ∨
  (∃ a' : Addr, p = some a' ∧ tx = none ∧ cq.a.isNone = ps.a.isNone ∧ cq.l = ps.l ∧ PartsAt W cq cqv ∧ (∀ i, i < ps.l → Same (pv i) (cqv i)) ∧ PartsFit cq cqv ∧ FreeAt W cq ∧ C = .iface 56 (.slice cq.a cq.l cq.c))
theorem Cont.nil {w W : World} {p tx : Option Addr} {ps : Raw} {pv : Nat → PartV} (cqv : Nat → PartV) (h : p = none) : Cont w W p tx ps pv .nilIface ⟨none, 0, 0⟩ cqv := .inl ⟨h, rfl, rfl⟩
theorem Cont.text {w W : World} {p tx : Option Addr} {ps : Raw} {pv : Nat → PartV} (a' a : Addr) (s : ByteArray) (cqv : Nat → PartV) (h1 : p = some a') (h2 : tx = some a) (h3 : w.cell? a = some (.string s)) : Cont w W p tx ps pv (.iface 57 (.string s)) ⟨none, 0, 0⟩ cqv :=
  .inr (.inl ⟨a', a, s, h1, h2, h3, rfl, rfl⟩)
theorem Cont.parts {w W : World} {p tx : Option Addr} {ps : Raw} {pv : Nat → PartV} (a' : Addr) (cq : Raw) (cqv : Nat → PartV) (h1 : p = some a') (h2 : tx = none) (h3 : cq.a.isNone = ps.a.isNone) (h4 : cq.l = ps.l) (h5 : PartsAt W cq cqv) (h6 : ∀ i, i < ps.l → Same (pv i) (cqv i)) (h7 : PartsFit cq cqv) (h8 : FreeAt W cq) :
    Cont w W p tx ps pv (.iface 56 (.slice cq.a cq.l cq.c)) cq cqv := .inr (.inr ⟨a', h1, h2, h3, h4, h5, h6, h7, h8, rfl⟩)
theorem Cont.up {w W W' : World} {p tx : Option Addr} {ps cq : Raw} {pv cqv : Nat → PartV} {C : Value} (h : Cont w W p tx ps pv C cq cqv) (hu : Up W W') : Cont w W' p tx ps pv C cq cqv := by
  rcases h with ⟨x, rfl, rfl⟩ | ⟨a', a, s, x, y, z, rfl, rfl⟩ | ⟨a', x, y, z, u, v, s, f, g, rfl⟩
  · exact .nil _ x
  · exact .text a' a s _ x y z
  · exact .parts a' _ _ x y z u (v.up hu) s f (g.up v hu)
theorem Cont.one {w W : World} {p tx : Option Addr} {ps cq : Raw} {pv cqv : Nat → PartV} {C : Value} (h : Cont w W p tx ps pv C cq cqv) : C.oneCell' = true := by
  rcases h with ⟨x, rfl, rfl⟩ | ⟨a', a, s, x, y, z, rfl, rfl⟩ | ⟨a', x, y, z, u, v, s, f, g, rfl⟩
  · rfl
  · rfl
  · rfl
theorem ItO.step {w W W' : World} {t : ItemV} {B : Nat} {q : Raw} {qv : Nat → PartV} {tq : Raw} {C O : Value} (h : ItO w W t B q qv tq C O) (hb : Below W.heap.size W W') : ItO w W' t B q qv tq C O :=
  ⟨h.iz.step hb, h.lt, h.o.step hb, h.sn, h.sl, h.ss, h.sf, h.sp.up ((up_below hb).hole _), h.tn⟩
theorem ItO.putC {w W : World} {t : ItemV} {B : Nat} {q : Raw} {qv : Nat → PartV} {tq : Raw} {C O : Value} (h : ItO w W t B q qv tq C O) (C' : Value) : ItO w (W.setCell ⟨B, 4, none⟩ C') t B q qv tq C' O :=
  ⟨h.iz.other _ _ h.lt, h.lt, h.o.put 4 C' (by simp), h.sn, h.sl, h.ss, h.sf, h.sp.up (hole_set (a := ⟨B, 4, none⟩) C' (.inr (.inr rfl))), h.tn⟩
theorem ItO.putO {w W : World} {t : ItemV} {B : Nat} {q : Raw} {qv : Nat → PartV} {tq : Raw} {C O : Value} (h : ItO w W t B q qv tq C O) (O' : Value) : ItO w (W.setCell ⟨B, 11, none⟩ O') t B q qv tq C O' :=
  ⟨h.iz.other _ _ h.lt, h.lt, h.o.put 11 O' (by simp), h.sn, h.sl, h.ss, h.sf, h.sp.up (hole_set (a := ⟨B, 11, none⟩) O' (.inr (.inr rfl))), h.tn⟩
theorem ItO.own_lt {w W : World} {t : ItemV} {B : Nat} {q : Raw} {qv : Nat → PartV} {tq : Raw} {C O : Value} (h : ItO w W t B q qv tq C O) : ∀ b, Own w B b → w.heap.size ≤ b ∧ b < W.heap.size := fun b e => by
  have h1 := h.lt
  have h2 := h.o.size
  rcases e with e | e | e <;> omega

set_option maxHeartbeats 400000 in
theorem zzTextContent_any (s : ByteArray) (w : World) : Calls Try.prog 30 #[.string s] w fun e w' => e = .returned (.iface 57 (.string s)) ∧ w' = w := by
  go_enter Try.func30, Try.ntmps30
  go_wp2
  go_ret
  exact ⟨rfl, rfl⟩
set_option maxHeartbeats 400000 in
theorem zzPartsContent_any (a : Option Addr) (l c : Nat) (w : World) : Calls Try.prog 31 #[.slice a l c] w fun e w' => e = .returned (.iface 56 (.slice a l c)) ∧ w' = w := by
  go_enter Try.func31, Try.ntmps31
  go_wp2
  go_ret
  exact ⟨rfl, rfl⟩

set_option maxRecDepth 100000 in
set_option maxHeartbeats 2000000 in
theorem zzItem_any (d : Nat) (t : ItemV) (w : World) (ok : ItemOk d w t) (fit : ItemFit d w t) :
    Calls Try.prog 13 #[.agg #[.string t.ty, .string t.id, .string t.st, .string t.ro, .pointer t.co, .slice t.su.a t.su.l t.su.c, .pointer t.ci, .pointer t.nm, .string t.ns, .pointer t.ar, .pointer t.inp, .pointer t.ou, .slice t.ts.a t.ts.l t.ts.c]] w fun e w' =>
      ∃ (q : Raw) (qv : Nat → PartV) (tq : Raw) (C O : Value) (cq : Raw) (cqv : Nat → PartV) (oq : Raw) (oqv : Nat → PartV), e = .returned (.tuple #[.agg #[.string t.ty, .string t.id, .string t.st, .string t.ro, C, .slice q.a q.l q.c, .pointer t.ci, .pointer t.nm, .string t.ns, .pointer t.ar, .pointer t.inp, O, .slice tq.a tq.l tq.c, .nilIface], .slice cq.a cq.l cq.c, .slice oq.a oq.l oq.c]) ∧
        q.a.isNone = t.su.a.isNone ∧ q.l = t.su.l ∧ PartsAt w' q qv ∧ (∀ i, i < t.su.l → Same (t.spv i) (qv i)) ∧ PartsFit q qv ∧ (0 < tq.l → ∃ b off, tq.a = some ⟨b, off, none⟩) ∧
        Cont w w' t.co t.ctx t.cps t.cpv C cq cqv ∧ Cont w w' t.ou t.otx t.ops t.opv O oq oqv ∧ Below w.heap.size w w' := by
  have Ok := hide ok
  have Fit := hide fit
  clear ok fit
  have Iz := hide (IZ.made w t)
  go_enter Try.func13, Try.ntmps13
  go_wp2_with fail
  generalize (w.alloc (.cells #[.string t.ty, .string t.id, .string t.st, .string t.ro, .pointer t.co, .slice t.su.a t.su.l t.su.c, .pointer t.ci, .pointer t.nm, .string t.ns, .pointer t.ar, .pointer t.inp, .pointer t.ou, .slice t.ts.a t.ts.l t.ts.c] 39)).alloc (.cells #[.string ⟨#[]⟩, .string ⟨#[]⟩, .string ⟨#[]⟩, .string ⟨#[]⟩, .nilIface, .slice none 0 0, .pointer none, .pointer none, .string ⟨#[]⟩, .pointer none, .pointer none, .nilIface, .slice none 0 0, .nilIface] 32) = W1 at *
  have Sl := hide (unhide Iz).sl
  have hsz := (unhide Iz).r.size
  go_cut [5] from 8 to 32 (fun p wc => ∃ B q qv tq, p = .pointer (some ⟨B, 0, none⟩) ∧ ItO w wc t B q qv tq .nilIface .nilIface)
  case first =>
    go_region_held3 (fun v => v.cell? ⟨w.heap.size, 0, none⟩ = some (.string t.ty) ∧ v.cell? ⟨w.heap.size, 1, none⟩ = some (.string t.id) ∧ v.cell? ⟨w.heap.size, 2, none⟩ = some (.string t.st) ∧ v.cell? ⟨w.heap.size, 3, none⟩ = some (.string t.ro) ∧ v.cell? ⟨w.heap.size, 5, none⟩ = some (.slice t.su.a t.su.l t.su.c) ∧ v.cell? ⟨w.heap.size, 6, none⟩ = some (.pointer t.ci) ∧ v.cell? ⟨w.heap.size, 7, none⟩ = some (.pointer t.nm) ∧ v.cell? ⟨w.heap.size, 8, none⟩ = some (.string t.ns) ∧ v.cell? ⟨w.heap.size, 9, none⟩ = some (.pointer t.ar) ∧ v.cell? ⟨w.heap.size, 10, none⟩ = some (.pointer t.inp) ∧ v.cell? ⟨w.heap.size, 12, none⟩ = some (.slice t.ts.a t.ts.l t.ts.c))
      (first
        | with_reducible exact SL.drew (unhide Sl)
        | with_reducible exact (unhide SlB)
        | with_reducible exact (unhide SlA)
        | with_reducible exact SL.alloc (unhide SlB) _
        | with_reducible exact SL.alloc (unhide SlA) _
        | with_reducible exact SL.drew (SL.alloc (unhide Sl) _)
        | ((repeat (with_reducible refine SL.set (w := w) (t := t) ?_ _ _ ?_; rotate_left; (simp; omega))); with_reducible exact unhide SlB))
      (first
        | (go_at_call 28; refine (zzParts_any t.su t.spv _ ?_ (unhide Fit).su).mono ?_;
            (first | with_reducible exact (unhide Ok).su.step (unhide Iz).bel.drew | with_reducible exact (unhide Ok).su.step ((unhide Iz).bel.alloc (unhide Iz).bel.size _).drew);
            rintro e wA ⟨q, qv, rfl, hqn, hql, hqp, hqs, hqf, hqx, -, hqb⟩;
            (first | (with_reducible have HqH := hide (hq_gen (unhide Ok).su (unhide Iz).bel.drew hqx)) | (with_reducible have HqH := hide (hq_gen (unhide Ok).su ((unhide Iz).alloc _).drew.bel hqx)));
            have SlA : Hid (SL w t wA) := (by first | with_reducible exact hide (SL.step (SL.drew (unhide Sl)) hqb) | with_reducible exact hide (SL.step (SL.drew (SL.alloc (unhide Sl) _)) hqb));
            have IzA : Hid (IZ w wA t) := (by first | with_reducible exact hide ((unhide Iz).drew.step hqb) | with_reducible exact hide (((unhide Iz).alloc _).drew.step hqb));
            have hqz : w.heap.size + 1 < wA.heap.size := (by have hx := hqb.size; (try simp at hx); omega);
            (try (with_reducible have Zb := hide (zbox_new' hqb)));
            have Hp := hide (And.intro hqn (And.intro hql (And.intro hqs hqf))); have Hbq := hide hqb; clear hqn hql hqp hqs hqf hqb hqx)
        | (go_at_call 29; refine (zzTools_any d t.ts _ ?_).mono ?_;
            (first | with_reducible exact ToolsFit.step (unhide IzA).bel (unhide Fit).ts
                   | with_reducible exact ToolsFit.step ((unhide IzA).bel.alloc (unhide IzA).bel.size _) (unhide Fit).ts);
            rintro e wB ⟨tq, rfl, htq, htb⟩;
            have SlB : Hid (SL w t wB) := (by first | with_reducible exact hide (SL.step (unhide SlA) htb) | with_reducible exact hide (SL.step (SL.alloc (unhide SlA) _) htb));
            have IzB : Hid (IZ w wB t) := (by first | with_reducible exact hide ((unhide IzA).step htb) | with_reducible exact hide (((unhide IzA).alloc _).step htb));
            have htz : w.heap.size + 1 < wB.heap.size := (by have hx := htb.size; (try simp at hx); omega);
            (first | (with_reducible have Zb := hide (zbox_new htb)) | (with_reducible have Zb := hide ((unhide Zb).step htb)) | skip);
            (try (have zg := fun j v hj => (unhide Zb).get j v hj; have c0 := zg 0 _ rfl; have c1 := zg 1 _ rfl; have c2 := zg 2 _ rfl; have c3 := zg 3 _ rfl; have c4 := zg 4 _ rfl; have c5 := zg 5 _ rfl; have c6 := zg 6 _ rfl; have c7 := zg 7 _ rfl; have c8 := zg 8 _ rfl; have c9 := zg 9 _ rfl; have c10 := zg 10 _ rfl; have c11 := zg 11 _ rfl; have c12 := zg 12 _ rfl; have c13 := zg 13 _ rfl; have f0 := (unhide Zb).free 0; have f1 := (unhide Zb).free 1; have f2 := (unhide Zb).free 2; have f3 := (unhide Zb).free 3; have f4 := (unhide Zb).free 4; have f5 := (unhide Zb).free 5; have f6 := (unhide Zb).free 6; have f7 := (unhide Zb).free 7; have f8 := (unhide Zb).free 8; have f9 := (unhide Zb).free 9; have f10 := (unhide Zb).free 10; have f11 := (unhide Zb).free 11; have f12 := (unhide Zb).free 12; have f13 := (unhide Zb).free 13; clear zg));
            have Ht := hide (And.intro htq htb); clear htq htb))

    · go_wp2_with fail
      go_meet
      case rel => exact ⟨wB.heap.size, q, qv, tq, rfl, ItO.made (unhide IzB) (unhide Hp).1 (unhide Hp).2.1 (unhide Hp).2.2.1 (unhide Hp).2.2.2 ((unhide HqH _ (fun b e => by simp; omega)).up ((up_below (unhide Ht).2).hole _)) (unhide Ht).1⟩
    · go_wp2_with fail
      go_meet
      case rel => exact ⟨wA.heap.size, q, qv, tq, rfl, ItO.filled (unhide IzB) (unhide Zb) hqz (unhide Hp).1 (unhide Hp).2.1 (unhide Hp).2.2.1 (unhide Hp).2.2.2
        ((unhide HqH (fun b => b = w.heap.size ∨ b = w.heap.size + 1) (fun b e => by simp; omega)).up (up_more (((Below.refl _ _).alloc (Nat.le_refl _) _).trans ((unhide Ht).2.mono (by simp))) (fun b e => by rcases e with e | e | e; exact .inl (.inl e); exact .inl (.inr e); exact .inr (by omega)))) (unhide Ht).1⟩
    · go_wp2_with fail
      go_meet
      case rel => exact ⟨W1.heap.size, q, qv, tq, rfl, ItO.filled (unhide IzB) (unhide Zb) hsz (unhide Hp).1 (unhide Hp).2.1 (unhide Hp).2.2.1 (unhide Hp).2.2.2
        ((unhide HqH (Own w W1.heap.size) (fun b e => by simp [Own] at e ⊢; omega)).up ((up_below (unhide Ht).2).hole _)) (unhide Ht).1⟩
  case rest =>
    obtain ⟨B, q, qv, tq, rfl, io⟩ := hcut
    clear Iz Sl hsz
    have z4 := io.iz.z.get 4 _ rfl
    go_upto_if 35 with fail
    go_cut [6] from 33 to 59 (fun s6 wd => ∃ (C : Value) (cq : Raw) (cqv : Nat → PartV), s6 = .slice cq.a cq.l cq.c ∧ ItO w wd t B q qv tq C .nilIface ∧ Cont w (hole wd (Own w B)) t.co t.ctx t.cps t.cpv C cq cqv)
    case first =>
      rcases opt_or t.co with hco | ⟨a, hco⟩
      · skip
        have hs : t.co.isSome = false := by rw [hco]; rfl
        have Hco := hide hco
        clear hco
        simp only [hs]
        go_wp2_with fail
        go_meet
        case rel => exact ⟨.nilIface, ⟨none, 0, 0⟩, t.cpv, rfl, io, .nil _ (unhide Hco)⟩
      · skip
        have hs : t.co.isSome = true := by rw [hco]; rfl
        rw [hco] at z4
        have Hco := hide hco
        obtain ⟨b, o, ea, h0, h1, -, hps⟩ := (unhide Ok).co a hco
        have hfit := hide ((unhide Fit).co a hco)
        have Hps := hide hps
        have c0 := Below.keep io.iz.bel h0
        have c1 := Below.keep io.iz.bel h1
        have H0 := hide h0
        clear hco h0 h1 hps
        obtain rfl := ea
        have o4 := io.o.get 4 _ rfl
        have f4 := io.o.free 4
        have Io := hide io
        clear io
        simp only [hs]
        rcases opt_or t.ctx with htx | ⟨ta, htx⟩
        · skip
          rw [htx] at c0
          have Htx := hide htx
          clear htx
          simp only [Raw.val] at c1
          go_wp2_with fail
          refine (zzParts_any t.cps t.cpv _ ((unhide Hps).step (unhide Io).iz.bel) (unhide hfit)).mono ?_
          rintro e w2 ⟨cq, cqv, rfl, hn, hl, -, hsm, hf, hx, hfr, hb⟩
          have Hr := hide (And.intro hn (And.intro hl (And.intro (hq_gen (unhide Hps) (unhide Io).iz.bel hx (Own w B) (unhide Io).own_lt) (And.intro hsm (And.intro hf (free_hole (S := Own w B) hfr (fun b e => ((unhide Io).own_lt b e).2)))))))
          have Io2 := hide ((unhide Io).step hb)
          have Hb := hide hb
          clear hn hl hsm hf hx hfr hb o4 f4 c0 c1
          go_wp2_with fail
          refine (zzPartsContent_any _ _ _ _).mono ?_
          rintro e w3 ⟨rfl, hw3⟩
          obtain rfl : w2 = w3 := hw3.symm
          clear hw3
          have o4 := (unhide Io2).o.get 4 _ rfl
          have f4 := (unhide Io2).o.free 4
          go_wp2_with fail
          go_meet
          case rel =>
            obtain ⟨hn, hl, hq, hsm, hf, hfa⟩ := unhide Hr
            exact ⟨_, cq, cqv, rfl, (unhide Io2).putC _, .parts _ _ _ (unhide Hco) (unhide Htx) hn hl (hq.up (hole_set (a := ⟨B, 4, none⟩) _ (.inr (.inr rfl)))) hsm hf (hfa.up hq (hole_set (a := ⟨B, 4, none⟩) _ (.inr (.inr rfl))))⟩
        · skip
          rw [htx] at c0
          have Htx := hide htx
          obtain ⟨-, -, -, -, -, hst, -⟩ := (unhide Ok).co _ (unhide Hco)
          obtain ⟨s, hsc, -⟩ := hst ta htx
          have cs := Below.keep (unhide Io).iz.bel hsc
          have Hsc := hide hsc
          clear htx hst hsc
          go_wp2_with fail
          refine (zzTextContent_any _ _).mono ?_
          rintro e w3 ⟨rfl, hw3⟩
          obtain rfl : wc = w3 := hw3.symm
          clear hw3
          go_wp2_with fail
          go_meet
          case rel => exact ⟨_, ⟨none, 0, 0⟩, t.cpv, rfl, (unhide Io).putC _, .text _ _ s _ (unhide Hco) (unhide Htx) (unhide Hsc)⟩
    case rest =>
      obtain ⟨C, cq, cqv, rfl, io2, Cc⟩ := hcut
      clear z4 io
      have z11 := io2.iz.z.get 11 _ rfl
      have io := io2
      clear io2
      go_upto_if 62 with fail
      go_cut [7] from 60 to 86 (fun s7 wd => ∃ (O : Value) (oq : Raw) (oqv : Nat → PartV), s7 = .slice oq.a oq.l oq.c ∧ ItO w wd t B q qv tq C O ∧ Cont w (hole wd (Own w B)) t.ou t.otx t.ops t.opv O oq oqv ∧ Cont w (hole wd (Own w B)) t.co t.ctx t.cps t.cpv C cq cqv)
      case first =>
        rcases opt_or t.ou with hou | ⟨a, hou⟩
        · skip
          have hs : t.ou.isSome = false := by rw [hou]; rfl
          have Hou := hide hou
          clear hou
          simp only [hs]
          go_wp2_with fail
          go_meet
          case rel => exact ⟨.nilIface, ⟨none, 0, 0⟩, t.opv, rfl, io, .nil _ (unhide Hou), Cc⟩
        · skip
          have hs : t.ou.isSome = true := by rw [hou]; rfl
          rw [hou] at z11
          have Hou := hide hou
          obtain ⟨b, o, ea, h0, h1, -, hps⟩ := (unhide Ok).ou a hou
          have hfit := hide ((unhide Fit).ou a hou)
          have Hps := hide hps
          have c0 := Below.keep io.iz.bel h0
          have c1 := Below.keep io.iz.bel h1
          have H0 := hide h0
          clear hou h0 h1 hps
          obtain rfl := ea
          have o4 := io.o.get 11 _ rfl
          have f4 := io.o.free 11
          have Io := hide io
          clear io
          simp only [hs]
          rcases opt_or t.otx with htx | ⟨ta, htx⟩
          · skip
            rw [htx] at c0
            have Htx := hide htx
            clear htx
            simp only [Raw.val] at c1
            go_wp2_with fail
            refine (zzParts_any t.ops t.opv _ ((unhide Hps).step (unhide Io).iz.bel) (unhide hfit)).mono ?_
            rintro e w2 ⟨cq, cqv, rfl, hn, hl, -, hsm, hf, hx, hfr, hb⟩
            have Hr := hide (And.intro hn (And.intro hl (And.intro (hq_gen (unhide Hps) (unhide Io).iz.bel hx (Own w B) (unhide Io).own_lt) (And.intro hsm (And.intro hf (free_hole (S := Own w B) hfr (fun b e => ((unhide Io).own_lt b e).2)))))))
            have Io2 := hide ((unhide Io).step hb)
            have Hb := hide hb
            clear hn hl hsm hf hx hfr hb o4 f4 c0 c1
            go_wp2_with fail
            refine (zzPartsContent_any _ _ _ _).mono ?_
            rintro e w3 ⟨rfl, hw3⟩
            obtain rfl : w2 = w3 := hw3.symm
            clear hw3
            have o4 := (unhide Io2).o.get 11 _ rfl
            have f4 := (unhide Io2).o.free 11
            go_wp2_with fail
            go_meet
            case rel =>
              obtain ⟨hn, hl, hq, hsm, hf, hfa⟩ := unhide Hr
              exact ⟨_, cq, cqv, rfl, (unhide Io2).putO _, .parts _ _ _ (unhide Hou) (unhide Htx) hn hl (hq.up (hole_set (a := ⟨B, 11, none⟩) _ (.inr (.inr rfl)))) hsm hf (hfa.up hq (hole_set (a := ⟨B, 11, none⟩) _ (.inr (.inr rfl)))), Cc.up (((up_below (unhide Hb)).hole _).trans (hole_set (a := ⟨B, 11, none⟩) _ (.inr (.inr rfl))))⟩
          · skip
            rw [htx] at c0
            have Htx := hide htx
            obtain ⟨-, -, -, -, -, hst, -⟩ := (unhide Ok).ou _ (unhide Hou)
            obtain ⟨s, hsc, -⟩ := hst ta htx
            have cs := Below.keep (unhide Io).iz.bel hsc
            have Hsc := hide hsc
            clear htx hst hsc
            go_wp2_with fail
            refine (zzTextContent_any _ _).mono ?_
            rintro e w3 ⟨rfl, hw3⟩
            obtain rfl : wc = w3 := hw3.symm
            clear hw3
            go_wp2_with fail
            go_meet
            case rel => exact ⟨_, ⟨none, 0, 0⟩, t.opv, rfl, (unhide Io).putO _, .text _ _ s _ (unhide Hou) (unhide Htx) (unhide Hsc), Cc.up (hole_set (a := ⟨B, 11, none⟩) _ (.inr (.inr rfl)))⟩
      case rest =>
        obtain ⟨O, oq, oqv, rfl, io2, Co, Cc2⟩ := hcut
        clear z11 io Cc
        have hC1 := Cc2.one
        have hO1 := Co.one
        have Co' := hide Co
        have Cc' := hide Cc2
        have Io := hide io2
        clear Co Cc2
        have o0 := io2.o.get 0 _ rfl
        have o1 := io2.o.get 1 _ rfl
        have o2 := io2.o.get 2 _ rfl
        have o3 := io2.o.get 3 _ rfl
        have o4 := io2.o.get 4 _ rfl
        have o5 := io2.o.get 5 _ rfl
        have o6 := io2.o.get 6 _ rfl
        have o7 := io2.o.get 7 _ rfl
        have o8 := io2.o.get 8 _ rfl
        have o9 := io2.o.get 9 _ rfl
        have o10 := io2.o.get 10 _ rfl
        have o11 := io2.o.get 11 _ rfl
        have o12 := io2.o.get 12 _ rfl
        have o13 := io2.o.get 13 _ rfl
        have r0 := io2.iz.r.get 0 _ rfl
        have r1 := io2.iz.r.get 1 _ rfl
        have r2 := io2.iz.r.get 2 _ rfl
        have r3 := io2.iz.r.get 3 _ rfl
        have r4 := io2.iz.r.get 4 _ rfl
        have r5 := io2.iz.r.get 5 _ rfl
        have r6 := io2.iz.r.get 6 _ rfl
        have r7 := io2.iz.r.get 7 _ rfl
        have r8 := io2.iz.r.get 8 _ rfl
        have r9 := io2.iz.r.get 9 _ rfl
        have r10 := io2.iz.r.get 10 _ rfl
        have r11 := io2.iz.r.get 11 _ rfl
        have r12 := io2.iz.r.get 12 _ rfl
        have r13 := io2.iz.r.get 13 _ rfl
        have rf0 := io2.iz.r.free 0
        have rf1 := io2.iz.r.free 1
        have rf2 := io2.iz.r.free 2
        have rf3 := io2.iz.r.free 3
        have rf4 := io2.iz.r.free 4
        have rf5 := io2.iz.r.free 5
        have rf6 := io2.iz.r.free 6
        have rf7 := io2.iz.r.free 7
        have rf8 := io2.iz.r.free 8
        have rf9 := io2.iz.r.free 9
        have rf10 := io2.iz.r.free 10
        have rf11 := io2.iz.r.free 11
        have rf12 := io2.iz.r.free 12
        have rf13 := io2.iz.r.free 13
        go_wp2_with fail
        have bel := fin14_below (unhide Io).iz.bel (Nat.le_add_right w.heap.size 1) (.string t.ty) (.string t.id) (.string t.st) (.string t.ro) (C) (.slice q.a q.l q.c) (.pointer t.ci) (.pointer t.nm) (.string t.ns) (.pointer t.ar) (.pointer t.inp) (O) (.slice tq.a tq.l tq.c) (.nilIface)
        have up : Up (hole wc (Own w B)) (fin14 wc (w.heap.size + 1) (.string t.ty) (.string t.id) (.string t.st) (.string t.ro) (C) (.slice q.a q.l q.c) (.pointer t.ci) (.pointer t.nm) (.string t.ns) (.pointer t.ar) (.pointer t.inp) (O) (.slice tq.a tq.l tq.c) (.nilIface)) := (fin14_up (S := Own w B) (.inr (.inl rfl)) _ _ _ _ _ _ _ _ _ _ _ _ _ _).trans (hole_up _ _)
        refine bodyPost_ret (v := .tuple #[.agg #[.string t.ty, .string t.id, .string t.st, .string t.ro, C, .slice q.a q.l q.c, .pointer t.ci, .pointer t.nm, .string t.ns, .pointer t.ar, .pointer t.inp, O, .slice tq.a tq.l tq.c, .nilIface], .slice cq.a cq.l cq.c, .slice oq.a oq.l oq.c]) (by simp [results, Try.results13, go_sem, r0, r1, r2, r3, r4, r5, r6, r7, r8, r9, r10, r11, r12, r13]) rfl ⟨q, qv, tq, C, O, cq, cqv, oq, oqv, rfl, (unhide Io).sn, (unhide Io).sl, (unhide Io).sp.up up, (unhide Io).ss, (unhide Io).sf, (unhide Io).tn, (unhide Cc').up up, (unhide Co').up up, bel⟩
end Go.Proofs.Qxb6616371a
