/-
  THE MAIN WALK OF FnListedMatchesItsDocumentedForm.
-/
import Derived.Test.Qxb6616371aForm
import Derived.Deep.RegionHeld3
import Derived.Deep.DeepCutAuto
import Derived.Deep.CutRange
namespace Go.Proofs.Qxb6616371a
open Go.RowKit
set_option linter.unusedVariables false
set_option linter.unusedSimpArgs false

/-- What stands in memory behind the call of Listed: the argument's box, the item's, the listed item's. -/
structure FW (w W : World) (zs is bs : List Value) (I B : Nat) : Prop where
  bel : Below w.heap.size w W
  z : BoxAt W w.heap.size zs
  i : BoxAt W I is
  b : BoxAt W B bs
theorem FW.step {w W W' : World} {zs is bs : List Value} {I B : Nat} (h : FW w W zs is bs I B) (hb : Below W.heap.size W W') : FW w W' zs is bs I B := ⟨h.bel.trans (hb.mono h.bel.size), h.z.step hb, h.i.step hb, h.b.step hb⟩

set_option maxRecDepth 100000 in
set_option maxHeartbeats 4000000 in
theorem form_walk (d : Nat) (t : ItemV) (w : World) (ok : ItemOk d w t) : Calls Try.prog 5 #[.agg #[.string t.ty, .string t.id, .string t.st, .string t.ro, .pointer t.co, .slice t.su.a t.su.l t.su.c, .pointer t.ci, .pointer t.nm, .string t.ns, .pointer t.ar, .pointer t.inp, .pointer t.ou, .slice t.ts.a t.ts.l t.ts.c]] w fun e w' => e = .returned (.bool true) ∧ Below w.heap.size w w' := by
  have Z := hide (BoxAt.made w [.string t.ty, .string t.id, .string t.st, .string t.ro, .pointer t.co, .slice t.su.a t.su.l t.su.c, .pointer t.ci, .pointer t.nm, .string t.ns, .pointer t.ar, .pointer t.inp, .pointer t.ou, .slice t.ts.a t.ts.l t.ts.c] 39)
  have Bel := hide (al w (.cells #[.string t.ty, .string t.id, .string t.st, .string t.ro, .pointer t.co, .slice t.su.a t.su.l t.su.c, .pointer t.ci, .pointer t.nm, .string t.ns, .pointer t.ar, .pointer t.inp, .pointer t.ou, .slice t.ts.a t.ts.l t.ts.c] 39))
  have Ok := hide (ok.step (al w (.cells #[.string t.ty, .string t.id, .string t.st, .string t.ro, .pointer t.co, .slice t.su.a t.su.l t.su.c, .pointer t.ci, .pointer t.nm, .string t.ns, .pointer t.ar, .pointer t.inp, .pointer t.ou, .slice t.ts.a t.ts.l t.ts.c] 39)))
  clear ok
  go_enter Try.func5, Try.ntmps5
  go_wp2_with fail
  generalize w.alloc (.cells #[.string t.ty, .string t.id, .string t.st, .string t.ro, .pointer t.co, .slice t.su.a t.su.l t.su.c, .pointer t.ci, .pointer t.nm, .string t.ns, .pointer t.ar, .pointer t.inp, .pointer t.ou, .slice t.ts.a t.ts.l t.ts.c] 39) = W1 at *
  refine (zzSizeItem_any d t W1 (unhide Ok)).mono ?_
  rintro e W2 ⟨r, rfl, hfit, hb⟩
  replace Z := hide ((unhide Z).step hb)
  replace Bel := hide ((unhide Bel).trans (hb.mono (unhide Bel).size))
  replace Ok := hide ((unhide Ok).step hb)
  clear hb
  by_cases hr : 1048576 < r
  · clear hfit
    go_wp2_with fail
    go_ret
    exact ⟨rfl, unhide Bel⟩
  · have fit := hfit (by omega)
    clear hfit
    have z0 := (unhide Z).get 0 _ rfl
    have z1 := (unhide Z).get 1 _ rfl
    have z2 := (unhide Z).get 2 _ rfl
    have z3 := (unhide Z).get 3 _ rfl
    have z4 := (unhide Z).get 4 _ rfl
    have z5 := (unhide Z).get 5 _ rfl
    have z6 := (unhide Z).get 6 _ rfl
    have z7 := (unhide Z).get 7 _ rfl
    have z8 := (unhide Z).get 8 _ rfl
    have z9 := (unhide Z).get 9 _ rfl
    have z10 := (unhide Z).get 10 _ rfl
    have z11 := (unhide Z).get 11 _ rfl
    have z12 := (unhide Z).get 12 _ rfl
    go_wp2_with fail
    clear z0 z1 z2 z3 z4 z5 z6 z7 z8 z9 z10 z11 z12
    refine (zzItem_any d t W2 (unhide Ok) fit).mono ?_
    rintro e W3 ⟨q, qv, tq, C, O, cq, cqv, oq, oqv, rfl, qn, ql, qp, qs, qf, tn, cC, cO, hb⟩
    obtain ⟨k, rfl, hk, resK⟩ := cont_res cC (unhide Ok).co (up_below hb)
    obtain ⟨o, rfl, ho, resO⟩ := cont_res cO (unhide Ok).ou (up_below hb)
    clear cC cO qf qs qn ql fit
    have Hk := hide hk
    have Ho := hide ho
    have ResK := hide resK
    have ResO := hide resO
    have Qn : Hid (0 < q.l → ∃ b off, q.a = some ⟨b, off, none⟩) := hide (fun h => let ⟨b, off, e, _⟩ := qp.2 0 h; ⟨b, off, e⟩)
    have Tn := hide tn
    have k1 := k.one
    have o1 := o.one
    clear hk ho qp tn resK resO
    replace Z := hide ((unhide Z).step hb)
    replace Bel := hide ((unhide Bel).trans (hb.mono (unhide Bel).size))
    replace Ok := hide ((unhide Ok).step hb)
    clear hb
    go_wp2_with fail
    have hb3 := al W3 (.cells #[.string t.ty, .string t.id, .string t.st, .string t.ro, k.val, .slice q.a q.l q.c, .pointer t.ci, .pointer t.nm, .string t.ns, .pointer t.ar, .pointer t.inp, o.val, .slice tq.a tq.l tq.c, .nilIface] 32)
    have I := hide (BoxAt.made W3 [.string t.ty, .string t.id, .string t.st, .string t.ro, k.val, .slice q.a q.l q.c, .pointer t.ci, .pointer t.nm, .string t.ns, .pointer t.ar, .pointer t.inp, o.val, .slice tq.a tq.l tq.c, .nilIface] 32)
    have hz : W3.heap.size ≤ (W3.alloc (.cells #[.string t.ty, .string t.id, .string t.st, .string t.ro, k.val, .slice q.a q.l q.c, .pointer t.ci, .pointer t.nm, .string t.ns, .pointer t.ar, .pointer t.inp, o.val, .slice tq.a tq.l tq.c, .nilIface] 32)).heap.size := hb3.size
    replace Z := hide ((unhide Z).step hb3)
    replace Bel := hide ((unhide Bel).trans (hb3.mono (unhide Bel).size))
    replace Ok := hide ((unhide Ok).step hb3)
    replace Hk := hide ((unhide Hk).up (up_below hb3))
    replace Ho := hide ((unhide Ho).up (up_below hb3))
    have U3 := hide (up_below hb3)
    clear hb3
    generalize hI : W3.heap.size = I3 at *
    clear hI
    generalize W3.alloc (.cells #[.string t.ty, .string t.id, .string t.st, .string t.ro, k.val, .slice q.a q.l q.c, .pointer t.ci, .pointer t.nm, .string t.ns, .pointer t.ar, .pointer t.inp, o.val, .slice tq.a tq.l tq.c, .nilIface] 32) = W4 at *
    refine (listed_any t.ty t.id t.st t.ro k q t.ci t.nm t.ns t.ar t.inp o tq W4 (unhide Hk) (unhide Ho)).mono ?_
    rintro e W5 ⟨ka, k', o', rfl, pre1, lk1, lo1, hk', ho', hb⟩
    have rk := unhide ResK W5 W4.heap.size _ _ _ _ ((unhide U3).trans (up_below hb)) hz pre1 lk1 hk'
    have ro := unhide ResO W5 W4.heap.size (isAsst t.ro) false _ _ ((unhide U3).trans (up_below hb)) hz (.other _) lo1 ho'
    have bx := BoxAt.made W5 [.string (typeOf t.ty t.ro), .string t.id, .string (statusOf t.st), .string t.ro, k'.val, .slice q.a q.l q.c, .pointer t.ci, .pointer t.nm, .string t.ns, .pointer t.ar, .pointer t.inp, o'.val, .slice tq.a tq.l tq.c, .nilIface] 32
    have hb5 := al W5 (.cells #[.string (typeOf t.ty t.ro), .string t.id, .string (statusOf t.st), .string t.ro, k'.val, .slice q.a q.l q.c, .pointer t.ci, .pointer t.nm, .string t.ns, .pointer t.ar, .pointer t.inp, o'.val, .slice tq.a tq.l tq.c, .nilIface] 32)
    have hbb := hb.trans (hb5.mono hb.size)
    have Fw := hide (FW.mk ((unhide Bel).trans (hbb.mono (unhide Bel).size)) ((unhide Z).step hbb) ((unhide I).step hbb) bx)
    have Rk := hide (rk.up (up_below hb5))
    have Ro := hide (ro.up (up_below hb5))
    replace Ok := hide ((unhide Ok).step hbb)
    have k1' := k'.one
    have o1' := o'.one
    clear hb hb5 hbb pre1 lk1 lo1 hk' ho' rk ro bx Hk Ho ResK ResO U3 Z I Bel hz
    generalize hty : typeOf t.ty t.ro = ty' at *
    generalize hst : statusOf t.st = st' at *
    have Hty := hide hty
    have Hst := hide hst
    clear hty hst
    go_upto_region 5 with fail
    generalize hB : W5.heap.size = B5 at *
    clear hB
    generalize W5.alloc (.cells #[.string ty', .string t.id, .string st', .string t.ro, k'.val, .slice q.a q.l q.c, .pointer t.ci, .pointer t.nm, .string t.ns, .pointer t.ar, .pointer t.inp, o'.val, .slice tq.a tq.l tq.c, .nilIface] 32) = W6 at *
    have z0 := (unhide Fw).z.get 0 _ rfl
    have z1 := (unhide Fw).z.get 1 _ rfl
    have z2 := (unhide Fw).z.get 2 _ rfl
    have z3 := (unhide Fw).z.get 3 _ rfl
    have z4 := (unhide Fw).z.get 4 _ rfl
    have z5 := (unhide Fw).z.get 5 _ rfl
    have z6 := (unhide Fw).z.get 6 _ rfl
    have z7 := (unhide Fw).z.get 7 _ rfl
    have z8 := (unhide Fw).z.get 8 _ rfl
    have z9 := (unhide Fw).z.get 9 _ rfl
    have z10 := (unhide Fw).z.get 10 _ rfl
    have z11 := (unhide Fw).z.get 11 _ rfl
    have z12 := (unhide Fw).z.get 12 _ rfl
    have b0 := (unhide Fw).b.get 0 _ rfl
    have b1 := (unhide Fw).b.get 1 _ rfl
    have b2 := (unhide Fw).b.get 2 _ rfl
    have b3 := (unhide Fw).b.get 3 _ rfl
    have b4 := (unhide Fw).b.get 4 _ rfl
    have b5 := (unhide Fw).b.get 5 _ rfl
    have b6 := (unhide Fw).b.get 6 _ rfl
    have b7 := (unhide Fw).b.get 7 _ rfl
    have b8 := (unhide Fw).b.get 8 _ rfl
    have b9 := (unhide Fw).b.get 9 _ rfl
    have b10 := (unhide Fw).b.get 10 _ rfl
    have b11 := (unhide Fw).b.get 11 _ rfl
    have b12 := (unhide Fw).b.get 12 _ rfl
    have b13 := (unhide Fw).b.get 13 _ rfl
    go_wp2_with fail
    refine (zzIsMsg_any _ _ _).mono ?_
    rintro e W9 ⟨rfl, hw9⟩
    obtain rfl : W6 = W9 := hw9.symm
    clear hw9
    go_upto_if 36 with fail
    go_cut [7, 8] from 33 to 36 (fun s7 s8 wd => s7 = .bool (isMsg t.ty t.ro) ∧ s8 = .string ty' ∧ wd = W6)
    case first =>
      by_cases hm : isMsg t.ty t.ro = true
      · obtain rfl : msgB = ty' := by rw [← unhide Hty]; simp only [typeOf, hm, cond_true]
        simp only [hm]
        go_wp2_with fail
        go_meet
        case rel => exact ⟨by rw [hm], rfl, rfl⟩
      · replace hm : isMsg t.ty t.ro = false := by simpa using hm
        obtain rfl : t.ty = ty' := by rw [← unhide Hty]; simp only [typeOf, hm, cond_false]
        simp only [hm]
        go_wp2_with fail
        go_meet
        case rel => exact ⟨by rw [hm], rfl, rfl⟩
    case rest =>
      obtain ⟨rfl, rfl, hwc⟩ := hcut
      obtain rfl : W6 = wc := hwc.symm
      clear hwc
      go_upto_if 40 with fail
      go_cut [9] from 37 to 40 (fun s9 wd => s9 = .string st' ∧ wd = W6)
      case first =>
        by_cases hs : t.st.toList.isEmpty = true
        · obtain rfl : comB = st' := by rw [← unhide Hst]; simp only [statusOf, hs, cond_true]
          simp only [hs]
          go_wp2_with fail
          go_meet
          case rel => exact ⟨rfl, rfl⟩
        · replace hs : t.st.toList.isEmpty = false := by simpa using hs
          obtain rfl : t.st = st' := by rw [← unhide Hst]; simp only [statusOf, hs, cond_false]
          simp only [hs]
          go_wp2_with fail
          go_meet
          case rel => exact ⟨rfl, rfl⟩
      case rest =>
        obtain ⟨rfl, hwc⟩ := hcut
        obtain rfl : W6 = wc := hwc.symm
        clear hwc
        have i5 := (unhide Fw).i.get 5 _ rfl
        have i12 := (unhide Fw).i.get 12 _ rfl
        go_wp2_with fail
        refine (zzSameList_self q _ (unhide Qn)).mono ?_
        rintro e W7 ⟨rfl, hb⟩
        replace Fw := hide ((unhide Fw).step hb)
        replace Rk := hide ((unhide Rk).up (up_below hb))
        replace Ro := hide ((unhide Ro).up (up_below hb))
        replace Ok := hide ((unhide Ok).step hb)
        clear hb z0 z1 z2 z3 z4 z5 z6 z7 z8 z9 z10 z11 z12 b0 b1 b2 b3 b4 b5 b6 b7 b8 b9 b10 b11 b12 b13 i5 i12
        have i12 := (unhide Fw).i.get 12 _ rfl
        have b12 := (unhide Fw).b.get 12 _ rfl
        go_wp2_with fail
        refine (zzSameToolList_self tq _ (unhide Tn)).mono ?_
        rintro e W8 ⟨rfl, hb⟩
        replace Fw := hide ((unhide Fw).step hb)
        replace Rk := hide ((unhide Rk).up (up_below hb))
        replace Ro := hide ((unhide Ro).up (up_below hb))
        replace Ok := hide ((unhide Ok).step hb)
        clear hb i12 b12
        have b0 := (unhide Fw).b.get 0 _ rfl
        have b1 := (unhide Fw).b.get 1 _ rfl
        have b2 := (unhide Fw).b.get 2 _ rfl
        have b3 := (unhide Fw).b.get 3 _ rfl
        have b4 := (unhide Fw).b.get 4 _ rfl
        have b5 := (unhide Fw).b.get 5 _ rfl
        have b6 := (unhide Fw).b.get 6 _ rfl
        have b7 := (unhide Fw).b.get 7 _ rfl
        have b8 := (unhide Fw).b.get 8 _ rfl
        have b9 := (unhide Fw).b.get 9 _ rfl
        have b10 := (unhide Fw).b.get 10 _ rfl
        have b11 := (unhide Fw).b.get 11 _ rfl
        have b12 := (unhide Fw).b.get 12 _ rfl
        have b13 := (unhide Fw).b.get 13 _ rfl
        go_wp2_with fail
        refine (zzErrOf_any _ _ _ _ _ _ _ _ _ _ _ _ _ _ _ k1' o1' rfl rfl rfl rfl rfl rfl rfl rfl rfl rfl rfl rfl).mono ?_
        rintro e W9 ⟨rfl, hb⟩
        replace Fw := hide ((unhide Fw).step hb)
        replace Rk := hide ((unhide Rk).up (up_below hb))
        replace Ro := hide ((unhide Ro).up (up_below hb))
        replace Ok := hide ((unhide Ok).step hb)
        clear hb b0 b1 b2 b3 b4 b5 b6 b7 b8 b9 b10 b11 b12 b13 Hty Hst
        generalize hM : isMsg t.ty t.ro = m at *
        clear hM
        have Co := hide (unhide Ok).co
        have Ou := hide (unhide Ok).ou
        clear Ok
        generalize hC : t.co = co at *
        generalize hO : t.ou = ou at *
        clear hC hO
        have z4 := (unhide Fw).z.get 4 _ rfl
        go_upto_if 119 with fail
        go_cut [10, 11, 12, 13, 14] from 117 to 186 (fun s10 s11 s12 s13 s14 wd => s10 = .bool true ∧ Below W9.heap.size W9 wd)
        case first =>
          have b4 := (unhide Fw).b.get 4 _ rfl
          have z3 := (unhide Fw).z.get 3 _ rfl
          have rk := unhide Rk
          rcases rk with ⟨b, qv, rfl, hco, hm⟩ | ⟨rfl, hco, hm⟩ | ⟨a', a, s, b, qv, rfl, hco, htx, hs, hm, hp, hmp⟩ | ⟨a', a, s, rfl, hco, htx, hs, hm⟩ | ⟨a', b, gv, cqv2, rfl, hco, htx, hl, hg, hh, good, hne⟩
          · skip
            subst hm
            subst hco
            simp only [val_parts] at b4
            go_wp2_with fail
            refine (zzPartsOf_any (.parts ⟨some ⟨b, 0, none⟩, 0, 0⟩ qv) _).mono ?_
            rintro e wx ⟨rfl, hwx⟩
            obtain rfl : W9 = wx := hwx.symm
            clear hwx
            simp only [sl_nil, sl_text, sl_parts, isParts_nil, isParts_text, isParts_parts]
            go_wp2_with fail
            go_meet
            case rel => exact ⟨rfl, Below.refl _ _⟩
          · skip
            subst hm
            subst hco
            simp only [val_nil] at b4
            go_wp2_with fail
            go_meet
            case rel => exact ⟨rfl, Below.refl _ _⟩
          · skip
            subst hm
            subst hco
            simp only [val_parts] at b4
            obtain ⟨cb, coff, rfl, c0, -, -, -⟩ := unhide Co a' rfl
            rw [htx] at c0
            have Hp := hide hp
            have Hm := hide hmp
            have Htx := hide htx
            clear hp hmp htx
            go_wp2_with fail
            go_region_held3 (fun v => v.cell? ⟨B5, 4, none⟩ = some (.iface 56 (.slice (some ⟨b, 0, none⟩) 1 1)) ∧ v.cell? ⟨w.heap.size, 4, none⟩ = some (.pointer (some ⟨cb, coff, none⟩)) ∧ v.cell? ⟨cb, coff, none⟩ = some (.pointer (some a)) ∧ v.cell? a = some (.string s) ∧ v.cell? ⟨w.heap.size, 3, none⟩ = some (.string t.ro))
              (first | exact ⟨b4, z4, c0, hs, z3⟩ | exact ⟨Below.keep (unhide Hb) b4, Below.keep (unhide Hb) z4, Below.keep (unhide Hb) c0, Below.keep (unhide Hb) hs, Below.keep (unhide Hb) z3⟩)
              (first
                | (go_at_call 18; refine (zzMessageTextOK_good b qv s (t.ro.toList == [97, 115, 115, 105, 115, 116, 97, 110, 116]) _ ?_ ?_).mono ?_; exact (unhide Hp).step (Below.refl _ _).drew; exact (unhide Hm).up (up_below (Below.refl _ _).drew); rintro e w1 ⟨rfl, hb⟩; have Hb : Hid (Below W9.heap.size W9 w1) := hide ((Below.refl _ _).drew.trans hb); clear hb))
            go_wp2_with fail
            go_meet
            case rel => exact ⟨rfl, unhide Hb⟩
          · skip
            subst hm
            subst hco
            simp only [val_text] at b4
            obtain ⟨cb, coff, rfl, c0, -, -, -⟩ := unhide Co a' rfl
            rw [htx] at c0
            have Htx := hide htx
            clear htx
            go_wp2_with fail
            refine (zzTextOf_any (.text s) _).mono ?_
            rintro e wx ⟨rfl, hwx⟩
            obtain rfl : W9 = wx := hwx.symm
            clear hwx
            simp only [str_nil, str_text, str_parts, isText_nil, isText_text, isText_parts]
            go_wp2_with fail
            go_meet
            case rel => exact ⟨rfl, Below.refl _ _⟩
          · skip
            subst hco
            simp only [val_parts] at b4
            obtain ⟨cb, coff, rfl, c0, c1, -, hps⟩ := unhide Co a' rfl
            rw [htx] at c0
            simp only [Raw.val] at c1
            obtain ⟨ca, cl, cc⟩ := cq
            simp only at hl
            subst hl
            have Htx := hide htx
            have Hg := hide hg
            have Hh := hide hh
            have Gd := hide good
            have Hne := hide hne
            have Hps := hide hps
            clear htx hg hh good hne hps
            go_wp2_with fail
            go_region_held3 (fun v => v.cell? ⟨B5, 4, none⟩ = some (.iface 56 (.slice (some ⟨b, 0, none⟩) t.cps.l t.cps.l)) ∧ v.cell? ⟨w.heap.size, 4, none⟩ = some (.pointer (some ⟨cb, coff, none⟩)) ∧ v.cell? ⟨cb, coff + 1, none⟩ = some (.slice t.cps.a t.cps.l t.cps.c))
              (first | exact ⟨b4, z4, c1⟩ | exact ⟨Below.keep (unhide Hb) b4, Below.keep (unhide Hb) z4, Below.keep (unhide Hb) c1⟩)
              (first
                | (go_at_call 20; refine (zzListedPartsOK_good b t.cps.l gv t.cpv cqv2 t.cps.a t.cps.c ca cc _ ?_ ?_ ?_ ?_ ?_).mono ?_; exact (unhide Hg).step (Below.refl _ _).drew; exact (unhide Hps).step (Below.refl _ _).drew; exact (unhide Hh).step (Below.refl _ _).drew; exact (fun i hi => (unhide Gd i hi).up (up_below (Below.refl _ _).drew)); exact (unhide Hne); rintro e w1 ⟨rfl, hb⟩; have Hb : Hid (Below W9.heap.size W9 w1) := hide ((Below.refl _ _).drew.trans hb); clear hb))
            go_wp2_with fail
            go_meet
            case rel => exact ⟨rfl, unhide Hb⟩
        case rest =>
          obtain ⟨rfl, hb⟩ := hcut
          replace Fw := hide ((unhide Fw).step hb)
          replace Ro := hide ((unhide Ro).up (up_below hb))
          replace Ou := hide ((unhide Ou).step hb)
          clear hb Rk Co z4
          have z11 := (unhide Fw).z.get 11 _ rfl
          have b11 := (unhide Fw).b.get 11 _ rfl
          have rr := unhide Ro
          clear Ro
          rcases rr with ⟨b, qv, rfl, hco, hm⟩ | ⟨rfl, hco, hm⟩ | ⟨a', a, s, b, qv, rfl, hco, htx, hs, hm, hp, hmp⟩ | ⟨a', a, s, rfl, hco, htx, hs, hm⟩ | ⟨a', b, gv, cqv2, rfl, hco, htx, hl, hg, hh, good, hne⟩
          · cases hm
          · skip
            subst hco
            simp only [val_nil] at b11
            go_wp2_with fail
            go_ret
            exact ⟨rfl, (unhide Fw).bel⟩
          · cases hm
          · skip
            subst hco
            simp only [val_text] at b11
            obtain ⟨cb, coff, rfl, c0, -, -, -⟩ := unhide Ou a' rfl
            rw [htx] at c0
            clear htx
            go_wp2_with fail
            refine (zzTextOf_any (.text s) _).mono ?_
            rintro e wx ⟨rfl, hwx⟩
            obtain rfl : wc = wx := hwx.symm
            clear hwx
            simp only [str_nil, str_text, str_parts, isText_nil, isText_text, isText_parts]
            go_wp2_with fail
            go_ret
            exact ⟨rfl, (unhide Fw).bel⟩
          · skip
            subst hco
            simp only [val_parts] at b11
            obtain ⟨cb, coff, rfl, c0, c1, -, hps⟩ := unhide Ou a' rfl
            rw [htx] at c0
            simp only [Raw.val] at c1
            obtain ⟨ca, cl, cc⟩ := oq
            simp only at hl
            subst hl
            have Hg := hide hg
            have Hh := hide hh
            have Gd := hide good
            have Hne := hide hne
            have Hps := hide hps
            clear htx hg hh good hne hps
            go_wp2_with fail
            go_region_held3 (fun v => v.cell? ⟨B5, 11, none⟩ = some (.iface 56 (.slice (some ⟨b, 0, none⟩) t.ops.l t.ops.l)) ∧ v.cell? ⟨w.heap.size, 11, none⟩ = some (.pointer (some ⟨cb, coff, none⟩)) ∧ v.cell? ⟨cb, coff + 1, none⟩ = some (.slice t.ops.a t.ops.l t.ops.c))
              (first | exact ⟨b11, z11, c1⟩ | exact ⟨Below.keep (unhide Hb) b11, Below.keep (unhide Hb) z11, Below.keep (unhide Hb) c1⟩)
              (first
                | (go_at_call 20; refine (zzListedPartsOK_good b t.ops.l gv t.opv cqv2 t.ops.a t.ops.c ca cc _ ?_ ?_ ?_ ?_ ?_).mono ?_; exact (unhide Hg).step (Below.refl _ _).drew; exact (unhide Hps).step (Below.refl _ _).drew; exact (unhide Hh).step (Below.refl _ _).drew; exact (fun i hi => (unhide Gd i hi).up (up_below (Below.refl _ _).drew)); exact (unhide Hne); rintro e w1 ⟨rfl, hb⟩; have Hb : Hid (Below wc.heap.size wc w1) := hide ((Below.refl _ _).drew.trans hb); clear hb))
            go_wp2_with fail
            go_ret
            exact ⟨rfl, ((unhide Fw).step (unhide Hb)).bel⟩

end Go.Proofs.Qxb6616371a
