/-
  THE MAIN WALK OF FnListedTwiceIsListedOnce.
-/
import Derived.Test.Qxb6616371aTwice
import Derived.Test.Qxb6616371aSameItem
namespace Go.Proofs.Qxb6616371a
open Go.RowKit
set_option linter.unusedVariables false

set_option maxRecDepth 100000 in
set_option maxHeartbeats 2000000 in
theorem twice_walk (d : Nat) (t : ItemV) (w : World) (ok : ItemOk d w t) : Calls Try.prog 6 #[.agg #[.string t.ty, .string t.id, .string t.st, .string t.ro, .pointer t.co, .slice t.su.a t.su.l t.su.c, .pointer t.ci, .pointer t.nm, .string t.ns, .pointer t.ar, .pointer t.inp, .pointer t.ou, .slice t.ts.a t.ts.l t.ts.c]] w fun e w' => e = .returned (.bool true) ∧ Below w.heap.size w w' := by
  have Z := hide (BoxAt.made w [.string t.ty, .string t.id, .string t.st, .string t.ro, .pointer t.co, .slice t.su.a t.su.l t.su.c, .pointer t.ci, .pointer t.nm, .string t.ns, .pointer t.ar, .pointer t.inp, .pointer t.ou, .slice t.ts.a t.ts.l t.ts.c] 39)
  have Bel := hide (al w (.cells #[.string t.ty, .string t.id, .string t.st, .string t.ro, .pointer t.co, .slice t.su.a t.su.l t.su.c, .pointer t.ci, .pointer t.nm, .string t.ns, .pointer t.ar, .pointer t.inp, .pointer t.ou, .slice t.ts.a t.ts.l t.ts.c] 39))
  have Ok := hide (ok.step (al w (.cells #[.string t.ty, .string t.id, .string t.st, .string t.ro, .pointer t.co, .slice t.su.a t.su.l t.su.c, .pointer t.ci, .pointer t.nm, .string t.ns, .pointer t.ar, .pointer t.inp, .pointer t.ou, .slice t.ts.a t.ts.l t.ts.c] 39)))
  clear ok
  go_enter Try.func6, Try.ntmps6
  go_wp2_with fail
  generalize w.alloc (.cells #[.string t.ty, .string t.id, .string t.st, .string t.ro, .pointer t.co, .slice t.su.a t.su.l t.su.c, .pointer t.ci, .pointer t.nm, .string t.ns, .pointer t.ar, .pointer t.inp, .pointer t.ou, .slice t.ts.a t.ts.l t.ts.c] 39) = W1 at *
  refine (zzSizeItem_any d t W1 (unhide Ok)).mono ?_
  rintro e W2 ⟨r, rfl, hfit, hb⟩
  replace Z := hide ((unhide Z).step hb)
  replace Bel := hide ((unhide Bel).trans (hb.mono (unhide Bel).size))
  replace Ok := hide ((unhide Ok).step hb)
  clear hb
  by_cases hr : 1048576 < r
  · clear hfit
    go_wp2_with fail
    go_ret
    exact ⟨rfl, unhide Bel⟩
  · have fit := hfit (by omega)
    clear hfit
    have z0 := (unhide Z).get 0 _ rfl
    have z1 := (unhide Z).get 1 _ rfl
    have z2 := (unhide Z).get 2 _ rfl
    have z3 := (unhide Z).get 3 _ rfl
    have z4 := (unhide Z).get 4 _ rfl
    have z5 := (unhide Z).get 5 _ rfl
    have z6 := (unhide Z).get 6 _ rfl
    have z7 := (unhide Z).get 7 _ rfl
    have z8 := (unhide Z).get 8 _ rfl
    have z9 := (unhide Z).get 9 _ rfl
    have z10 := (unhide Z).get 10 _ rfl
    have z11 := (unhide Z).get 11 _ rfl
    have z12 := (unhide Z).get 12 _ rfl
    go_wp2_with fail
    clear z0 z1 z2 z3 z4 z5 z6 z7 z8 z9 z10 z11 z12
    refine (zzItem_any d t W2 (unhide Ok) fit).mono ?_
    rintro e W3 ⟨q, qv, tq, C, O, cq, cqv, oq, oqv, rfl, qn, ql, qp, qs, qf, tn, cC, cO, hb⟩
    obtain ⟨k, rfl, hk⟩ := cont_ck cC (unhide Ok).co
    obtain ⟨o, rfl, ho⟩ := cont_ck cO (unhide Ok).ou
    clear cC cO qf qs qn ql fit
    have Hk := hide hk
    have Ho := hide ho
    have Hq := hide qp
    have Tn := hide tn
    have k1 := k.one
    have o1 := o.one
    clear hk ho qp tn
    replace Z := hide ((unhide Z).step hb)
    replace Bel := hide ((unhide Bel).trans (hb.mono (unhide Bel).size))
    replace Ok := hide ((unhide Ok).step hb)
    clear hb
    go_wp2_with fail
    have hb3 := al W3 (.cells #[.string t.ty, .string t.id, .string t.st, .string t.ro, k.val, .slice q.a q.l q.c, .pointer t.ci, .pointer t.nm, .string t.ns, .pointer t.ar, .pointer t.inp, o.val, .slice tq.a tq.l tq.c, .nilIface] 32)
    replace Z := hide ((unhide Z).step hb3)
    replace Bel := hide ((unhide Bel).trans (hb3.mono (unhide Bel).size))
    replace Ok := hide ((unhide Ok).step hb3)
    replace Hk := hide ((unhide Hk).up (up_below hb3))
    replace Ho := hide ((unhide Ho).up (up_below hb3))
    replace Hq := hide ((unhide Hq).step hb3)
    clear hb3
    generalize W3.alloc (.cells #[.string t.ty, .string t.id, .string t.st, .string t.ro, k.val, .slice q.a q.l q.c, .pointer t.ci, .pointer t.nm, .string t.ns, .pointer t.ar, .pointer t.inp, o.val, .slice tq.a tq.l tq.c, .nilIface] 32) = W4 at *
    refine (listed_any t.ty t.id t.st t.ro k q t.ci t.nm t.ns t.ar t.inp o tq W4 (unhide Hk) (unhide Ho)).mono ?_
    rintro e W5 ⟨ka, k', o', rfl, pre1, lk1, lo1, hk', ho', hb⟩
    replace Z := hide ((unhide Z).step hb)
    replace Bel := hide ((unhide Bel).trans (hb.mono (unhide Bel).size))
    replace Ok := hide ((unhide Ok).step hb)
    replace Hq := hide ((unhide Hq).step hb)
    have Pre1 := hide pre1
    have Lk1 := hide lk1
    have Lo1 := hide lo1
    clear hb pre1 lk1 lo1 Hk Ho k1 o1
    have Hk := hide hk'
    have Ho := hide ho'
    have k1 := k'.one
    have o1 := o'.one
    clear hk' ho'
    generalize hty : typeOf t.ty t.ro = ty' at *
    generalize hst : statusOf t.st = st' at *
    have Hty := hide hty
    have Hst := hide hst
    clear hty hst
    go_wp2_with fail
    have B := hide (BoxAt.made W5 [.string ty', .string t.id, .string st', .string t.ro, k'.val, .slice q.a q.l q.c, .pointer t.ci, .pointer t.nm, .string t.ns, .pointer t.ar, .pointer t.inp, o'.val, .slice tq.a tq.l tq.c, .nilIface] 32)
    have hb3 := al W5 (.cells #[.string ty', .string t.id, .string st', .string t.ro, k'.val, .slice q.a q.l q.c, .pointer t.ci, .pointer t.nm, .string t.ns, .pointer t.ar, .pointer t.inp, o'.val, .slice tq.a tq.l tq.c, .nilIface] 32)
    replace Z := hide ((unhide Z).step hb3)
    replace Bel := hide ((unhide Bel).trans (hb3.mono (unhide Bel).size))
    replace Ok := hide ((unhide Ok).step hb3)
    replace Hk := hide ((unhide Hk).up (up_below hb3))
    replace Ho := hide ((unhide Ho).up (up_below hb3))
    replace Hq := hide ((unhide Hq).step hb3)
    clear hb3
    generalize hB : W5.heap.size = B5 at *
    clear hB
    generalize W5.alloc (.cells #[.string ty', .string t.id, .string st', .string t.ro, k'.val, .slice q.a q.l q.c, .pointer t.ci, .pointer t.nm, .string t.ns, .pointer t.ar, .pointer t.inp, o'.val, .slice tq.a tq.l tq.c, .nilIface] 32) = W6 at *
    refine (listed_any ty' t.id st' t.ro k' q t.ci t.nm t.ns t.ar t.inp o' tq W6 (unhide Hk) (unhide Ho)).mono ?_
    rintro e W7 ⟨kb, k'', o'', rfl, pre2, lk2, lo2, hk'', ho'', hb⟩
    rw [← unhide Hty, isMsg_typeOf] at pre2
    obtain rfl : k' = kb := (pre_again (unhide Pre1) (unhide Lk1) pre2).symm
    have sk := sk_again (unhide Lk1) lk2 ((unhide Hk).up (up_below hb)) hk''
    have so := sk_again (unhide Lo1) lo2 ((unhide Ho).up (up_below hb)) ho''
    have isP := pre_parts (unhide Pre1) (unhide Lk1)
    replace Z := hide ((unhide Z).step hb)
    replace B := hide ((unhide B).step hb)
    replace Bel := hide ((unhide Bel).trans (hb.mono (unhide Bel).size))
    replace Ok := hide ((unhide Ok).step hb)
    replace Hq := hide ((unhide Hq).step hb)
    have IsP := hide isP
    have Sk := hide sk
    have So := hide so
    clear hb pre2 lk2 lo2 hk'' ho'' Pre1 Lk1 Lo1 Hk Ho isP sk so
    have k2 := k''.one
    have o2 := o''.one
    have ety : typeOf ty' t.ro = ty' := by rw [← unhide Hty]; exact typeOf_typeOf _ _
    have est : statusOf st' = st' := by rw [← unhide Hst]; exact statusOf_statusOf _
    rw [ety, est]
    clear ety est
    go_upto_region 6 with fail
    have T := hide (BoxAt.made W7 [.string ty', .string t.id, .string st', .string t.ro, k''.val, .slice q.a q.l q.c, .pointer t.ci, .pointer t.nm, .string t.ns, .pointer t.ar, .pointer t.inp, o''.val, .slice tq.a tq.l tq.c, .nilIface] 32)
    have hb3 := al W7 (.cells #[.string ty', .string t.id, .string st', .string t.ro, k''.val, .slice q.a q.l q.c, .pointer t.ci, .pointer t.nm, .string t.ns, .pointer t.ar, .pointer t.inp, o''.val, .slice tq.a tq.l tq.c, .nilIface] 32)
    replace Z := hide ((unhide Z).step hb3)
    replace B := hide ((unhide B).step hb3)
    replace Bel := hide ((unhide Bel).trans (hb3.mono (unhide Bel).size))
    replace Ok := hide ((unhide Ok).step hb3)
    replace Sk := hide ((unhide Sk).up (up_below hb3))
    replace So := hide ((unhide So).up (up_below hb3))
    replace Hq := hide ((unhide Hq).step hb3)
    clear hb3
    generalize hB : W7.heap.size = B7 at *
    clear hB
    generalize W7.alloc (.cells #[.string ty', .string t.id, .string st', .string t.ro, k''.val, .slice q.a q.l q.c, .pointer t.ci, .pointer t.nm, .string t.ns, .pointer t.ar, .pointer t.inp, o''.val, .slice tq.a tq.l tq.c, .nilIface] 32) = W8 at *
    have z0 := (unhide Z).get 0 _ rfl
    have z2 := (unhide Z).get 2 _ rfl
    have z3 := (unhide Z).get 3 _ rfl
    go_wp2_with fail
    refine (zzIsMsg_any _ _ _).mono ?_
    rintro e W9 ⟨rfl, rfl⟩
    have y0 := (unhide B).get 0 _ rfl
    have y2 := (unhide B).get 2 _ rfl
    cases hm : isMsg t.ty t.ro with
    | false =>
      obtain rfl : t.ty = ty' := by rw [← unhide Hty]; simp only [typeOf, hm, cond_false]
      by_cases hs : t.st.toList.isEmpty = true
      · obtain rfl : comB = st' := by rw [← unhide Hst]; simp only [statusOf, hs, cond_true]
        simp only [comB] at y2
        go_upto_region 19 with fail
        try clear y4
        clear z0 z2 z3 y0 y2
        have u0 := (unhide B).get 0 _ rfl
        have u1 := (unhide B).get 1 _ rfl
        have u2 := (unhide B).get 2 _ rfl
        have u3 := (unhide B).get 3 _ rfl
        have u4 := (unhide B).get 4 _ rfl
        have u5 := (unhide B).get 5 _ rfl
        have u6 := (unhide B).get 6 _ rfl
        have u7 := (unhide B).get 7 _ rfl
        have u8 := (unhide B).get 8 _ rfl
        have u9 := (unhide B).get 9 _ rfl
        have u10 := (unhide B).get 10 _ rfl
        have u11 := (unhide B).get 11 _ rfl
        have u12 := (unhide B).get 12 _ rfl
        have u13 := (unhide B).get 13 _ rfl
        have v0 := (unhide T).get 0 _ rfl
        have v1 := (unhide T).get 1 _ rfl
        have v2 := (unhide T).get 2 _ rfl
        have v3 := (unhide T).get 3 _ rfl
        have v4 := (unhide T).get 4 _ rfl
        have v5 := (unhide T).get 5 _ rfl
        have v6 := (unhide T).get 6 _ rfl
        have v7 := (unhide T).get 7 _ rfl
        have v8 := (unhide T).get 8 _ rfl
        have v9 := (unhide T).get 9 _ rfl
        have v10 := (unhide T).get 10 _ rfl
        have v11 := (unhide T).get 11 _ rfl
        have v12 := (unhide T).get 12 _ rfl
        have v13 := (unhide T).get 13 _ rfl
        go_wp2_with fail
        refine (zzSameItemValue_same t.ty t.id comB t.ro k' k'' q qv t.ci t.nm t.ns t.ar t.inp o' o'' tq _ (unhide Sk) (unhide So) (unhide Hq) (unhide Ok).ci (unhide Ok).nm (unhide Ok).ar (unhide Ok).inp (unhide Tn)).mono ?_
        rintro e W11 ⟨rfl, hb⟩
        have Hb := hide hb
        clear hb u0 v0 u1 v1 u2 v2 u3 v3 u4 v4 u5 v5 u6 v6 u7 v7 u8 v8 u9 v9 u10 v10 u11 v11 u12 v12 u13 v13
        go_wp2_with fail
        go_ret
        exact ⟨rfl, (unhide Bel).trans ((unhide Hb).mono (unhide Bel).size)⟩
      · replace hs : t.st.toList.isEmpty = false := by simpa using hs
        obtain rfl : t.st = st' := by rw [← unhide Hst]; simp only [statusOf, hs, cond_false]
        go_upto_region 19 with fail
        try clear y4
        clear z0 z2 z3 y0 y2
        have u0 := (unhide B).get 0 _ rfl
        have u1 := (unhide B).get 1 _ rfl
        have u2 := (unhide B).get 2 _ rfl
        have u3 := (unhide B).get 3 _ rfl
        have u4 := (unhide B).get 4 _ rfl
        have u5 := (unhide B).get 5 _ rfl
        have u6 := (unhide B).get 6 _ rfl
        have u7 := (unhide B).get 7 _ rfl
        have u8 := (unhide B).get 8 _ rfl
        have u9 := (unhide B).get 9 _ rfl
        have u10 := (unhide B).get 10 _ rfl
        have u11 := (unhide B).get 11 _ rfl
        have u12 := (unhide B).get 12 _ rfl
        have u13 := (unhide B).get 13 _ rfl
        have v0 := (unhide T).get 0 _ rfl
        have v1 := (unhide T).get 1 _ rfl
        have v2 := (unhide T).get 2 _ rfl
        have v3 := (unhide T).get 3 _ rfl
        have v4 := (unhide T).get 4 _ rfl
        have v5 := (unhide T).get 5 _ rfl
        have v6 := (unhide T).get 6 _ rfl
        have v7 := (unhide T).get 7 _ rfl
        have v8 := (unhide T).get 8 _ rfl
        have v9 := (unhide T).get 9 _ rfl
        have v10 := (unhide T).get 10 _ rfl
        have v11 := (unhide T).get 11 _ rfl
        have v12 := (unhide T).get 12 _ rfl
        have v13 := (unhide T).get 13 _ rfl
        go_wp2_with fail
        refine (zzSameItemValue_same t.ty t.id t.st t.ro k' k'' q qv t.ci t.nm t.ns t.ar t.inp o' o'' tq _ (unhide Sk) (unhide So) (unhide Hq) (unhide Ok).ci (unhide Ok).nm (unhide Ok).ar (unhide Ok).inp (unhide Tn)).mono ?_
        rintro e W11 ⟨rfl, hb⟩
        have Hb := hide hb
        clear hb u0 v0 u1 v1 u2 v2 u3 v3 u4 v4 u5 v5 u6 v6 u7 v7 u8 v8 u9 v9 u10 v10 u11 v11 u12 v12 u13 v13
        go_wp2_with fail
        go_ret
        exact ⟨rfl, (unhide Bel).trans ((unhide Hb).mono (unhide Bel).size)⟩
    | true =>
      have hp := (unhide IsP) hm
      obtain rfl : msgB = ty' := by rw [← unhide Hty]; simp only [typeOf, hm, cond_true]
      simp only [msgB] at y0
      have y4 := (unhide B).get 4 _ rfl
      by_cases hs : t.st.toList.isEmpty = true
      · obtain rfl : comB = st' := by rw [← unhide Hst]; simp only [statusOf, hs, cond_true]
        simp only [comB] at y2
        go_wp2_with fail
        refine (zzPartsOf_any _ _).mono ?_
        rintro e W10 ⟨rfl, rfl⟩
        rw [hp]
        go_upto_region 19 with fail
        try clear y4
        clear z0 z2 z3 y0 y2
        have u0 := (unhide B).get 0 _ rfl
        have u1 := (unhide B).get 1 _ rfl
        have u2 := (unhide B).get 2 _ rfl
        have u3 := (unhide B).get 3 _ rfl
        have u4 := (unhide B).get 4 _ rfl
        have u5 := (unhide B).get 5 _ rfl
        have u6 := (unhide B).get 6 _ rfl
        have u7 := (unhide B).get 7 _ rfl
        have u8 := (unhide B).get 8 _ rfl
        have u9 := (unhide B).get 9 _ rfl
        have u10 := (unhide B).get 10 _ rfl
        have u11 := (unhide B).get 11 _ rfl
        have u12 := (unhide B).get 12 _ rfl
        have u13 := (unhide B).get 13 _ rfl
        have v0 := (unhide T).get 0 _ rfl
        have v1 := (unhide T).get 1 _ rfl
        have v2 := (unhide T).get 2 _ rfl
        have v3 := (unhide T).get 3 _ rfl
        have v4 := (unhide T).get 4 _ rfl
        have v5 := (unhide T).get 5 _ rfl
        have v6 := (unhide T).get 6 _ rfl
        have v7 := (unhide T).get 7 _ rfl
        have v8 := (unhide T).get 8 _ rfl
        have v9 := (unhide T).get 9 _ rfl
        have v10 := (unhide T).get 10 _ rfl
        have v11 := (unhide T).get 11 _ rfl
        have v12 := (unhide T).get 12 _ rfl
        have v13 := (unhide T).get 13 _ rfl
        go_wp2_with fail
        refine (zzSameItemValue_same msgB t.id comB t.ro k' k'' q qv t.ci t.nm t.ns t.ar t.inp o' o'' tq _ (unhide Sk) (unhide So) (unhide Hq) (unhide Ok).ci (unhide Ok).nm (unhide Ok).ar (unhide Ok).inp (unhide Tn)).mono ?_
        rintro e W11 ⟨rfl, hb⟩
        have Hb := hide hb
        clear hb u0 v0 u1 v1 u2 v2 u3 v3 u4 v4 u5 v5 u6 v6 u7 v7 u8 v8 u9 v9 u10 v10 u11 v11 u12 v12 u13 v13
        go_wp2_with fail
        go_ret
        exact ⟨rfl, (unhide Bel).trans ((unhide Hb).mono (unhide Bel).size)⟩
      · replace hs : t.st.toList.isEmpty = false := by simpa using hs
        obtain rfl : t.st = st' := by rw [← unhide Hst]; simp only [statusOf, hs, cond_false]
        go_wp2_with fail
        refine (zzPartsOf_any _ _).mono ?_
        rintro e W10 ⟨rfl, rfl⟩
        rw [hp]
        go_upto_region 19 with fail
        try clear y4
        clear z0 z2 z3 y0 y2
        have u0 := (unhide B).get 0 _ rfl
        have u1 := (unhide B).get 1 _ rfl
        have u2 := (unhide B).get 2 _ rfl
        have u3 := (unhide B).get 3 _ rfl
        have u4 := (unhide B).get 4 _ rfl
        have u5 := (unhide B).get 5 _ rfl
        have u6 := (unhide B).get 6 _ rfl
        have u7 := (unhide B).get 7 _ rfl
        have u8 := (unhide B).get 8 _ rfl
        have u9 := (unhide B).get 9 _ rfl
        have u10 := (unhide B).get 10 _ rfl
        have u11 := (unhide B).get 11 _ rfl
        have u12 := (unhide B).get 12 _ rfl
        have u13 := (unhide B).get 13 _ rfl
        have v0 := (unhide T).get 0 _ rfl
        have v1 := (unhide T).get 1 _ rfl
        have v2 := (unhide T).get 2 _ rfl
        have v3 := (unhide T).get 3 _ rfl
        have v4 := (unhide T).get 4 _ rfl
        have v5 := (unhide T).get 5 _ rfl
        have v6 := (unhide T).get 6 _ rfl
        have v7 := (unhide T).get 7 _ rfl
        have v8 := (unhide T).get 8 _ rfl
        have v9 := (unhide T).get 9 _ rfl
        have v10 := (unhide T).get 10 _ rfl
        have v11 := (unhide T).get 11 _ rfl
        have v12 := (unhide T).get 12 _ rfl
        have v13 := (unhide T).get 13 _ rfl
        go_wp2_with fail
        refine (zzSameItemValue_same msgB t.id t.st t.ro k' k'' q qv t.ci t.nm t.ns t.ar t.inp o' o'' tq _ (unhide Sk) (unhide So) (unhide Hq) (unhide Ok).ci (unhide Ok).nm (unhide Ok).ar (unhide Ok).inp (unhide Tn)).mono ?_
        rintro e W11 ⟨rfl, hb⟩
        have Hb := hide hb
        clear hb u0 v0 u1 v1 u2 v2 u3 v3 u4 v4 u5 v5 u6 v6 u7 v7 u8 v8 u9 v9 u10 v10 u11 v11 u12 v12 u13 v13
        go_wp2_with fail
        go_ret
        exact ⟨rfl, (unhide Bel).trans ((unhide Hb).mono (unhide Bel).size)⟩


end Go.Proofs.Qxb6616371a
