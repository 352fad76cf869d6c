/-
  (InputItem).Listed OF AN ITEM WITH NO CONTENT AND NO OUTPUT.
-/
import Derived.Test.Qxb6616371aOps
namespace Go.Proofs.Qxb6616371a
open Go.RowKit

set_option maxRecDepth 100000 in
set_option maxHeartbeats 400000 in
theorem listedParts_nil (w : World) :
    Calls Try.prog 22 #[.nilIface] w fun e w' => e = .returned .nilIface ∧ w' = w := by
  go_enter Try.func22, Try.ntmps22
  go_wp2
  go_ret
  exact ⟨rfl, rfl⟩

set_option maxRecDepth 100000 in
set_option maxHeartbeats 400000 in
theorem listedParts_empty (a : Addr) (w : World) :
    Calls Try.prog 22 #[.iface 56 (.slice (some a) 0 0)] w fun e w' => e = .returned (.iface 56 (.slice (some ⟨w.heap.size, 0, none⟩) 0 0)) ∧ w' = w.alloc (.cells #[] 60) := by
  go_enter Try.func22, Try.ntmps22
  go_wp2
  refine wp_loop_once ?_
  go_wp2
  go_ret
  exact ⟨rfl, rfl⟩

set_option maxRecDepth 100000 in
set_option maxHeartbeats 1000000 in
theorem listed_nil_ff (t s r : ByteArray) (i su ca n ns ar inp ts er : Value) (w : World) (hm : isMsg t r = false) (hs : s.toList.isEmpty = false)
    (h1 : i.oneCell' = true) (h2 : su.oneCell' = true) (h3 : ca.oneCell' = true) (h4 : n.oneCell' = true) (h5 : ns.oneCell' = true) (h6 : ar.oneCell' = true) (h7 : inp.oneCell' = true) (h8 : ts.oneCell' = true) (h9 : er.oneCell' = true) :
    Calls Try.prog 9 #[.agg #[.string t, i, .string s, .string r, .nilIface, su, ca, n, ns, ar, inp, .nilIface, ts, er]] w fun e w' =>
      ∃ c, c.oneCell' = true ∧ e = .returned (.agg #[.string (typeOf t r), i, .string (statusOf s), .string r, c, su, ca, n, ns, ar, inp, .nilIface, ts, er]) ∧ Below w.heap.size w w' := by
  go_enter Try.func9, Try.ntmps9
  go_wp2_with fail
  refine (isMessage_any _ _ _ _ _ _ _ _ _ _ _ _ _ _ _ _ _ rfl rfl).mono ?_
  rintro e w' ⟨rfl, rfl⟩
  go_wp2_with fail
  refine (listedParts_nil _).mono ?_
  rintro e w' ⟨rfl, rfl⟩
  go_wp2_with fail
  refine (listedParts_nil _).mono ?_
  rintro e w' ⟨rfl, rfl⟩
  go_wp2_with fail
  exact bodyPost_ret (v := .agg #[.string t, i, .string s, .string r, .nilIface, su, ca, n, ns, ar, inp, .nilIface, ts, er]) (by simp [results, Try.results9, go_sem]) rfl ⟨.nilIface, rfl, by simp [typeOf, statusOf, hm, hs], by repeat (first | exact Below.refl _ _ | refine Below.alloc ?_ (by simp; try omega) _)⟩

set_option maxRecDepth 100000 in
set_option maxHeartbeats 1000000 in
theorem listed_nil_ft (t s r : ByteArray) (i su ca n ns ar inp ts er : Value) (w : World) (hm : isMsg t r = false) (hs : s.toList.isEmpty = true)
    (h1 : i.oneCell' = true) (h2 : su.oneCell' = true) (h3 : ca.oneCell' = true) (h4 : n.oneCell' = true) (h5 : ns.oneCell' = true) (h6 : ar.oneCell' = true) (h7 : inp.oneCell' = true) (h8 : ts.oneCell' = true) (h9 : er.oneCell' = true) :
    Calls Try.prog 9 #[.agg #[.string t, i, .string s, .string r, .nilIface, su, ca, n, ns, ar, inp, .nilIface, ts, er]] w fun e w' =>
      ∃ c, c.oneCell' = true ∧ e = .returned (.agg #[.string (typeOf t r), i, .string (statusOf s), .string r, c, su, ca, n, ns, ar, inp, .nilIface, ts, er]) ∧ Below w.heap.size w w' := by
  go_enter Try.func9, Try.ntmps9
  go_wp2_with fail
  refine (isMessage_any _ _ _ _ _ _ _ _ _ _ _ _ _ _ _ _ _ rfl rfl).mono ?_
  rintro e w' ⟨rfl, rfl⟩
  go_wp2_with fail
  refine (listedParts_nil _).mono ?_
  rintro e w' ⟨rfl, rfl⟩
  go_wp2_with fail
  refine (listedParts_nil _).mono ?_
  rintro e w' ⟨rfl, rfl⟩
  go_wp2_with fail
  exact bodyPost_ret (v := .agg #[.string t, i, .string comB, .string r, .nilIface, su, ca, n, ns, ar, inp, .nilIface, ts, er]) (by simp [results, Try.results9, go_sem, comB]) rfl ⟨.nilIface, rfl, by simp [typeOf, statusOf, hm, hs], by repeat (first | exact Below.refl _ _ | refine Below.alloc ?_ (by simp; try omega) _)⟩

set_option maxRecDepth 100000 in
set_option maxHeartbeats 1000000 in
theorem listed_nil_tf (t s r : ByteArray) (i su ca n ns ar inp ts er : Value) (w : World) (hm : isMsg t r = true) (hs : s.toList.isEmpty = false)
    (h1 : i.oneCell' = true) (h2 : su.oneCell' = true) (h3 : ca.oneCell' = true) (h4 : n.oneCell' = true) (h5 : ns.oneCell' = true) (h6 : ar.oneCell' = true) (h7 : inp.oneCell' = true) (h8 : ts.oneCell' = true) (h9 : er.oneCell' = true) :
    Calls Try.prog 9 #[.agg #[.string t, i, .string s, .string r, .nilIface, su, ca, n, ns, ar, inp, .nilIface, ts, er]] w fun e w' =>
      ∃ c, c.oneCell' = true ∧ e = .returned (.agg #[.string (typeOf t r), i, .string (statusOf s), .string r, c, su, ca, n, ns, ar, inp, .nilIface, ts, er]) ∧ Below w.heap.size w w' := by
  go_enter Try.func9, Try.ntmps9
  go_wp2_with fail
  refine (isMessage_any _ _ _ _ _ _ _ _ _ _ _ _ _ _ _ _ _ rfl rfl).mono ?_
  rintro e w' ⟨rfl, rfl⟩
  go_wp2_with fail
  refine (listedParts_empty _ _).mono ?_
  rintro e w' ⟨rfl, rfl⟩
  go_wp2_with fail
  refine (listedParts_nil _).mono ?_
  rintro e w' ⟨rfl, rfl⟩
  go_wp2_with fail
  exact bodyPost_ret (v := .agg #[.string msgB, i, .string s, .string r, (.iface 56 (.slice (some ⟨w.heap.size + 1 + 1 + 1 + 1, 0, none⟩) 0 0)), su, ca, n, ns, ar, inp, .nilIface, ts, er]) (by simp [results, Try.results9, go_sem, msgB]) rfl ⟨(.iface 56 (.slice (some ⟨w.heap.size + 1 + 1 + 1 + 1, 0, none⟩) 0 0)), rfl, by simp [typeOf, statusOf, hm, hs], by repeat (first | exact Below.refl _ _ | refine Below.alloc ?_ (by simp; try omega) _)⟩

set_option maxRecDepth 100000 in
set_option maxHeartbeats 1000000 in
theorem listed_nil_tt (t s r : ByteArray) (i su ca n ns ar inp ts er : Value) (w : World) (hm : isMsg t r = true) (hs : s.toList.isEmpty = true)
    (h1 : i.oneCell' = true) (h2 : su.oneCell' = true) (h3 : ca.oneCell' = true) (h4 : n.oneCell' = true) (h5 : ns.oneCell' = true) (h6 : ar.oneCell' = true) (h7 : inp.oneCell' = true) (h8 : ts.oneCell' = true) (h9 : er.oneCell' = true) :
    Calls Try.prog 9 #[.agg #[.string t, i, .string s, .string r, .nilIface, su, ca, n, ns, ar, inp, .nilIface, ts, er]] w fun e w' =>
      ∃ c, c.oneCell' = true ∧ e = .returned (.agg #[.string (typeOf t r), i, .string (statusOf s), .string r, c, su, ca, n, ns, ar, inp, .nilIface, ts, er]) ∧ Below w.heap.size w w' := by
  go_enter Try.func9, Try.ntmps9
  go_wp2_with fail
  refine (isMessage_any _ _ _ _ _ _ _ _ _ _ _ _ _ _ _ _ _ rfl rfl).mono ?_
  rintro e w' ⟨rfl, rfl⟩
  go_wp2_with fail
  refine (listedParts_empty _ _).mono ?_
  rintro e w' ⟨rfl, rfl⟩
  go_wp2_with fail
  refine (listedParts_nil _).mono ?_
  rintro e w' ⟨rfl, rfl⟩
  go_wp2_with fail
  exact bodyPost_ret (v := .agg #[.string msgB, i, .string comB, .string r, (.iface 56 (.slice (some ⟨w.heap.size + 1 + 1 + 1 + 1, 0, none⟩) 0 0)), su, ca, n, ns, ar, inp, .nilIface, ts, er]) (by simp [results, Try.results9, go_sem, comB, msgB]) rfl ⟨(.iface 56 (.slice (some ⟨w.heap.size + 1 + 1 + 1 + 1, 0, none⟩) 0 0)), rfl, by simp [typeOf, statusOf, hm, hs], by repeat (first | exact Below.refl _ _ | refine Below.alloc ?_ (by simp; try omega) _)⟩

theorem listed_nil (t s r : ByteArray) (i su ca n ns ar inp ts er : Value) (w : World)
    (h1 : i.oneCell' = true) (h2 : su.oneCell' = true) (h3 : ca.oneCell' = true) (h4 : n.oneCell' = true) (h5 : ns.oneCell' = true) (h6 : ar.oneCell' = true) (h7 : inp.oneCell' = true) (h8 : ts.oneCell' = true) (h9 : er.oneCell' = true) :
    Calls Try.prog 9 #[.agg #[.string t, i, .string s, .string r, .nilIface, su, ca, n, ns, ar, inp, .nilIface, ts, er]] w fun e w' =>
      ∃ c, c.oneCell' = true ∧ e = .returned (.agg #[.string (typeOf t r), i, .string (statusOf s), .string r, c, su, ca, n, ns, ar, inp, .nilIface, ts, er]) ∧ Below w.heap.size w w' := by
  cases hm : isMsg t r <;> cases hs : s.toList.isEmpty
  · exact listed_nil_ff t s r i su ca n ns ar inp ts er w hm hs h1 h2 h3 h4 h5 h6 h7 h8 h9
  · exact listed_nil_ft t s r i su ca n ns ar inp ts er w hm hs h1 h2 h3 h4 h5 h6 h7 h8 h9
  · exact listed_nil_tf t s r i su ca n ns ar inp ts er w hm hs h1 h2 h3 h4 h5 h6 h7 h8 h9
  · exact listed_nil_tt t s r i su ca n ns ar inp ts er w hm hs h1 h2 h3 h4 h5 h6 h7 h8 h9

end Go.Proofs.Qxb6616371a
