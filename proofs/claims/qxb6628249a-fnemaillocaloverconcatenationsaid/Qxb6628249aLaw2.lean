import Derived.Test.Qxb6628249aPlain
namespace Go.Proofs.Qxb6628249a
open Go.RowKit
set_option linter.unusedVariables false

theorem sz2 (a b : ByteArray) (h1 : a.size ≤ 524288) (h2 : b.size ≤ 524288) : (a ++ b).size ≤ 16777216 := by
  rw [ByteArray.size_append]
  omega
theorem y_at (a b r : ByteArray) (i : Nat) (hr : b.extract 0 i = r) : (a ++ b).extract 0 (a.size + i) = a ++ r := by
  rw [extract_right, hr]
theorem y_left (a b r : ByteArray) (i : Nat) (h : LastAt a i) (hr : a.extract 0 i = r) : (a ++ b).extract 0 i = r := by
  rw [extract_left _ _ _ (by have := h.1; omega), hr]

set_option maxHeartbeats 800000 in
theorem over_at_at (v s : ByteArray) (i j : Nat) (w : World) (h1 : v.size ≤ 524288) (h2 : s.size ≤ 524288) (hs : LastAt s i) (hv : LastAt v j) :
    Calls Try.prog 4 #[.string v, .string s] w fun e w' => e = .returned (.bool true) ∧ w' = w := by
  obtain ⟨r, hr⟩ : ∃ r, Hid (s.extract 0 i = r) := ⟨_, rfl⟩
  have hrs : r.size ≤ 524288 := by rw [← hr.out, ByteArray.size_extract]; omega
  obtain ⟨t, ht⟩ : ∃ t, Hid (v.extract 0 j = t) := ⟨_, rfl⟩
  go_enter Try.func4, Try.ntmps4
  go_wp2_with fail
  refine (bytes7 v s w (by unfold maxLen; omega) (by unfold maxLen; omega)).mono ?_
  rintro e w' ⟨⟨x, rfl⟩, rfl⟩
  cases x with
  | false => go_wp2; go_ret; exact ⟨rfl, rfl⟩
  | true =>
  go_wp2_with fail
  refine (email_at _ (v ++ r) (v.size + i) w' ?c1 ?c2 ?c3).mono ?_
  case c1 => exact sz2 v s h1 h2
  case c2 => exact last_right hs
  case c3 => exact y_at v s r i hr.out
  rintro e w1 ⟨rfl, rfl⟩
  go_wp2_with fail
  refine (email_at v t j w1 (by omega) hv ht.out).mono ?_
  rintro e w2 ⟨rfl, rfl⟩
  go_wp2_with fail
  refine (email_at s r i w2 (by omega) hs hr.out).mono ?_
  rintro e w3 ⟨rfl, rfl⟩
  go_wp2_with fail
  refine (hasAt_at v j w3 (by omega) hv).mono ?_
  rintro e w4 ⟨rfl, rfl⟩
  go_wp2_with fail
  refine (hasAt_at s i w4 (by omega) hs).mono ?_
  rintro e w5 ⟨rfl, rfl⟩
  go_wp2
  go_ret
  exact ⟨rfl, rfl⟩

set_option maxHeartbeats 800000 in
theorem over_at_no (v s : ByteArray) (i : Nat) (w : World) (h1 : v.size ≤ 524288) (h2 : s.size ≤ 524288) (hs : LastAt s i) (hv : NoAt v) :
    Calls Try.prog 4 #[.string v, .string s] w fun e w' => e = .returned (.bool true) ∧ w' = w := by
  obtain ⟨r, hr⟩ : ∃ r, Hid (s.extract 0 i = r) := ⟨_, rfl⟩
  have hrs : r.size ≤ 524288 := by rw [← hr.out, ByteArray.size_extract]; omega
  go_enter Try.func4, Try.ntmps4
  go_wp2_with fail
  refine (bytes7 v s w (by unfold maxLen; omega) (by unfold maxLen; omega)).mono ?_
  rintro e w' ⟨⟨x, rfl⟩, rfl⟩
  cases x with
  | false => go_wp2; go_ret; exact ⟨rfl, rfl⟩
  | true =>
  go_wp2_with fail
  refine (email_at _ (v ++ r) (v.size + i) w' ?c1 ?c2 ?c3).mono ?_
  case c1 => exact sz2 v s h1 h2
  case c2 => exact last_right hs
  case c3 => exact y_at v s r i hr.out
  rintro e w1 ⟨rfl, rfl⟩
  go_wp2_with fail
  refine (email_no v w1 (by omega) hv).mono ?_
  rintro e w2 ⟨rfl, rfl⟩
  go_wp2_with fail
  refine (email_at s r i w2 (by omega) hs hr.out).mono ?_
  rintro e w3 ⟨rfl, rfl⟩
  go_wp2_with fail
  refine (hasAt_no v w3 (by omega) hv).mono ?_
  rintro e w4 ⟨rfl, rfl⟩
  go_wp2_with fail
  refine (hasAt_at s i w4 (by omega) hs).mono ?_
  rintro e w5 ⟨rfl, rfl⟩
  go_wp2
  go_ret
  exact ⟨rfl, rfl⟩

set_option maxHeartbeats 800000 in
theorem over_no_at (v s : ByteArray) (j : Nat) (w : World) (h1 : v.size ≤ 524288) (h2 : s.size ≤ 524288) (hs : NoAt s) (hv : LastAt v j) :
    Calls Try.prog 4 #[.string v, .string s] w fun e w' => e = .returned (.bool true) ∧ w' = w := by
  obtain ⟨t, ht⟩ : ∃ t, Hid (v.extract 0 j = t) := ⟨_, rfl⟩
  go_enter Try.func4, Try.ntmps4
  go_wp2_with fail
  refine (bytes7 v s w (by unfold maxLen; omega) (by unfold maxLen; omega)).mono ?_
  rintro e w' ⟨⟨x, rfl⟩, rfl⟩
  cases x with
  | false => go_wp2; go_ret; exact ⟨rfl, rfl⟩
  | true =>
  go_wp2_with fail
  refine (email_at _ t j w' ?c1 ?c2 ?c3).mono ?_
  case c1 => exact sz2 v s h1 h2
  case c2 => exact last_left hv hs
  case c3 => exact y_left v s t j hv ht.out
  rintro e w1 ⟨rfl, rfl⟩
  go_wp2_with fail
  refine (email_at v t j w1 (by omega) hv ht.out).mono ?_
  rintro e w2 ⟨rfl, rfl⟩
  go_wp2_with fail
  refine (email_no s w2 (by omega) hs).mono ?_
  rintro e w3 ⟨rfl, rfl⟩
  go_wp2_with fail
  refine (hasAt_at v j w3 (by omega) hv).mono ?_
  rintro e w4 ⟨rfl, rfl⟩
  go_wp2_with fail
  refine (hasAt_no s w4 (by omega) hs).mono ?_
  rintro e w5 ⟨rfl, rfl⟩
  go_wp2
  go_ret
  exact ⟨rfl, rfl⟩

set_option maxHeartbeats 800000 in
theorem over_no_no (v s : ByteArray) (w : World) (h1 : v.size ≤ 524288) (h2 : s.size ≤ 524288) (hs : NoAt s) (hv : NoAt v) :
    Calls Try.prog 4 #[.string v, .string s] w fun e w' => e = .returned (.bool true) ∧ w' = w := by
  go_enter Try.func4, Try.ntmps4
  go_wp2_with fail
  refine (bytes7 v s w (by unfold maxLen; omega) (by unfold maxLen; omega)).mono ?_
  rintro e w' ⟨⟨x, rfl⟩, rfl⟩
  cases x with
  | false => go_wp2; go_ret; exact ⟨rfl, rfl⟩
  | true =>
  go_wp2_with fail
  refine (email_no _ w' ?c1 ?c2).mono ?_
  case c1 => exact sz2 v s h1 h2
  case c2 => exact no_append hv hs
  rintro e w1 ⟨rfl, rfl⟩
  go_wp2_with fail
  refine (email_no v w1 (by omega) hv).mono ?_
  rintro e w2 ⟨rfl, rfl⟩
  go_wp2_with fail
  refine (email_no s w2 (by omega) hs).mono ?_
  rintro e w3 ⟨rfl, rfl⟩
  go_wp2_with fail
  refine (hasAt_no v w3 (by omega) hv).mono ?_
  rintro e w4 ⟨rfl, rfl⟩
  go_wp2_with fail
  refine (hasAt_no s w4 (by omega) hs).mono ?_
  rintro e w5 ⟨rfl, rfl⟩
  go_wp2
  go_ret
  exact ⟨rfl, rfl⟩

set_option maxHeartbeats 400000 in
theorem over_out (a b : ByteArray) (w : World) (h1 : a.size ≤ maxLen) (h2 : b.size ≤ maxLen) (h : 524288 < a.size ∨ (a.size ≤ 524288 ∧ 524288 < b.size)) :
    Calls Try.prog 4 #[.string a, .string b] w fun e w' => e = .returned (.bool true) ∧ w' = w := by
  rcases h with h | ⟨_, h⟩
  all_goals
    go_enter Try.func4, Try.ntmps4
    go_wp2_with fail
    refine (bytes7 a b w h1 h2).mono ?_
    rintro e w' ⟨⟨x, rfl⟩, rfl⟩
    unfold maxLen at h1 h2
    cases x
    all_goals
      go_wp2
      go_ret
      exact ⟨rfl, rfl⟩

end Go.Proofs.Qxb6628249a
