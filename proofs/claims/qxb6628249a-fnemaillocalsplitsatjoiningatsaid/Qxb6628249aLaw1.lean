import Derived.Test.Qxb6628249aPlain
namespace Go.Proofs.Qxb6628249a
open Go.RowKit
set_option linter.unusedVariables false

theorem sz3 (a b : ByteArray) (h1 : a.size ≤ 524288) (h2 : b.size ≤ 524288) : (a ++ ⟨#[64]⟩ ++ b).size ≤ 16777216 := by
  have hone : (⟨#[64]⟩ : ByteArray).size = 1 := rfl
  rw [ByteArray.size_append, ByteArray.size_append]
  omega
theorem x_no (a b : ByteArray) : (a ++ ⟨#[64]⟩ ++ b).extract 0 a.size = a := by
  rw [extract_left _ _ _ (by rw [ByteArray.size_append]; omega)]
  have := extract_right a ⟨#[64]⟩ 0
  rw [Nat.add_zero] at this
  rw [this]
  have e0 : (⟨#[64]⟩ : ByteArray).extract 0 0 = ByteArray.empty := rfl
  rw [e0, ByteArray.append_empty]
theorem l_no (a b : ByteArray) (hb : NoAt b) : LastAt (a ++ ⟨#[64]⟩ ++ b) a.size := last_left (last_right (i := 0) last_one) hb
theorem l_at (a b : ByteArray) (i : Nat) (hb : LastAt b i) : LastAt (a ++ ⟨#[64]⟩ ++ b) ((a ++ ⟨#[64]⟩).size + i) := last_right hb
theorem x_at (a b r : ByteArray) (i : Nat) (hr : b.extract 0 i = r) : (a ++ ⟨#[64]⟩ ++ b).extract 0 ((a ++ ⟨#[64]⟩).size + i) = a ++ ⟨#[64]⟩ ++ r := by
  rw [extract_right, hr]

set_option maxHeartbeats 400000 in
theorem split_no (a b : ByteArray) (w : World) (h1 : a.size ≤ 524288) (h2 : b.size ≤ 524288) (hb : NoAt b) :
    Calls Try.prog 3 #[.string a, .string b] w fun e w' => e = .returned (.bool true) ∧ w' = w := by
  go_enter Try.func3, Try.ntmps3
  go_wp2_with fail
  refine (bytes5 a b w (by unfold maxLen; omega) (by unfold maxLen; omega)).mono ?_
  rintro e w' ⟨⟨x, rfl⟩, rfl⟩
  cases x with
  | false => go_wp2; go_ret; exact ⟨rfl, rfl⟩
  | true =>
  go_wp2_with fail
  refine (email_at _ a a.size w' ?c1 ?c2 ?c3).mono ?_
  case c1 => exact sz3 a b h1 h2
  case c2 => exact l_no a b hb
  case c3 => exact x_no a b
  rintro e w1 ⟨rfl, rfl⟩
  go_wp2_with fail
  refine (email_no b w1 (by omega) hb).mono ?_
  rintro e w2 ⟨rfl, rfl⟩
  go_wp2
  go_ret
  exact ⟨rfl, rfl⟩

set_option maxHeartbeats 400000 in
theorem split_at (a b : ByteArray) (i : Nat) (w : World) (h1 : a.size ≤ 524288) (h2 : b.size ≤ 524288) (hb : LastAt b i) :
    Calls Try.prog 3 #[.string a, .string b] w fun e w' => e = .returned (.bool true) ∧ w' = w := by
  have hi := hb.1
  obtain ⟨r, hr⟩ : ∃ r, Hid (b.extract 0 i = r) := ⟨_, rfl⟩
  have hrs : r.size ≤ 524288 := by rw [← hr.out, ByteArray.size_extract]; omega
  go_enter Try.func3, Try.ntmps3
  go_wp2_with fail
  refine (bytes5 a b w (by unfold maxLen; omega) (by unfold maxLen; omega)).mono ?_
  rintro e w' ⟨⟨x, rfl⟩, rfl⟩
  cases x with
  | false => go_wp2; go_ret; exact ⟨rfl, rfl⟩
  | true =>
  go_wp2_with fail
  refine (email_at _ (a ++ ⟨#[64]⟩ ++ r) ((a ++ ⟨#[64]⟩).size + i) w' ?c1 ?c2 ?c3).mono ?_
  case c1 => exact sz3 a b h1 h2
  case c2 => exact l_at a b i hb
  case c3 => exact x_at a b r i hr.out
  rintro e w1 ⟨rfl, rfl⟩
  go_wp2_with fail
  refine (email_at b r i w1 (by omega) hb hr.out).mono ?_
  rintro e w2 ⟨rfl, rfl⟩
  go_wp2
  go_ret
  exact ⟨rfl, rfl⟩

set_option maxHeartbeats 400000 in
theorem split_out (a b : ByteArray) (w : World) (h1 : a.size ≤ maxLen) (h2 : b.size ≤ maxLen) (h : 524288 < a.size ∨ (a.size ≤ 524288 ∧ 524288 < b.size)) :
    Calls Try.prog 3 #[.string a, .string b] w fun e w' => e = .returned (.bool true) ∧ w' = w := by
  rcases h with h | ⟨_, h⟩
  all_goals
    go_enter Try.func3, Try.ntmps3
    go_wp2_with fail
    refine (bytes5 a b w h1 h2).mono ?_
    rintro e w' ⟨⟨x, rfl⟩, rfl⟩
    unfold maxLen at h1 h2
    cases x
    all_goals
      go_wp2
      go_ret
      exact ⟨rfl, rfl⟩

end Go.Proofs.Qxb6628249a
