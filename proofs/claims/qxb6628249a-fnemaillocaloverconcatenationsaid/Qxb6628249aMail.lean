import Derived.Test.Qxb6628249aRows
import Derived.WalkKit
import Derived.WalkSpells
import Derived.WalkLawsBesides
namespace Go.Proofs.Qxb6628249a
open Go.RowKit
set_option linter.unusedVariables false

/-- The last place of the byte 64 in s is i. -/
def LastAt (s : ByteArray) (i : Nat) : Prop := i < s.size ∧ (∀ h : i < s.size, (s[i].toNat : Int) = 64) ∧ ∀ j (h : j < s.size), i < j → (s[j].toNat : Int) ≠ 64
def NoAt (s : ByteArray) : Prop := ∀ j (h : j < s.size), (s[j].toNat : Int) ≠ 64

theorem last_or_no (s : ByteArray) : NoAt s ∨ ∃ i, LastAt s i := by
  have key : ∀ m, m ≤ s.size → (∀ j (h : j < s.size), s.size - m ≤ j → (s[j].toNat : Int) ≠ 64) ∨ ∃ i, LastAt s i := by
    intro m
    induction m with
    | zero => intro _; exact .inl fun j h hj => by omega
    | succ m ih =>
      intro hm
      rcases ih (by omega) with h | h
      · have hk : s.size - (m + 1) < s.size := by omega
        by_cases he : (s[s.size - (m + 1)].toNat : Int) = 64
        · exact .inr ⟨_, hk, fun _ => he, fun j hj hij => h j hj (by omega)⟩
        · refine .inl fun j hj hij => ?_
          by_cases e : j = s.size - (m + 1)
          · subst e; exact he
          · exact h j hj (by omega)
      · exact .inr h
  rcases key s.size (Nat.le_refl _) with h | h
  · exact .inl fun j hj => h j hj (by omega)
  · exact .inr h

set_option maxHeartbeats 400000 in
theorem lastIdx_at (s : ByteArray) (i : Nat) (w : World) (hs : s.size ≤ 16777216) (h : LastAt s i) :
    Calls Try.prog 10 #[.string s, .int .u8 64] w fun e w' => e = .returned (.int .i64 i) ∧ w' = w := by
  obtain ⟨hi, he, hno⟩ := h
  have HE := show Hid _ from he hi
  have HN := show Hid _ from hno
  clear he hno
  go_enter Try.func10, Try.ntmps10
  go_wp2
  go_loop [5] (fun t => ∃ k : Nat, i ≤ k ∧ k < s.size ∧ t = .int .i64 k) (fun t => (intOf t).toNat)
  case atStart => exact ⟨s.size - 1, by omega, by omega, by go_num⟩
  case round =>
    obtain ⟨k, hk, hlt, rfl⟩ := hrel
    by_cases hik : i < k
    · have hb : ((s[k].toNat : Int) == 64) = false := by have := HN.out k hlt hik; simpa using this
      go_wp2
      go_round
      case rel => exact ⟨k - 1, by omega, by omega, by go_num⟩
      case measure => simp [intOf]; omega
    · obtain rfl : i = k := by omega
      have hb : ((s[i].toNat : Int) == 64) = true := by have := HE.out; simpa using this
      go_wp2
      go_ret
      exact ⟨rfl, rfl⟩

set_option maxHeartbeats 400000 in
theorem lastIdx_no (s : ByteArray) (w : World) (hs : s.size ≤ 16777216) (h : NoAt s) :
    Calls Try.prog 10 #[.string s, .int .u8 64] w fun e w' => e = .returned (.int .i64 (-1)) ∧ w' = w := by
  have HN := show Hid _ from h
  clear h
  go_enter Try.func10, Try.ntmps10
  go_wp2
  go_loop [5] (fun t => ∃ k : Nat, k ≤ s.size ∧ t = .int .i64 ((k : Int) - 1)) (fun t => (intOf t + 1).toNat)
  case atStart => exact ⟨s.size, by omega, by go_num⟩
  case round =>
    obtain ⟨k, hk, rfl⟩ := hrel
    by_cases h0 : k = 0
    · subst h0
      go_wp2
      go_ret
      exact ⟨rfl, rfl⟩
    · obtain ⟨m, rfl⟩ : ∃ m, k = m + 1 := ⟨k - 1, by omega⟩
      have hm : m < s.size := by omega
      have hb : ((s[m].toNat : Int) == 64) = false := by have := HN.out m hm; simpa using this
      rw [show (((m + 1 : Nat) : Int) - 1) = (m : Int) from by omega]
      go_wp2
      go_round
      case rel => exact ⟨m, by omega, by go_num⟩
      case measure => simp [intOf]

set_option maxHeartbeats 400000 in
theorem email_at (s r : ByteArray) (i : Nat) (w : World) (hs : s.size ≤ 16777216) (h : LastAt s i) (hr : s.extract 0 i = r) :
    Calls Try.prog 6 #[.string s] w fun e w' => e = .returned (.tuple #[.string r, .bool true]) ∧ w' = w := by
  have hi := h.1
  subst hr
  go_enter Try.func6, Try.ntmps6
  go_wp2_with (first | (go_at_call 9; go_in) | (go_at_call 10; refine (lastIdx_at s i _ hs h).mono ?_; rintro e w' ⟨rfl, rfl⟩))
  go_ret2
  exact ⟨rfl, rfl⟩

set_option maxHeartbeats 400000 in
theorem email_no (s : ByteArray) (w : World) (hs : s.size ≤ 16777216) (h : NoAt s) :
    Calls Try.prog 6 #[.string s] w fun e w' => e = .returned (.tuple #[.string ⟨#[]⟩, .bool false]) ∧ w' = w := by
  have HN := show Hid (NoAt s) from h
  clear h
  go_enter Try.func6, Try.ntmps6
  go_wp2_with (first | (go_at_call 9; go_in) | (go_at_call 10; refine (lastIdx_no s _ hs HN.out).mono ?_; rintro e w' ⟨rfl, rfl⟩))
  go_ret2
  exact ⟨rfl, rfl⟩

set_option maxHeartbeats 400000 in
theorem hasAt_at (s : ByteArray) (i : Nat) (w : World) (hs : s.size ≤ 16777216) (h : LastAt s i) :
    Calls Try.prog 8 #[.string s] w fun e w' => e = .returned (.bool true) ∧ w' = w := by
  obtain ⟨hi, he, hno⟩ := h
  have HE := show Hid _ from he hi
  clear he hno
  go_enter Try.func8, Try.ntmps8
  go_wp2
  go_loop [3] (fun t => ∃ k : Nat, k ≤ i ∧ t = .int .i64 k) (fun t => i - (intOf t).toNat)
  case atStart => exact ⟨0, by omega, rfl⟩
  case round =>
    obtain ⟨k, hk, rfl⟩ := hrel
    have hlt : k < s.size := by omega
    by_cases hik : k < i
    · go_wp2
      · go_ret
        exact ⟨rfl, rfl⟩
      · go_round
        case rel => exact ⟨k + 1, by omega, by go_num⟩
        case measure => simp [intOf]; omega
    · obtain rfl : i = k := by omega
      have hb : ((s[i].toNat : Int) == 64) = true := by have := HE.out; simpa using this
      go_wp2
      go_ret
      exact ⟨rfl, rfl⟩

set_option maxHeartbeats 400000 in
theorem hasAt_no (s : ByteArray) (w : World) (hs : s.size ≤ 16777216) (h : NoAt s) :
    Calls Try.prog 8 #[.string s] w fun e w' => e = .returned (.bool false) ∧ w' = w := by
  have HN := show Hid _ from h
  clear h
  go_enter Try.func8, Try.ntmps8
  go_wp2
  go_loop [3] (fun t => ∃ k : Nat, k ≤ s.size ∧ t = .int .i64 k) (fun t => s.size - (intOf t).toNat)
  case atStart => exact ⟨0, by omega, rfl⟩
  case round =>
    obtain ⟨k, hk, rfl⟩ := hrel
    by_cases hlt : k < s.size
    · have hb : ((s[k].toNat : Int) == 64) = false := by have := HN.out k hlt; simpa using this
      go_wp2
      go_round
      case rel => exact ⟨k + 1, by omega, by go_num⟩
      case measure => simp [intOf]; omega
    · go_wp2
      go_ret
      exact ⟨rfl, rfl⟩

theorem bytes5 (a b : ByteArray) (w : World) (h1 : a.size ≤ maxLen) (h2 : b.size ≤ maxLen) :
    Calls Try.prog 5 #[.string a, .string b] w fun e w' => (∃ x, e = .returned (.bool x)) ∧ w' = w := by
  unfold maxLen at h1 h2
  go_enter Try.func5, Try.ntmps5
  go_wp2
  all_goals (go_ret; exact ⟨⟨_, rfl⟩, rfl⟩)
theorem bytes7 (a b : ByteArray) (w : World) (h1 : a.size ≤ maxLen) (h2 : b.size ≤ maxLen) :
    Calls Try.prog 7 #[.string a, .string b] w fun e w' => (∃ x, e = .returned (.bool x)) ∧ w' = w := by
  unfold maxLen at h1 h2
  go_enter Try.func7, Try.ntmps7
  go_wp2
  all_goals (go_ret; exact ⟨⟨_, rfl⟩, rfl⟩)

end Go.Proofs.Qxb6628249a
