import Derived.Test.Qxb6628204aFam
namespace Go.Proofs.Qxb6628204a
open Go.RowKit Go.Lib
set_option linter.unusedVariables false

set_option maxHeartbeats 1600000 in
theorem bytes2_any (w : World) (a0 : Option Addr) (n c : Nat) (s1 s2 s3 s4 s5 s6 s7 : ByteArray) (h0 : n ≤ maxLen) (h1 : s1.size ≤ maxLen) (h2 : s2.size ≤ maxLen) (h3 : s3.size ≤ maxLen) (h4 : s4.size ≤ maxLen) (h5 : s5.size ≤ maxLen) (h6 : s6.size ≤ maxLen) (h7 : s7.size ≤ maxLen) :
    Calls Try.prog 14 #[.slice a0 n c, .string s1, .string s2, .string s3, .string s4, .string s5, .string s6, .string s7] w fun e w' => (∃ b, e = .returned (.bool b)) ∧ w' = w := by
  unfold maxLen at h0 h1 h2 h3 h4 h5 h6 h7
  go_enter Try.func14, Try.ntmps14
  go_wp2
  all_goals (go_ret; exact ⟨⟨_, rfl⟩, rfl⟩)

set_option maxHeartbeats 1600000 in
theorem bytes1_any (w : World) (a0 : Option Addr) (n c : Nat) (s1 s2 s3 s4 : ByteArray) (h0 : n ≤ maxLen) (h1 : s1.size ≤ maxLen) (h2 : s2.size ≤ maxLen) (h3 : s3.size ≤ maxLen) (h4 : s4.size ≤ maxLen) :
    Calls Try.prog 5 #[.slice a0 n c, .string s1, .string s2, .string s3, .string s4] w fun e w' => (∃ b, e = .returned (.bool b)) ∧ w' = w := by
  unfold maxLen at h0 h1 h2 h3 h4
  go_enter Try.func5, Try.ntmps5
  go_wp2
  all_goals (go_ret; exact ⟨⟨_, rfl⟩, rfl⟩)

end Go.Proofs.Qxb6628204a
