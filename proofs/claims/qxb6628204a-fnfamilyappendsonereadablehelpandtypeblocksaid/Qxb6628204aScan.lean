import Derived.Test.Qxb6628204aRows
import Derived.WalkKit
import Derived.WalkSpells
import Derived.WalkLawsBesides
import Derived.Deep.QuietTactic
import Derived.BigQuiet
namespace Go.Proofs.Qxb6628204a
open Go.RowKit Go.Lib
set_option linter.unusedVariables false

def hasB (s : ByteArray) (c : Int) : Bool := s.data.toList.any fun b => (b.toNat : Int) == c
theorem hasB_true (s : ByteArray) (c : Int) (k : Nat) (h : k < s.size) (e : (s[k].toNat : Int) = c) : hasB s c = true := by
  unfold hasB
  rw [List.any_eq_true]
  exact ⟨s[k], by simp [ByteArray.getElem_eq_getElem_data], by simpa using e⟩
theorem hasB_false (s : ByteArray) (c : Int) (h : ∀ k (h : k < s.size), (s[k].toNat : Int) ≠ c) : hasB s c = false := by
  unfold hasB
  rw [List.any_eq_false]
  intro b hb
  obtain ⟨k, hk, rfl⟩ := List.getElem_of_mem hb
  have := h k (by simpa using hk)
  simpa [ByteArray.getElem_eq_getElem_data] using this
theorem hasB_no (s : ByteArray) (c : Int) (h : hasB s c = false) (k : Nat) (hk : k < s.size) : (s[k].toNat : Int) ≠ c := by
  intro e
  rw [hasB_true s c k hk e] at h
  cases h
theorem ret_bool {a b : Bool} (h : a = b) : Ending.returned (.bool a) = .returned (.bool b) := by rw [h]

set_option maxHeartbeats 400000 in
theorem hasByte_any (s : ByteArray) (c : Int) (w : World) (hs : s.size ≤ 65536) :
    Calls Try.prog 6 #[.string s, .int .u8 c] w fun e w' => e = .returned (.bool (hasB s c)) ∧ w' = w := by
  go_enter Try.func6, Try.ntmps6
  go_wp2
  go_loop [5] (fun i => ∃ k : Nat, k ≤ s.size ∧ i = .int .i64 k ∧ ∀ j (h : j < s.size), j < k → (s[j].toNat : Int) ≠ c) (fun i => s.size - (intOf i).toNat)
  case atStart => exact ⟨0, Nat.zero_le _, rfl, fun j h hj => absurd hj (Nat.not_lt_zero _)⟩
  case round =>
    obtain ⟨k, hk, rfl, hno⟩ := hrel
    have HN := show Hid _ from hno
    clear hno
    by_cases hlt : k < s.size
    · by_cases he : (s[k].toNat : Int) = c
      · have hb : ((s[k].toNat : Int) == c) = true := by simpa using he
        have HE := show Hid _ from he
        clear he
        go_wp2
        go_ret
        exact ⟨ret_bool (hasB_true s c k hlt HE.out).symm, rfl⟩
      · have hb : ((s[k].toNat : Int) == c) = false := by simpa using he
        have HE := show Hid _ from he
        clear he
        go_wp2
        go_round
        case rel =>
          refine ⟨k + 1, by omega, by go_num, fun j h hj => ?_⟩
          rcases Nat.lt_succ_iff_lt_or_eq.1 hj with h' | rfl
          · exact HN.out j h h'
          · exact HE.out
        case measure => simp [intOf]; omega
    · go_wp2
      go_ret
      exact ⟨ret_bool (hasB_false s c fun j h => HN.out j h (by omega)).symm, rfl⟩

set_option maxHeartbeats 400000 in
theorem prefixAt_any (s : ByteArray) (g n c i : Nat) (w : World) (hs : s.size ≤ 65536) (hn : n ≤ 16777216) (hi : i + s.size ≤ n)
    (hc : ∀ k (h : k < s.size), w.cell? ⟨g, i + k, none⟩ = some (.int .u8 (s[k].toNat : Int))) :
    Calls Try.prog 15 #[.slice (some ⟨g, 0, none⟩) n c, .int .i64 i, .string s] w fun e w' => e = .returned (.bool true) ∧ ∃ q, w' = w.drewN q := by
  have HC := show Hid _ from hc
  clear hc
  go_enter Try.func15, Try.ntmps15
  go_wp2
  go_loopw [7] (fun j wr => ∃ k q : Nat, k ≤ s.size ∧ j = .int .i64 k ∧ wr = w.drewN q) (fun j _ => s.size - (intOf j).toNat)
  case atStart => exact ⟨0, 0, Nat.zero_le _, rfl, rfl⟩
  case round =>
    obtain ⟨k, q, hk, rfl, rfl⟩ := hrel
    by_cases hlt : k < s.size
    · have c1 := HC.out k hlt
      have b1 : (i : Int) + (k : Int) < (n : Int) := by omega
      have b3 : ((i : Int) + (k : Int)).toNat = i + k := by omega
      go_wp2
      go_quiet (fail)
      go_wp2
      go_roundw
      case rel => exact ⟨k + 1, _, by omega, by go_num, rfl⟩
      case measure => simp [intOf]; omega
    · go_wp2
      go_ret
      exact ⟨rfl, _, rfl⟩

end Go.Proofs.Qxb6628204a
