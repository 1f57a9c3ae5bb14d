import Derived.Test.Qxb6628204aScan
import Derived.Laws.BytesArg
namespace Go.Proofs.Qxb6628204a
open Go.RowKit Go.Lib
set_option linter.unusedVariables false

/-- What a scan for the byte c from place i on meets: other bytes up to place p, c at p. -/
def Till (w : World) (g i p : Nat) (c : Int) : Prop :=
  (∀ k, i ≤ k → k < p → ∃ z, w.cell? ⟨g, k, none⟩ = some (.int .u8 z) ∧ (z != c) = true) ∧ w.cell? ⟨g, p, none⟩ = some (.int .u8 c)

set_option maxHeartbeats 1600000 in
theorem readBlock_any (g n c p1 p2 p5 p6 : Nat) (name help kind : ByteArray) (w : World) (hnc : n ≤ c) (hcm : c ≤ maxLen) (hn : n ≤ 16777216)
    (b1 : 7 ≤ p1) (b2 : p1 + 1 ≤ p2) (b3 : p2 + 8 ≤ p5) (b4 : p5 + 1 ≤ p6) (b5 : p6 + 1 = n)
    (T1 : Till w g 7 p1 32) (T2 : Till w g (p1 + 1) p2 10) (T3 : Till w g (p2 + 8) p5 32) (T4 : Till w g (p5 + 1) p6 10)
    (P1 : ∀ k (h : k < (⟨#[35, 32, 72, 69, 76, 80, 32]⟩ : ByteArray).size), w.cell? ⟨g, 0 + k, none⟩ = some (.int .u8 ((⟨#[35, 32, 72, 69, 76, 80, 32]⟩ : ByteArray)[k].toNat : Int)))
    (P2 : ∀ k (h : k < (⟨#[35, 32, 84, 89, 80, 69, 32]⟩ : ByteArray).size), w.cell? ⟨g, (p2 + 1) + k, none⟩ = some (.int .u8 ((⟨#[35, 32, 84, 89, 80, 69, 32]⟩ : ByteArray)[k].toNat : Int)))
    (C1 : ∀ cp q, (convert 22 9 (.slice (some ⟨g, 7, none⟩) (p1 - 7) cp)).run Try.prog (w.drewN q) = .ok (.string name) (w.drewN q))
    (C2 : ∀ cp q, (convert 22 9 (.slice (some ⟨g, p1 + 1, none⟩) (p2 - (p1 + 1)) cp)).run Try.prog (w.drewN q) = .ok (.string help) (w.drewN q))
    (C3 : ∀ cp q, (convert 22 9 (.slice (some ⟨g, p2 + 8, none⟩) (p5 - (p2 + 8)) cp)).run Try.prog (w.drewN q) = .ok (.string name) (w.drewN q))
    (C4 : ∀ cp q, (convert 22 9 (.slice (some ⟨g, p5 + 1, none⟩) (p6 - (p5 + 1)) cp)).run Try.prog (w.drewN q) = .ok (.string kind) (w.drewN q)) :
    Calls Try.prog 13 #[.slice (some ⟨g, 0, none⟩) n c] w fun e w' => e = .returned (.tuple #[.string name, .string help, .string kind, .bool true]) ∧ ∃ q, w' = w.drewN q := by
  unfold maxLen at hcm
  subst b5
  have HT1 := show Hid _ from T1
  have HT2 := show Hid _ from T2
  have HT3 := show Hid _ from T3
  have HT4 := show Hid _ from T4
  have HP1 := show Hid _ from P1
  have HP2 := show Hid _ from P2
  clear T1 T2 T3 T4 P1 P2
  go_enter Try.func13, Try.ntmps13
  go_wp2_with fail
  refine (prefixAt_any ⟨#[35, 32, 72, 69, 76, 80, 32]⟩ g (p6 + 1) c 0 w (by decide) (by omega) (by show 0 + 7 ≤ _; omega) HP1.out).mono ?_
  rintro e w1 ⟨rfl, q1, rfl⟩
  go_wp2
  go_loop [7] (fun j => ∃ k : Nat, 7 ≤ k ∧ k ≤ p1 ∧ j = .int .i64 k) (fun j => p1 - (intOf j).toNat)
  case atStart => exact ⟨7, by omega, by omega, rfl⟩
  case round =>
    obtain ⟨k, hk0, hk, rfl⟩ := hrel
    by_cases hlt : k < p1
    · obtain ⟨z, cz, hz⟩ := HT1.out.1 k hk0 hlt
      have i1 : (k : Int) < (p6 : Int) + 1 := by omega
      go_wp2
      go_round
      case rel => exact ⟨k + 1, by omega, by omega, by go_num⟩
      case measure => simp [intOf]; omega
    · obtain rfl : p1 = k := by omega
      have cz := HT1.out.2
      have i1 : (p1 : Int) < (p6 : Int) + 1 := by omega
      have i2 : ((p1 : Int) == (p6 : Int) + 1) = false := by simp; omega
      have i3 : ¬ (c = 7) := by omega
      go_wp2
      clear i1 i2 i3 cz hlt hk hk0
      go_loop [7] (fun j => ∃ k : Nat, p1 + 1 ≤ k ∧ k ≤ p2 ∧ j = .int .i64 k) (fun j => p2 - (intOf j).toNat)
      case atStart => exact ⟨p1 + 1, by omega, by omega, by go_num⟩
      case round =>
        obtain ⟨k, hk0, hk, rfl⟩ := hrel
        by_cases hlt : k < p2
        · obtain ⟨z, cz, hz⟩ := HT2.out.1 k hk0 hlt
          have i1 : (k : Int) < (p6 : Int) + 1 := by omega
          go_wp2
          go_round
          case rel => exact ⟨k + 1, by omega, by omega, by go_num⟩
          case measure => simp [intOf]; omega
        · obtain rfl : p2 = k := by omega
          have cz := HT2.out.2
          have i1 : (p2 : Int) < (p6 : Int) + 1 := by omega
          have i2 : ((p2 : Int) == (p6 : Int) + 1) = false := by simp; omega
          have i3 : ¬ (c = p1 + 1) := by omega
          have i4 : ((p1 : Int) + 1).toNat = p1 + 1 := by omega
          go_wp2_with fail
          clear i1 i2 i3 i4 cz hlt hk hk0
          rw [show ((p2 : Int) + 1) = ((p2 + 1 : Nat) : Int) from by omega]
          refine (prefixAt_any ⟨#[35, 32, 84, 89, 80, 69, 32]⟩ g (p6 + 1) c (p2 + 1) (w.drewN q1) (by decide) (by omega) (by show p2 + 1 + 7 ≤ _; omega) HP2.out).mono ?_
          rintro e w1 ⟨rfl, q2, rfl⟩
          go_wp2
          go_loop [7] (fun j => ∃ k : Nat, p2 + 8 ≤ k ∧ k ≤ p5 ∧ j = .int .i64 k) (fun j => p5 - (intOf j).toNat)
          case atStart => exact ⟨p2 + 8, by omega, by omega, by go_num⟩
          case round =>
            obtain ⟨k, hk0, hk, rfl⟩ := hrel
            by_cases hlt : k < p5
            · obtain ⟨z, cz, hz⟩ := HT3.out.1 k hk0 hlt
              have i1 : (k : Int) < (p6 : Int) + 1 := by omega
              go_wp2
              go_round
              case rel => exact ⟨k + 1, by omega, by omega, by go_num⟩
              case measure => simp [intOf]; omega
            · obtain rfl : p5 = k := by omega
              have cz := HT3.out.2
              have i1 : (p5 : Int) < (p6 : Int) + 1 := by omega
              have i2 : ((p5 : Int) == (p6 : Int) + 1) = false := by simp; omega
              have i3 : ¬ (c = p2 + 8) := by omega
              have i4 : ((p2 : Int) + 1 + 7).toNat = p2 + 8 := by omega
              go_wp2
              clear i1 i2 i3 i4 cz hlt hk hk0
              go_loop [7] (fun j => ∃ k : Nat, p5 + 1 ≤ k ∧ k ≤ p6 ∧ j = .int .i64 k) (fun j => p6 - (intOf j).toNat)
              case atStart => exact ⟨p5 + 1, by omega, by omega, by go_num⟩
              case round =>
                obtain ⟨k, hk0, hk, rfl⟩ := hrel
                by_cases hlt : k < p6
                · obtain ⟨z, cz, hz⟩ := HT4.out.1 k hk0 hlt
                  have i1 : (k : Int) < (p6 : Int) + 1 := by omega
                  go_wp2
                  go_round
                  case rel => exact ⟨k + 1, by omega, by omega, by go_num⟩
                  case measure => simp [intOf]; omega
                · obtain rfl : p6 = k := by omega
                  have cz := HT4.out.2
                  have i1 : (p6 : Int) < (p6 : Int) + 1 := by omega
                  have i2 : ((p6 : Int) == (p6 : Int) + 1) = false := by simp; omega
                  have i3 : ¬ (c = p5 + 1) := by omega
                  have i4 : ((p5 : Int) + 1).toNat = p5 + 1 := by omega
                  go_wp2
                  refine bodyPost_ret (v := .tuple #[.string name, .string help, .string kind, .bool true]) (by simp [results, Try.results13, go_sem]) rfl ⟨rfl, _, rfl⟩

end Go.Proofs.Qxb6628204a
