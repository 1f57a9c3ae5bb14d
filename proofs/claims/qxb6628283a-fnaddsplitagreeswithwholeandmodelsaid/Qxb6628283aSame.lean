import Derived.Test.Qxb6628283aGet
namespace Go.Proofs.Qxb6628283a
open Go.RowKit
set_option linter.unusedVariables false
set_option linter.unusedSimpArgs false

theorem View.slots {w : World} {rb len : Nat} {X : Nat → List Int} (h : View w rb len X) (g : Nat) (hg : g < len) :
    ∃ gb cap, w.cell? ⟨rb, 0, none⟩ = some (.slice (some ⟨gb, 0, none⟩) len cap) ∧ (∃ ao c, w.cell? ⟨gb, g * 3, none⟩ = some (.slice ao (X (g * 3)).length c) ∧ IntsAt w ao (X (g * 3))) ∧
      (∃ ao c, w.cell? ⟨gb, g * 3 + 1, none⟩ = some (.slice ao (X (g * 3 + 1)).length c) ∧ IntsAt w ao (X (g * 3 + 1))) ∧ (∃ ao c, w.cell? ⟨gb, g * 3 + 2, none⟩ = some (.slice ao (X (g * 3 + 2)).length c) ∧ IntsAt w ao (X (g * 3 + 2))) := by
  obtain ⟨go, cap, h1, h2⟩ := h
  obtain ⟨gb, rfl, h3⟩ := h2 (by omega)
  exact ⟨gb, cap, h1, h3 _ (by omega), h3 _ (by omega), h3 _ (by omega)⟩

set_option maxHeartbeats 1600000 in
set_option maxRecDepth 100000 in
theorem sameRanking_any (w : World) (ra rb len : Nat) (X : Nat → List Int) (h1 : View w ra len X) (h2 : View w rb len X) (hl : len ≤ 65537) (hX : ∀ k, (X k).length ≤ 65536) :
    Calls Try.prog 8 #[.pointer (some ⟨ra, 0, none⟩), .pointer (some ⟨rb, 0, none⟩)] w fun en w' => en = .returned (.bool true) ∧ Below w.heap.size w w' := by
  have H1 : Hid (View w ra len X) := h1
  have H2 : Hid (View w rb len X) := h2
  obtain ⟨go1, gc1, d1, _⟩ := h1
  obtain ⟨go2, gc2, d2, _⟩ := h2
  have HX : Hid _ := hX
  clear hX
  go_enter Try.func8, Try.ntmps8
  go_wp2_with fail
  refine (count_get _ ra len gc1 go1 d1).mono ?_
  rintro en w1 ⟨rfl, rfl⟩
  go_wp2_with fail
  refine (count_get _ rb len gc2 go2 d2).mono ?_
  rintro en w1 ⟨rfl, rfl⟩
  clear d1 d2
  go_wp2_with fail
  go_loopw [6] (fun i wr => ∃ g : Nat, g ≤ len ∧ i = .int .i64 g ∧ Below w1.heap.size w1 wr) (fun i _ => len - (intOf i).toNat)
  case atStart => exact ⟨0, Nat.zero_le _, rfl, Below.refl _ _⟩
  case round =>
    obtain ⟨g, hg, rfl, hbel⟩ := hrel
    by_cases hlt : g < len
    · have b1 : (g : Int) < (len : Int) := by omega
      obtain ⟨ga, ca, ea, ⟨ao, c, sa, ia⟩, _, _⟩ := (H1.out.below hbel).slots g hlt
      obtain ⟨gb, cb, eb, ⟨bo, d, sb, ib⟩, _, _⟩ := (H2.out.below hbel).slots g hlt
      go_wp2_with fail
      refine (epochs_get _ ra ga g len ca _ ea hlt sa).mono ?_
      rintro en w2 ⟨rfl, rfl⟩
      go_wp2_with fail
      refine (epochs_get _ rb gb g len cb _ eb hlt sb).mono ?_
      rintro en w2 ⟨rfl, rfl⟩
      go_wp2_with fail
      refine (sameInts_any _ ao bo (X (g * 3)) c d (HX.out _) ia ib).mono ?_
      rintro en w3 ⟨rfl, hb3⟩
      have hbel := hbel.trans (hb3.mono hbel.size)
      clear ea sa ia eb sb ib hb3
      obtain ⟨ga, ca, ea, _, ⟨ao, c, sa, ia⟩, _⟩ := (H1.out.below hbel).slots g hlt
      obtain ⟨gb, cb, eb, _, ⟨bo, d, sb, ib⟩, _⟩ := (H2.out.below hbel).slots g hlt
      go_wp2_with fail
      refine (counts_get _ ra ga g len ca _ ea hlt sa).mono ?_
      rintro en w4 ⟨rfl, rfl⟩
      go_wp2_with fail
      refine (counts_get _ rb gb g len cb _ eb hlt sb).mono ?_
      rintro en w4 ⟨rfl, rfl⟩
      go_wp2_with fail
      refine (sameInts_any _ ao bo (X (g * 3 + 1)) c d (HX.out _) ia ib).mono ?_
      rintro en w5 ⟨rfl, hb5⟩
      have hbel := hbel.trans (hb5.mono hbel.size)
      clear ea sa ia eb sb ib hb5
      obtain ⟨ga, ca, ea, _, _, ⟨ao, c, sa, ia⟩⟩ := (H1.out.below hbel).slots g hlt
      obtain ⟨gb, cb, eb, _, _, ⟨bo, d, sb, ib⟩⟩ := (H2.out.below hbel).slots g hlt
      go_wp2_with fail
      refine (toggled_get _ ra ga g len ca _ ea hlt sa).mono ?_
      rintro en w6 ⟨rfl, rfl⟩
      go_wp2_with fail
      refine (toggled_get _ rb gb g len cb _ eb hlt sb).mono ?_
      rintro en w6 ⟨rfl, rfl⟩
      go_wp2_with fail
      refine (sameInts_any _ ao bo (X (g * 3 + 2)) c d (HX.out _) ia ib).mono ?_
      rintro en w7 ⟨rfl, hb7⟩
      have hbel := hbel.trans (hb7.mono hbel.size)
      go_wp2_with fail
      go_roundw
      case rel => exact ⟨g + 1, by omega, by go_num, hbel⟩
      case measure => simp [intOf]; omega
    · obtain rfl : len = g := by omega
      go_wp2_with fail
      go_ret
      exact ⟨rfl, hbel⟩

end Go.Proofs.Qxb6628283a
