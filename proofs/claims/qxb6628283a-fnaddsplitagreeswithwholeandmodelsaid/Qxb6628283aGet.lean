import Derived.Test.Qxb6628283aPieceOf
import Derived.Deep.QuietTactic
import Derived.BigQuiet
namespace Go.Proofs.Qxb6628283a
open Go.RowKit
set_option linter.unusedVariables false
set_option linter.unusedSimpArgs false

theorem draws {B : Nat} {w w' : World} (h : Below B w w') (q : Nat) : Below B w (w'.drewN q) := ⟨h.os, h.tape, h.output, h.size, h.block⟩

/-- A row of integers behind a slice, for reading. -/
def IntsAt (w : World) (ao : Option Addr) (l : List Int) : Prop :=
  l = [] ∨ ∃ b, ao = some ⟨b, 0, none⟩ ∧ ∀ j, j < l.length → w.cell? ⟨b, j, none⟩ = some (.int .i64 (l.getD j 0))

/-- A Ranking, for reading. -/
def View (w : World) (rb len : Nat) (X : Nat → List Int) : Prop :=
  ∃ go cap, w.cell? ⟨rb, 0, none⟩ = some (.slice go len cap) ∧ (0 < len → ∃ gb, go = some ⟨gb, 0, none⟩ ∧ ∀ k, k < 3 * len → ∃ ao c, w.cell? ⟨gb, k, none⟩ = some (.slice ao (X k).length c) ∧ IntsAt w ao (X k))

theorem IntsAt.below {w w' : World} {ao : Option Addr} {l : List Int} (h : IntsAt w ao l) (hb : Below w.heap.size w w') : IntsAt w' ao l := by
  rcases h with h | ⟨b, h1, h2⟩
  · exact .inl h
  · exact .inr ⟨b, h1, fun j hj => (hb.cell (lt_of_cell (h2 j hj))).trans (h2 j hj)⟩

theorem View.below {w w' : World} {rb len : Nat} {X : Nat → List Int} (h : View w rb len X) (hb : Below w.heap.size w w') : View w' rb len X := by
  obtain ⟨go, cap, h1, h2⟩ := h
  refine ⟨go, cap, (hb.cell (lt_of_cell h1)).trans h1, fun hl => ?_⟩
  obtain ⟨gb, h3, h4⟩ := h2 hl
  refine ⟨gb, h3, fun k hk => ?_⟩
  obtain ⟨ao, c, h5, h6⟩ := h4 k hk
  exact ⟨ao, c, (hb.cell (lt_of_cell h5)).trans h5, h6.below hb⟩

theorem ints_of_own {w : World} {B : Nat} {v : Value} {l : List Int} (h : w.ownsRow B 3 1 v l.length (l.map (Value.int .i64))) : ∃ ao c, v = .slice ao l.length c ∧ IntsAt w ao l := by
  rcases h.2 with ⟨hv, h0⟩ | ⟨g, cap, cur, hv, _⟩
  · exact ⟨none, 0, by rw [hv, h0], .inl (List.length_eq_zero_iff.1 h0)⟩
  · refine ⟨_, _, hv, .inr ⟨g, rfl, fun j hj => ?_⟩⟩
    subst hv
    rw [own_cell h j hj]
    simp [List.getD, hj]

theorem Rk.view {w : World} {B rb len : Nat} {gv : Value} {vs : List Value} {X : Nat → List Int} (h : Rk w B rb gv len vs X) : View w rb len X := by
  have hc := h.cell
  have hform : ∃ go cap, gv = .slice go len cap := by
    rcases h.row.2 with ⟨hv, h0⟩ | ⟨g, cap, cur, hv, _⟩
    · exact ⟨none, 0, by rw [hv, h0]⟩
    · exact ⟨_, _, hv⟩
  obtain ⟨go, cap, hgv⟩ := hform
  refine ⟨go, cap, by rw [hc, hgv], fun hl => ?_⟩
  obtain ⟨gb, cap', cur, hv, _⟩ := h.form hl
  rw [hgv] at hv
  simp at hv
  obtain ⟨rfl, rfl⟩ := hv
  refine ⟨gb, rfl, fun k hk => ?_⟩
  obtain ⟨v, hv1, hv2⟩ := h.at k hk
  obtain ⟨ao, c, hv3, hi⟩ := ints_of_own hv2
  exact ⟨ao, c, by rw [(h.slot hgv k hk).1, hv1, hv3], hi⟩

set_option maxHeartbeats 800000 in
set_option maxRecDepth 100000 in
theorem count_get (w : World) (rb len cap : Nat) (go : Option Addr) (h : w.cell? ⟨rb, 0, none⟩ = some (.slice go len cap)) :
    Calls Try.prog 13 #[.pointer (some ⟨rb, 0, none⟩)] w fun en w' => en = .returned (.int .i64 len) ∧ w' = w := by
  go_enter Try.func13, Try.ntmps13
  go_wp2
  go_ret
  exact ⟨rfl, rfl⟩

set_option maxHeartbeats 800000 in
set_option maxRecDepth 100000 in
theorem epochs_get (w : World) (rb gb g len cap : Nat) (v : Value) (h : w.cell? ⟨rb, 0, none⟩ = some (.slice (some ⟨gb, 0, none⟩) len cap)) (hg : g < len) (hv : w.cell? ⟨gb, g * 3, none⟩ = some v) :
    Calls Try.prog 15 #[.pointer (some ⟨rb, 0, none⟩), .int .i64 g] w fun en w' => en = .returned v ∧ w' = w := by
  go_enter Try.func15, Try.ntmps15
  go_wp2
  go_ret
  exact ⟨rfl, rfl⟩

set_option maxHeartbeats 800000 in
set_option maxRecDepth 100000 in
theorem counts_get (w : World) (rb gb g len cap : Nat) (v : Value) (h : w.cell? ⟨rb, 0, none⟩ = some (.slice (some ⟨gb, 0, none⟩) len cap)) (hg : g < len) (hv : w.cell? ⟨gb, g * 3 + 1, none⟩ = some v) :
    Calls Try.prog 16 #[.pointer (some ⟨rb, 0, none⟩), .int .i64 g] w fun en w' => en = .returned v ∧ w' = w := by
  go_enter Try.func16, Try.ntmps16
  go_wp2
  go_ret
  exact ⟨rfl, rfl⟩

set_option maxHeartbeats 800000 in
set_option maxRecDepth 100000 in
theorem toggled_get (w : World) (rb gb g len cap : Nat) (v : Value) (h : w.cell? ⟨rb, 0, none⟩ = some (.slice (some ⟨gb, 0, none⟩) len cap)) (hg : g < len) (hv : w.cell? ⟨gb, g * 3 + 2, none⟩ = some v) :
    Calls Try.prog 17 #[.pointer (some ⟨rb, 0, none⟩), .int .i64 g] w fun en w' => en = .returned v ∧ w' = w := by
  go_enter Try.func17, Try.ntmps17
  go_wp2
  go_ret
  exact ⟨rfl, rfl⟩

set_option maxHeartbeats 800000 in
set_option maxRecDepth 100000 in
theorem indexOf_any (w : World) (ao : Option Addr) (l : List Int) (c : Nat) (x : Int) (p : Nat) (hl : l.length ≤ 65536) (h : IntsAt w ao l) (hp : p < l.length) (hx : l.getD p 0 = x) (hn : ∀ j, j < p → l.getD j 0 ≠ x) :
    Calls Try.prog 18 #[.slice ao l.length c, .int .i64 x] w fun en w' => en = .returned (.int .i64 p) ∧ w' = w := by
  rcases h with h | ⟨b, rfl, hc⟩
  · subst h; simp at hp
  generalize hN : l.length = N at *
  go_enter Try.func18, Try.ntmps18
  go_wp2_with fail
  go_loopw [5] (fun i wr => ∃ k : Nat, k ≤ p ∧ i = .int .i64 k ∧ wr = w) (fun i _ => p + 1 - (intOf i).toNat)
  case atStart => exact ⟨0, Nat.zero_le _, rfl, rfl⟩
  case round =>
    obtain ⟨k, hk, rfl, rfl⟩ := hrel
    have c0 := hc k (by omega)
    have b0 : (k : Int) < (N : Int) := by omega
    by_cases hlt : k < p
    · have hne := hn k hlt
      generalize l.getD k 0 = y at *
      clear hc hn
      go_wp2_with fail
      go_roundw
      case rel => exact ⟨k + 1, by omega, by go_num, trivial⟩
      case measure => simp [intOf]; omega
    · obtain rfl : p = k := by omega
      rw [hx] at c0
      clear hc hn
      go_wp2_with fail
      go_ret
      exact ⟨rfl, rfl⟩

theorem indexOf_len (w : World) (ao : Option Addr) (l : List Int) (c N : Nat) (x : Int) (p : Nat) (hN : l.length = N) (hl : N ≤ 65536) (h : IntsAt w ao l) (hp : p < N) (hx : l.getD p 0 = x) (hn : ∀ j, j < p → l.getD j 0 ≠ x) :
    Calls Try.prog 18 #[.slice ao N c, .int .i64 x] w fun en w' => en = .returned (.int .i64 p) ∧ w' = w := by
  subst hN
  exact indexOf_any w ao l c x p hl h hp hx hn

set_option maxHeartbeats 800000 in
set_option maxRecDepth 100000 in
theorem sameInts_any (w : World) (ao bo : Option Addr) (l : List Int) (c d : Nat) (hl : l.length ≤ 65536) (h : IntsAt w ao l) (h' : IntsAt w bo l) :
    Calls Try.prog 14 #[.slice ao l.length c, .slice bo l.length d] w fun en w' => en = .returned (.bool true) ∧ Below w.heap.size w w' := by
  have hall : ∀ k, k < l.length → ∃ b b', ao = some ⟨b, 0, none⟩ ∧ bo = some ⟨b', 0, none⟩ ∧ w.cell? ⟨b, k, none⟩ = some (.int .i64 (l.getD k 0)) ∧ w.cell? ⟨b', k, none⟩ = some (.int .i64 (l.getD k 0)) := by
    intro k hk
    rcases h with h | ⟨b, h1, h2⟩
    · subst h; simp at hk
    rcases h' with h | ⟨b', h3, h4⟩
    · subst h; simp at hk
    exact ⟨b, b', h1, h3, h2 k hk, h4 k hk⟩
  clear h h'
  generalize hN : l.length = N at *
  go_enter Try.func14, Try.ntmps14
  go_wp2_with fail
  go_loopw [5] (fun i wr => ∃ k : Nat, k ≤ N ∧ i = .int .i64 k ∧ Below w.heap.size w wr) (fun i _ => N - (intOf i).toNat)
  case atStart => exact ⟨0, Nat.zero_le _, rfl, Below.refl _ _⟩
  case round =>
    obtain ⟨k, hk, rfl, hbel⟩ := hrel
    by_cases hlt : k < N
    · obtain ⟨b, b', rfl, rfl, c0, c1⟩ := hall k hlt
      have c0 := (hbel.cell (lt_of_cell c0)).trans c0
      have c1 := (hbel.cell (lt_of_cell c1)).trans c1
      have b0 : (k : Int) < (N : Int) := by omega
      generalize l.getD k 0 = y at *
      clear hall
      go_wp2_with fail
      go_quiet (fail)
      go_wp2_with fail
      go_roundw
      case rel => exact ⟨k + 1, by omega, by go_num, draws hbel _⟩
      case measure => simp [intOf]; omega
    · obtain rfl : N = k := by omega
      go_wp2_with fail
      go_ret
      exact ⟨rfl, hbel⟩

end Go.Proofs.Qxb6628283a
