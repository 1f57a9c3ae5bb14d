import Derived.Test.Qxb6628283aItems
import Derived.Deep.OwnRows
import Derived.Deep.RegionHeld3
namespace Go.Proofs.Qxb6628283a
open Go.RowKit
set_option linter.unusedVariables false

theorem Try.info45 : (Try.prog.info? 45).map (fun i => (i.zero, i.size, i.bytes)) = some (some (.agg #[.int .i64 0, .int .i64 0, .int .i64 0, .bool false]), 4, 32) := by kernel_rfl
theorem Try.info4 : (Try.prog.info? 4).map (fun i => (i.zero, i.size, i.bytes)) = some (some (.bool false), 1, 1) := by kernel_rfl

def cellOf (ps : Nat → Epr) (m : Nat) : Value :=
  if m % 4 = 0 then .int .i64 (ps (m / 4)).at_ else if m % 4 = 1 then .int .i64 (ps (m / 4)).by_ else if m % 4 = 2 then .int .i64 (ps (m / 4)).ep else .bool (ps (m / 4)).item
def zeroOf (m : Nat) : Value := if m % 4 = 3 then .bool false else .int .i64 0
def fillTo (ps : Nat → Epr) (k m : Nat) : Value := if m < k * 4 then cellOf ps m else zeroOf m

theorem cellOf0 (ps : Nat → Epr) (j : Nat) : cellOf ps (j * 4) = .int .i64 (ps j).at_ := by unfold cellOf; rw [if_pos (by omega)]; congr 2; congr 1; omega
theorem cellOf1 (ps : Nat → Epr) (j : Nat) : cellOf ps (j * 4 + 1) = .int .i64 (ps j).by_ := by unfold cellOf; rw [if_neg (by omega), if_pos (by omega)]; congr 2; congr 1; omega
theorem cellOf2 (ps : Nat → Epr) (j : Nat) : cellOf ps (j * 4 + 2) = .int .i64 (ps j).ep := by unfold cellOf; rw [if_neg (by omega), if_neg (by omega), if_pos (by omega)]; congr 2; congr 1; omega
theorem cellOf3 (ps : Nat → Epr) (j : Nat) : cellOf ps (j * 4 + 3) = .bool (ps j).item := by unfold cellOf; rw [if_neg (by omega), if_neg (by omega), if_neg (by omega)]; congr 2; congr 1; omega

theorem made45 (ps : Nat → Epr) (w : World) (n : Nat) : (w.alloc (.cells (madeCells #[.int .i64 0, .int .i64 0, .int .i64 0, .bool false] (n * 4)) 45)).rowIs w.heap.size 45 (n * 4) (fillTo ps 0) := by
  refine ⟨_, heap_alloc_new w _, size_madeCells _ _, fun i hi => ?_⟩
  have h4 : i % 4 = 0 ∨ i % 4 = 1 ∨ i % 4 = 2 ∨ i % 4 = 3 := by omega
  rcases h4 with h | h | h | h <;> simp [madeCells, hi, fillTo, zeroOf, h]

theorem run_make45 (n : Nat) (hn : n ≤ 1000000) (w : World) : (Instr.makeSlice 37 (.int .i64 (n : Int)) (.int .i64 (n : Int))).run Try.prog w = .ok (.slice (some ⟨w.heap.size, 0, none⟩) n n) (w.alloc (.cells (madeCells #[.int .i64 0, .int .i64 0, .int .i64 0, .bool false] (n * 4)) 45)) := by
  obtain ⟨i0, hi, hz0, hz1, hz2⟩ := info_parts Try.info45
  have hr := run_make (P := Try.prog) w 37 45 i0 _ Try.underlying37 hi hz0 .i64 .i64 n n (by omega) (Int.le_refl _) (by rw [hz2]; omega) (by omega)
  simp only [Int.toNat_natCast, hz1] at hr
  exact hr

theorem fill_step {w : World} {b N : Nat} {ps : Nat → Epr} {k : Nat} (h : w.rowIs b 45 N (fillTo ps k)) :
    ((((w.setCell ⟨b, k * 4, none⟩ (.int .i64 (ps k).at_)).setCell ⟨b, k * 4 + 1, none⟩ (.int .i64 (ps k).by_)).setCell ⟨b, k * 4 + 2, none⟩ (.int .i64 (ps k).ep)).setCell ⟨b, k * 4 + 3, none⟩ (.bool (ps k).item)).rowIs b 45 N (fillTo ps (k + 1)) := by
  refine ((((h.set (k * 4) _).set (k * 4 + 1) _).set (k * 4 + 2) _).set (k * 4 + 3) _).congr (fun m hm => ?_)
  unfold fillTo
  by_cases h3 : m = k * 4 + 3
  · subst h3; rw [if_pos rfl, if_pos (by omega), cellOf3]
  · rw [if_neg h3]
    by_cases h2 : m = k * 4 + 2
    · subst h2; rw [if_pos rfl, if_pos (by omega), cellOf2]
    · rw [if_neg h2]
      by_cases h1 : m = k * 4 + 1
      · subst h1; rw [if_pos rfl, if_pos (by omega), cellOf1]
      · rw [if_neg h1]
        by_cases h0 : m = k * 4
        · subst h0; rw [if_pos rfl, if_pos (by omega), cellOf0]
        · rw [if_neg h0]
          by_cases hl : m < k * 4
          · rw [if_pos hl, if_pos (by omega)]
          · rw [if_neg hl, if_neg (by omega)]

theorem piece_done {w : World} {b n : Nat} {ps : Nat → Epr} (h : w.rowIs b 45 (n * 4) (fillTo ps n)) :
    PieceAt (w.alloc (.cells #[.slice none 0 0, .slice (some ⟨b, 0, none⟩) n n, .slice none 0 0, .slice none 0 0, .int .i64 0, .int .i64 0, .int .i64 0] 43)) w.heap.size b n ps := by
  obtain ⟨c, hb, hc, hf⟩ := h.alloc (.cells #[.slice none 0 0, .slice (some ⟨b, 0, none⟩) n n, .slice none 0 0, .slice none 0 0, .int .i64 0, .int .i64 0, .int .i64 0] 43)
  refine ⟨heap_alloc_new w _, c, hb, fun j hj => ⟨?_, ?_, ?_, ?_⟩⟩
  · rw [hf _ (by omega), fillTo, if_pos (by omega), cellOf0]
  · rw [hf _ (by omega), fillTo, if_pos (by omega), cellOf1]
  · rw [hf _ (by omega), fillTo, if_pos (by omega), cellOf2]
  · rw [hf _ (by omega), fillTo, if_pos (by omega), cellOf3]

set_option maxHeartbeats 1600000 in
set_option maxRecDepth 100000 in
theorem newPiece_any (w : World) (n r0 r1 r2 r3 : Nat) (ps : Nat → Epr) (hn : n ≤ 4096)
    (h0 : w.rowIs r0 3 n (fun j => .int .i64 (ps j).at_)) (h1 : w.rowIs r1 3 n (fun j => .int .i64 (ps j).by_)) (h2 : w.rowIs r2 3 n (fun j => .int .i64 (ps j).ep)) (h3 : w.rowIs r3 4 n (fun j => .bool (ps j).item)) :
    Calls Try.prog 12 #[.slice (some ⟨r0, 0, none⟩) n n, .slice (some ⟨r1, 0, none⟩) n n, .slice (some ⟨r2, 0, none⟩) n n, .slice (some ⟨r3, 0, none⟩) n n] w fun en w' => ∃ pp eb, en = .returned (.pointer (some ⟨pp, 0, none⟩)) ∧ PieceAt w' pp eb n ps ∧ Below w.heap.size w w' := by
  have hmk := run_make45 n (by omega)
  go_enter Try.func12, Try.ntmps12
  go_wp2_with fail
  go_loopw [10] (fun i wr => ∃ k : Nat, k ≤ n ∧ i = .int .i64 k ∧ wr.rowIs w.heap.size 45 (n * 4) (fillTo ps k) ∧ Below w.heap.size w wr) (fun i _ => n - (intOf i).toNat)
  case atStart => exact ⟨0, Nat.zero_le _, rfl, made45 ps w n, (Below.refl _ _).alloc (Nat.le_refl _) _⟩
  case round =>
    obtain ⟨k, hk, rfl, hrow, hbel⟩ := hrel
    by_cases hlt : k < n
    · have l0 := (hbel.cell (p := ⟨r0, k, none⟩) h0.lt).trans (h0.cell hlt)
      have l1 := (hbel.cell (p := ⟨r1, k, none⟩) h1.lt).trans (h1.cell hlt)
      have l2 := (hbel.cell (p := ⟨r2, k, none⟩) h2.lt).trans (h2.cell hlt)
      have l3 := (hbel.cell (p := ⟨r3, k, none⟩) h3.lt).trans (h3.cell hlt)
      have n0 : ¬ (w.heap.size = r0) := by have := h0.lt; omega
      have n1 : ¬ (w.heap.size = r1) := by have := h1.lt; omega
      have n2 : ¬ (w.heap.size = r2) := by have := h2.lt; omega
      have n3 : ¬ (w.heap.size = r3) := by have := h3.lt; omega
      have e0 := hrow.cell (i := k * 4) (by omega)
      have e1 := hrow.cell (i := k * 4 + 1) (by omega)
      have e2 := hrow.cell (i := k * 4 + 2) (by omega)
      have e3 := hrow.cell (i := k * 4 + 3) (by omega)
      have f0 := hrow.frozen (k * 4)
      have f1 := hrow.frozen (k * 4 + 1)
      have f2 := hrow.frozen (k * 4 + 2)
      have f3 := hrow.frozen (k * 4 + 3)
      have b1 : (k : Int) < (n : Int) := by omega
      have b0 : (0 : Int) ≤ (k : Int) := by omega
      go_wp2_with fail
      go_region_held3 (fun wx => wx.cell? ⟨r0, k, none⟩ = some (.int .i64 (ps k).at_) ∧ wx.cell? ⟨r1, k, none⟩ = some (.int .i64 (ps k).by_) ∧ wx.cell? ⟨r2, k, none⟩ = some (.int .i64 (ps k).ep) ∧ wx.cell? ⟨r3, k, none⟩ = some (.bool (ps k).item)) (go_keep) (fail)
      go_wp2
      go_roundw
      case rel => exact ⟨k + 1, by omega, by go_num, (fill_step hrow).drew, ((((hbel.setCell (Nat.le_refl _) _).setCell (Nat.le_refl _) _).setCell (Nat.le_refl _) _).setCell (Nat.le_refl _) _).drew⟩
      case measure => simp [intOf]; omega
    · obtain rfl : n = k := by omega
      go_wp2_with fail
      go_ret
      exact ⟨_, _, rfl, piece_done hrow, hbel.alloc hbel.size _⟩

end Go.Proofs.Qxb6628283a
