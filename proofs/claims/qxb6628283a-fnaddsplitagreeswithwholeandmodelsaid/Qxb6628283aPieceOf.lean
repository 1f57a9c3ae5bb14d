import Derived.Test.Qxb6628283aPiece
namespace Go.Proofs.Qxb6628283a
open Go.RowKit
set_option linter.unusedVariables false
set_option linter.unusedSimpArgs false

/-- A list of Ep behind a slice. -/
def EpsAt (w : World) (ao : Option Addr) (n : Nat) (ps : Nat → Epr) : Prop :=
  n = 0 ∨ ∃ x : Addr, ao = some x ∧ ∀ j, j < n → w.cell? (x.add (j * 4)) = some (.int .i64 (ps j).at_) ∧ w.cell? ⟨(x.add (j * 4)).block, (x.add (j * 4)).off + 1, none⟩ = some (.int .i64 (ps j).by_) ∧ w.cell? ⟨(x.add (j * 4)).block, (x.add (j * 4)).off + 2, none⟩ = some (.int .i64 (ps j).ep) ∧ w.cell? ⟨(x.add (j * 4)).block, (x.add (j * 4)).off + 3, none⟩ = some (.bool (ps j).item)

theorem lt_of_cell {w : World} {x : Addr} {v : Value} (h : w.cell? x = some v) : x.block < w.heap.size := by
  unfold World.cell? at h
  by_cases hb : x.block < w.heap.size
  · exact hb
  · rw [Array.getElem?_eq_none (by omega)] at h
    simp at h

theorem EpsAt.below {w w' : World} {ao : Option Addr} {n : Nat} {ps : Nat → Epr} (h : EpsAt w ao n ps) (hb : Below w.heap.size w w') : EpsAt w' ao n ps := by
  rcases h with h | ⟨x, h1, h2⟩
  · exact .inl h
  · refine .inr ⟨x, h1, fun j hj => ?_⟩
    obtain ⟨a, b, c, d⟩ := h2 j hj
    exact ⟨(hb.cell (lt_of_cell a)).trans a, (hb.cell (lt_of_cell b)).trans b, (hb.cell (lt_of_cell c)).trans c, (hb.cell (lt_of_cell d)).trans d⟩

/-- A row half filled. -/
def half (f : Nat → Value) (z : Value) (k m : Nat) : Value := if m < k then f m else z
theorem half_step {w : World} {b e N k : Nat} {f : Nat → Value} {z : Value} (h : w.rowIs b e N (half f z k)) : (w.setCell ⟨b, k, none⟩ (f k)).rowIs b e N (half f z (k + 1)) := by
  refine (h.set k _).congr (fun m hm => ?_)
  unfold half
  by_cases h1 : m = k
  · subst h1; rw [if_pos rfl, if_pos (by omega)]
  · rw [if_neg h1]
    by_cases h2 : m < k
    · rw [if_pos h2, if_pos (by omega)]
    · rw [if_neg h2, if_neg (by omega)]

theorem four_step {w wr : World} {n k : Nat} {f0 f1 f2 f3 : Nat → Value} {z0 z1 z2 z3 : Value} (hr0 : wr.rowIs w.heap.size 3 n (half f0 z0 k)) (hr1 : wr.rowIs (w.heap.size + 1) 3 n (half f1 z1 k)) (hr2 : wr.rowIs (w.heap.size + 1 + 1) 3 n (half f2 z2 k)) (hr3 : wr.rowIs (w.heap.size + 1 + 1 + 1) 4 n (half f3 z3 k)) (hb : Below w.heap.size w wr) :
    ((((wr.setCell ⟨w.heap.size, k, none⟩ (f0 k)).setCell ⟨w.heap.size + 1, k, none⟩ (f1 k)).setCell ⟨w.heap.size + 1 + 1, k, none⟩ (f2 k)).setCell ⟨w.heap.size + 1 + 1 + 1, k, none⟩ (f3 k)).rowIs w.heap.size 3 n (half f0 z0 (k + 1)) ∧
    ((((wr.setCell ⟨w.heap.size, k, none⟩ (f0 k)).setCell ⟨w.heap.size + 1, k, none⟩ (f1 k)).setCell ⟨w.heap.size + 1 + 1, k, none⟩ (f2 k)).setCell ⟨w.heap.size + 1 + 1 + 1, k, none⟩ (f3 k)).rowIs (w.heap.size + 1) 3 n (half f1 z1 (k + 1)) ∧
    ((((wr.setCell ⟨w.heap.size, k, none⟩ (f0 k)).setCell ⟨w.heap.size + 1, k, none⟩ (f1 k)).setCell ⟨w.heap.size + 1 + 1, k, none⟩ (f2 k)).setCell ⟨w.heap.size + 1 + 1 + 1, k, none⟩ (f3 k)).rowIs (w.heap.size + 1 + 1) 3 n (half f2 z2 (k + 1)) ∧
    ((((wr.setCell ⟨w.heap.size, k, none⟩ (f0 k)).setCell ⟨w.heap.size + 1, k, none⟩ (f1 k)).setCell ⟨w.heap.size + 1 + 1, k, none⟩ (f2 k)).setCell ⟨w.heap.size + 1 + 1 + 1, k, none⟩ (f3 k)).rowIs (w.heap.size + 1 + 1 + 1) 4 n (half f3 z3 (k + 1)) ∧
    Below w.heap.size w ((((wr.setCell ⟨w.heap.size, k, none⟩ (f0 k)).setCell ⟨w.heap.size + 1, k, none⟩ (f1 k)).setCell ⟨w.heap.size + 1 + 1, k, none⟩ (f2 k)).setCell ⟨w.heap.size + 1 + 1 + 1, k, none⟩ (f3 k)) := by
  have ne : ∀ a b : Nat, a ≠ b → a ≠ (⟨b, k, none⟩ : Addr).block := fun a b h => h
  refine ⟨?_, ?_, ?_, ?_, ?_⟩
  · exact (((half_step hr0).setOther (ne _ _ (by omega)) _).setOther (ne _ _ (by omega)) _).setOther (ne _ _ (by omega)) _
  · exact ((half_step (hr1.setOther (ne _ _ (by omega)) _)).setOther (ne _ _ (by omega)) _).setOther (ne _ _ (by omega)) _
  · exact (half_step ((hr2.setOther (ne _ _ (by omega)) _).setOther (ne _ _ (by omega)) _)).setOther (ne _ _ (by omega)) _
  · exact half_step (((hr3.setOther (ne _ _ (by omega)) _).setOther (ne _ _ (by omega)) _).setOther (ne _ _ (by omega)) _)
  · have lb : ∀ b : Nat, w.heap.size ≤ b → w.heap.size ≤ (⟨b, k, none⟩ : Addr).block := fun b h => h
    exact (((hb.setCell (lb _ (by omega)) _).setCell (lb _ (by omega)) _).setCell (lb _ (by omega)) _).setCell (lb _ (by omega)) _

theorem made4 (w : World) (n : Nat) (f0 f1 f2 f3 : Nat → Value) :
    ((((w.alloc (.cells (madeCells #[.int .i64 0] n) 3)).alloc (.cells (madeCells #[.int .i64 0] n) 3)).alloc (.cells (madeCells #[.int .i64 0] n) 3)).alloc (.cells (madeCells #[.bool false] n) 4)).rowIs w.heap.size 3 n (half f0 (.int .i64 0) 0) ∧
    ((((w.alloc (.cells (madeCells #[.int .i64 0] n) 3)).alloc (.cells (madeCells #[.int .i64 0] n) 3)).alloc (.cells (madeCells #[.int .i64 0] n) 3)).alloc (.cells (madeCells #[.bool false] n) 4)).rowIs (w.heap.size + 1) 3 n (half f1 (.int .i64 0) 0) ∧
    ((((w.alloc (.cells (madeCells #[.int .i64 0] n) 3)).alloc (.cells (madeCells #[.int .i64 0] n) 3)).alloc (.cells (madeCells #[.int .i64 0] n) 3)).alloc (.cells (madeCells #[.bool false] n) 4)).rowIs (w.heap.size + 2) 3 n (half f2 (.int .i64 0) 0) ∧
    ((((w.alloc (.cells (madeCells #[.int .i64 0] n) 3)).alloc (.cells (madeCells #[.int .i64 0] n) 3)).alloc (.cells (madeCells #[.int .i64 0] n) 3)).alloc (.cells (madeCells #[.bool false] n) 4)).rowIs (w.heap.size + 3) 4 n (half f3 (.bool false) 0) ∧
    Below w.heap.size w ((((w.alloc (.cells (madeCells #[.int .i64 0] n) 3)).alloc (.cells (madeCells #[.int .i64 0] n) 3)).alloc (.cells (madeCells #[.int .i64 0] n) 3)).alloc (.cells (madeCells #[.bool false] n) 4)) := by
  have h0 := World.rowIs_made w (.int .i64 0) n 3
  have h1 := World.rowIs_made (w.alloc (.cells (madeCells #[.int .i64 0] n) 3)) (.int .i64 0) n 3
  have h2 := World.rowIs_made ((w.alloc (.cells (madeCells #[.int .i64 0] n) 3)).alloc (.cells (madeCells #[.int .i64 0] n) 3)) (.int .i64 0) n 3
  have h3 := World.rowIs_made (((w.alloc (.cells (madeCells #[.int .i64 0] n) 3)).alloc (.cells (madeCells #[.int .i64 0] n) 3)).alloc (.cells (madeCells #[.int .i64 0] n) 3)) (.bool false) n 4
  have z : ∀ (f : Nat → Value) (v : Value) (i : Nat), v = half f v 0 i := fun f v i => by simp [half]
  have s1 : (w.alloc (.cells (madeCells #[.int .i64 0] n) 3)).heap.size = w.heap.size + 1 := by simp
  have s2 : ((w.alloc (.cells (madeCells #[.int .i64 0] n) 3)).alloc (.cells (madeCells #[.int .i64 0] n) 3)).heap.size = w.heap.size + 2 := by simp
  have s3 : (((w.alloc (.cells (madeCells #[.int .i64 0] n) 3)).alloc (.cells (madeCells #[.int .i64 0] n) 3)).alloc (.cells (madeCells #[.int .i64 0] n) 3)).heap.size = w.heap.size + 3 := by simp
  rw [s1] at h1
  rw [s2] at h2
  rw [s3] at h3
  refine ⟨(((h0.alloc _).alloc _).alloc _).congr (fun i _ => z _ _ i), ((h1.alloc _).alloc _).congr (fun i _ => z _ _ i), (h2.alloc _).congr (fun i _ => z _ _ i), h3.congr (fun i _ => z _ _ i), ?_⟩
  exact ((((Below.refl _ _).alloc (Nat.le_refl _) _).alloc (by omega) _).alloc (by omega) _).alloc (by omega) _

set_option maxHeartbeats 1600000 in
set_option maxRecDepth 100000 in
theorem pieceOf_any (w : World) (ao : Option Addr) (n cap : Nat) (ps : Nat → Epr) (hn : n ≤ 4096) (he : EpsAt w ao n ps) :
    Calls Try.prog 7 #[.slice ao n cap] w fun en w' => ∃ pp eb, en = .returned (.pointer (some ⟨pp, 0, none⟩)) ∧ PieceAt w' pp eb n ps ∧ Below w.heap.size w w' := by
  have hmk := run_make_row' (P := Try.prog) 38 3 (.int .i64 0) 8 Try.underlying38 Try.info3 rfl .i64 .i64 n (by omega) (by omega)
  have hmk2 := run_make_row' (P := Try.prog) 47 4 (.bool false) 1 Try.underlying47 Try.info4 rfl .i64 .i64 n (by omega) (by omega)
  go_enter Try.func7, Try.ntmps7
  go_wp2_with fail
  go_loopw [8] (fun i wr => ∃ k : Nat, k ≤ n ∧ i = .int .i64 k ∧ wr.rowIs w.heap.size 3 n (half (fun j => .int .i64 (ps j).at_) (.int .i64 0) k) ∧ wr.rowIs (w.heap.size + 1) 3 n (half (fun j => .int .i64 (ps j).by_) (.int .i64 0) k) ∧ wr.rowIs (w.heap.size + 1 + 1) 3 n (half (fun j => .int .i64 (ps j).ep) (.int .i64 0) k) ∧ wr.rowIs (w.heap.size + 1 + 1 + 1) 4 n (half (fun j => .bool (ps j).item) (.bool false) k) ∧ Below w.heap.size w wr) (fun i _ => n - (intOf i).toNat)
  case atStart =>
    exact ⟨0, Nat.zero_le _, rfl, made4 w n _ _ _ _⟩
  case round =>
    obtain ⟨k, hk, rfl, hr0, hr1, hr2, hr3, hbel⟩ := hrel
    by_cases hlt : k < n
    · rcases he with he | ⟨x, rfl, hc⟩
      · omega
      obtain ⟨c0, c1, c2, c3⟩ := hc k hlt
      have l0 := (hbel.cell (lt_of_cell c0)).trans c0
      have l1 := (hbel.cell (lt_of_cell c1)).trans c1
      have l2 := (hbel.cell (lt_of_cell c2)).trans c2
      have l3 := (hbel.cell (lt_of_cell c3)).trans c3
      have hxb : (x.add (k * 4)).block < w.heap.size := lt_of_cell c0
      have n0 : ¬ (w.heap.size = (x.add (k * 4)).block) := by omega
      have n1 : ¬ (w.heap.size + 1 = (x.add (k * 4)).block) := by omega
      have n2 : ¬ (w.heap.size + 1 + 1 = (x.add (k * 4)).block) := by omega
      have n3 : ¬ (w.heap.size + 1 + 1 + 1 = (x.add (k * 4)).block) := by omega
      have e0 := hr0.cell hlt
      have e1 := hr1.cell hlt
      have e2 := hr2.cell hlt
      have e3 := hr3.cell hlt
      have f0 := hr0.frozen k
      have f1 := hr1.frozen k
      have f2 := hr2.frozen k
      have f3 := hr3.frozen k
      have b1 : (k : Int) < (n : Int) := by omega
      have b0 : (0 : Int) ≤ (k : Int) := by omega
      clear c0 c1 c2 c3 hc
      go_wp2_with fail
      go_roundw
      case rel =>
        have st := four_step hr0 hr1 hr2 hr3 hbel
        refine ⟨k + 1, by omega, by go_num, ?_⟩
        exact st
      case measure => simp [intOf]; omega
    · obtain rfl : n = k := by omega
      go_wp2_with fail
      refine (newPiece_any _ n _ _ _ _ ps hn (hr0.congr (fun m hm => by simp [half, hm])) (hr1.congr (fun m hm => by simp [half, hm])) (hr2.congr (fun m hm => by simp [half, hm])) (hr3.congr (fun m hm => by simp [half, hm]))).mono ?_
      rintro en w1 ⟨pp, eb, rfl, hp, hb1⟩
      go_wp2
      go_ret
      exact ⟨_, _, rfl, hp, hbel.trans (hb1.mono hbel.size)⟩

end Go.Proofs.Qxb6628283a
