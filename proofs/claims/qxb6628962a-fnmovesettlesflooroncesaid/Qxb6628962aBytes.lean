import Derived.Test.Qxb6628962aFloor
namespace Go.Proofs.Qxb6628962a
open Go.RowKit
set_option linter.unusedVariables false
set_option linter.unusedSimpArgs false

def bb (a b c : Nat) : Bool := decide (a ≤ 1048576 ∧ b ≤ 1048576 ∧ a + b ≤ 1048576 ∧ c ≤ 1048576 ∧ a + b + c ≤ 1048576)
theorem bb_true {a b c : Nat} (h : a ≤ 1048576 ∧ b ≤ 1048576 ∧ a + b ≤ 1048576 ∧ c ≤ 1048576 ∧ a + b + c ≤ 1048576) : bb a b c = true := decide_eq_true h
theorem bb_false {a b c : Nat} (h : ¬ (a ≤ 1048576 ∧ b ≤ 1048576 ∧ a + b ≤ 1048576 ∧ c ≤ 1048576 ∧ a + b + c ≤ 1048576)) : bb a b c = false := decide_eq_false h

theorem below3 (w : World) (o1 o2 o3 : Obj) : Below w.heap.size w (((w.alloc o1).alloc o2).alloc o3) :=
  (((Below.refl _ _).alloc (Nat.le_refl _) _).alloc (by simp) _).alloc (by simp; omega) _

set_option maxHeartbeats 1600000 in
set_option maxRecDepth 100000 in
theorem bytes5 (w : World) (f : Flr) (sq sc : Int) (sx : ByteArray) (po pl : Option Addr) (gd : Bool) (xi : ByteArray) (t1 t2 : Int) :
    Calls Try.prog 5 #[.agg #[.int .i64 f.seq, .int .i64 f.cand, .string f.xid, .int .i64 f.high], .agg #[.int .i64 sq, .int .i64 sc, .string sx], .agg #[.pointer po, .pointer pl, .bool gd, .string xi], .int .i64 t1, .int .i64 t2] w fun e w' =>
      e = .returned (.bool (bb f.xid.size sx.size xi.size)) ∧ Below w.heap.size w w' := by
  obtain ⟨q1, q2, X, q3⟩ := f
  dsimp only
  by_cases h1 : X.size ≤ 1048576
  · by_cases h2 : sx.size ≤ 1048576
    · by_cases h3 : X.size + sx.size ≤ 1048576
      · by_cases h4 : xi.size ≤ 1048576
        · by_cases h5 : X.size + sx.size + xi.size ≤ 1048576
          · rw [bb_true ⟨h1, h2, h3, h4, h5⟩]
            have i1 : ¬ (1048576 < (X.size : Int)) := by omega
            have i2 : ¬ (1048576 < (sx.size : Int)) := by omega
            have i3 : ¬ (1048576 < (X.size : Int) + (sx.size : Int)) := by omega
            have i4 : ¬ (1048576 < (xi.size : Int)) := by omega
            have i5 : ¬ (1048576 < (X.size : Int) + (sx.size : Int) + (xi.size : Int)) := by omega
            go_enter Try.func5, Try.ntmps5
            go_wp2
            go_ret
            exact ⟨rfl, below3 _ _ _ _⟩
          · rw [bb_false (by omega)]
            have i1 : ¬ (1048576 < (X.size : Int)) := by omega
            have i2 : ¬ (1048576 < (sx.size : Int)) := by omega
            have i3 : ¬ (1048576 < (X.size : Int) + (sx.size : Int)) := by omega
            have i4 : ¬ (1048576 < (xi.size : Int)) := by omega
            have i5 : (1048576 < (X.size : Int) + (sx.size : Int) + (xi.size : Int)) := by omega
            go_enter Try.func5, Try.ntmps5
            go_wp2
            go_ret
            exact ⟨rfl, below3 _ _ _ _⟩
        · rw [bb_false (by omega)]
          have i1 : ¬ (1048576 < (X.size : Int)) := by omega
          have i2 : ¬ (1048576 < (sx.size : Int)) := by omega
          have i3 : ¬ (1048576 < (X.size : Int) + (sx.size : Int)) := by omega
          have i4 : (1048576 < (xi.size : Int)) := by omega
          go_enter Try.func5, Try.ntmps5
          go_wp2
          go_ret
          exact ⟨rfl, below3 _ _ _ _⟩
      · rw [bb_false (by omega)]
        have i1 : ¬ (1048576 < (X.size : Int)) := by omega
        have i2 : ¬ (1048576 < (sx.size : Int)) := by omega
        have i3 : (1048576 < (X.size : Int) + (sx.size : Int)) := by omega
        go_enter Try.func5, Try.ntmps5
        go_wp2
        go_ret
        exact ⟨rfl, below3 _ _ _ _⟩
    · rw [bb_false (by omega)]
      have i1 : ¬ (1048576 < (X.size : Int)) := by omega
      have i2 : (1048576 < (sx.size : Int)) := by omega
      go_enter Try.func5, Try.ntmps5
      go_wp2
      go_ret
      exact ⟨rfl, below3 _ _ _ _⟩
  · rw [bb_false (by omega)]
    have i1 : (1048576 < (X.size : Int)) := by omega
    go_enter Try.func5, Try.ntmps5
    go_wp2
    go_ret
    exact ⟨rfl, below3 _ _ _ _⟩

set_option maxHeartbeats 1600000 in
set_option maxRecDepth 100000 in
theorem bytes4 (w : World) (f : Flr) (sq sc : Int) (sx : ByteArray) (po pl : Option Addr) (gd : Bool) (xi : ByteArray) (t1 : Int) :
    Calls Try.prog 10 #[.agg #[.int .i64 f.seq, .int .i64 f.cand, .string f.xid, .int .i64 f.high], .agg #[.int .i64 sq, .int .i64 sc, .string sx], .agg #[.pointer po, .pointer pl, .bool gd, .string xi], .int .i64 t1] w fun e w' =>
      e = .returned (.bool (bb f.xid.size sx.size xi.size)) ∧ Below w.heap.size w w' := by
  obtain ⟨q1, q2, X, q3⟩ := f
  dsimp only
  by_cases h1 : X.size ≤ 1048576
  · by_cases h2 : sx.size ≤ 1048576
    · by_cases h3 : X.size + sx.size ≤ 1048576
      · by_cases h4 : xi.size ≤ 1048576
        · by_cases h5 : X.size + sx.size + xi.size ≤ 1048576
          · rw [bb_true ⟨h1, h2, h3, h4, h5⟩]
            have i1 : ¬ (1048576 < (X.size : Int)) := by omega
            have i2 : ¬ (1048576 < (sx.size : Int)) := by omega
            have i3 : ¬ (1048576 < (X.size : Int) + (sx.size : Int)) := by omega
            have i4 : ¬ (1048576 < (xi.size : Int)) := by omega
            have i5 : ¬ (1048576 < (X.size : Int) + (sx.size : Int) + (xi.size : Int)) := by omega
            go_enter Try.func10, Try.ntmps10
            go_wp2
            go_ret
            exact ⟨rfl, below3 _ _ _ _⟩
          · rw [bb_false (by omega)]
            have i1 : ¬ (1048576 < (X.size : Int)) := by omega
            have i2 : ¬ (1048576 < (sx.size : Int)) := by omega
            have i3 : ¬ (1048576 < (X.size : Int) + (sx.size : Int)) := by omega
            have i4 : ¬ (1048576 < (xi.size : Int)) := by omega
            have i5 : (1048576 < (X.size : Int) + (sx.size : Int) + (xi.size : Int)) := by omega
            go_enter Try.func10, Try.ntmps10
            go_wp2
            go_ret
            exact ⟨rfl, below3 _ _ _ _⟩
        · rw [bb_false (by omega)]
          have i1 : ¬ (1048576 < (X.size : Int)) := by omega
          have i2 : ¬ (1048576 < (sx.size : Int)) := by omega
          have i3 : ¬ (1048576 < (X.size : Int) + (sx.size : Int)) := by omega
          have i4 : (1048576 < (xi.size : Int)) := by omega
          go_enter Try.func10, Try.ntmps10
          go_wp2
          go_ret
          exact ⟨rfl, below3 _ _ _ _⟩
      · rw [bb_false (by omega)]
        have i1 : ¬ (1048576 < (X.size : Int)) := by omega
        have i2 : ¬ (1048576 < (sx.size : Int)) := by omega
        have i3 : (1048576 < (X.size : Int) + (sx.size : Int)) := by omega
        go_enter Try.func10, Try.ntmps10
        go_wp2
        go_ret
        exact ⟨rfl, below3 _ _ _ _⟩
    · rw [bb_false (by omega)]
      have i1 : ¬ (1048576 < (X.size : Int)) := by omega
      have i2 : (1048576 < (sx.size : Int)) := by omega
      go_enter Try.func10, Try.ntmps10
      go_wp2
      go_ret
      exact ⟨rfl, below3 _ _ _ _⟩
  · rw [bb_false (by omega)]
    have i1 : (1048576 < (X.size : Int)) := by omega
    go_enter Try.func10, Try.ntmps10
    go_wp2
    go_ret
    exact ⟨rfl, below3 _ _ _ _⟩

end Go.Proofs.Qxb6628962a
