import Derived.Test.Qxb6628962aFloor
namespace Go.Proofs.Qxb6628962a
open Go.RowKit
set_option linter.unusedVariables false
set_option linter.unusedSimpArgs false

set_option maxHeartbeats 800000 in
set_option maxRecDepth 100000 in
theorem newFloor_any (w : World) (f : Flr) :
    Calls Try.prog 6 #[.int .i64 f.seq, .int .i64 f.cand, .string f.xid, .int .i64 f.high] w fun e w' => e = .returned (.pointer (some ⟨w.heap.size, 0, none⟩)) ∧ w' = w.alloc (.cells #[.int .i32 0, .int .u32 0, .int .i64 f.seq, .int .i64 f.cand, .string f.xid, .int .i64 f.high] 46) := by
  go_enter Try.func6, Try.ntmps6
  go_wp2
  go_ret
  exact ⟨rfl, rfl⟩

theorem FlrAt.new (w : World) (f : Flr) : FlrAt (w.alloc (.cells #[.int .i32 0, .int .u32 0, .int .i64 f.seq, .int .i64 f.cand, .string f.xid, .int .i64 f.high] 46)) w.heap.size 0 f := heap_alloc_new w _

theorem results_tmp4 {fn : Func} {t u v x : Tmp} (h : fn.results = #[.tmp t, .tmp u, .tmp v, .tmp x]) (tmps : Array Value) (P : Program) (w : World) :
    (results fn tmps).run P w = .ok (.tuple #[tmps.getD t undef, tmps.getD u undef, tmps.getD v undef, tmps.getD x undef]) w := by
  simp [results, h]

set_option maxHeartbeats 800000 in
set_option maxRecDepth 100000 in
theorem fields_any (w : World) (fb : Nat) (f : Flr) (hF : FlrAt w fb 0 f) :
    Calls Try.prog 8 #[.pointer (some ⟨fb, 0, none⟩)] w fun e w' => e = .returned (.tuple #[.int .i64 f.seq, .int .i64 f.cand, .string f.xid, .int .i64 f.high]) ∧ ∃ q, w' = w.drewN q := by
  obtain ⟨c0, c2, c3, c4, c5⟩ := hF.cells
  clear hF
  go_enter Try.func8, Try.ntmps8
  go_wp2_with fail
  go_quiet (fail)
  go_wp2
  refine bodyPost_ret (results_tmp4 rfl _ _ _) rfl ?_
  exact ⟨rfl, _, rfl⟩

set_option maxHeartbeats 800000 in
set_option maxRecDepth 100000 in
theorem max_any (w : World) (x y : Int) :
    Calls Try.prog 9 #[.int .i64 x, .int .i64 y] w fun e w' => e = .returned (.int .i64 (max x y)) ∧ w' = w := by
  by_cases h : y < x
  · rw [Int.max_eq_left (by omega)]
    go_enter Try.func9, Try.ntmps9
    go_wp2
    go_ret
    exact ⟨rfl, rfl⟩
  · rw [Int.max_eq_right (by omega)]
    go_enter Try.func9, Try.ntmps9
    go_wp2
    go_ret
    exact ⟨rfl, rfl⟩

end Go.Proofs.Qxb6628962a
