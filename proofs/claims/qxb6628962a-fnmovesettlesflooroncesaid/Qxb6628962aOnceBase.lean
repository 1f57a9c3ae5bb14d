import Derived.Test.Qxb6628962aZmove
import Derived.Test.Qxb6628962aOncePlain
namespace Go.Proofs.Qxb6628962a
open Go.RowKit Go.MuLone
set_option linter.unusedVariables false
set_option linter.unusedSimpArgs false

set_option maxHeartbeats 800000 in
/-- zzMaxI64, its answer under a name. -/
theorem max_is (w : World) (x y z : Int) (h : max x y = z) :
    Calls Try.prog 9 #[.int .i64 x, .int .i64 y] w fun e w' => e = .returned (.int .i64 z) ∧ w = w' := by
  refine (max_any w x y).mono ?_
  rintro e w' ⟨he, hw⟩
  exact ⟨by rw [he, h], hw.symm⟩

set_option maxHeartbeats 3200000 in
set_option maxRecDepth 100000 in
theorem once_out (w : World) (f : Flr) (sq sc : Int) (sx : ByteArray) (po pl : Option Addr) (gd : Bool) (xi : ByteArray) (t : Int) (hm1 : f.xid.size ≤ maxLen) (hm2 : sx.size ≤ maxLen) (hm3 : xi.size ≤ maxLen) (ho : ¬ (f.xid.size ≤ 65536 ∧ sx.size ≤ 65536 ∧ xi.size ≤ 65536)) :
    Calls Try.prog 4 #[.agg #[.int .i64 f.seq, .int .i64 f.cand, .string f.xid, .int .i64 f.high], .agg #[.int .i64 sq, .int .i64 sc, .string sx], .agg #[.pointer po, .pointer pl, .bool gd, .string xi], .int .i64 t] w fun e w' =>
      e = .returned (.bool true) ∧ Below w.heap.size w w' := by
  have B0 := box3 w f sq sc sx po pl gd xi
  have e0 := below3 w (.cells #[.int .i64 f.seq, .int .i64 f.cand, .string f.xid, .int .i64 f.high] 23) (.cells #[.int .i64 sq, .int .i64 sc, .string sx] 25) (.cells #[.pointer po, .pointer pl, .bool gd, .string xi] 29)
  have es : w.heap.size + 3 ≤ (((w.alloc (.cells #[.int .i64 f.seq, .int .i64 f.cand, .string f.xid, .int .i64 f.high] 23)).alloc (.cells #[.int .i64 sq, .int .i64 sc, .string sx] 25)).alloc (.cells #[.pointer po, .pointer pl, .bool gd, .string xi] 29)).heap.size := by simp
  have HB0 : Hid _ := B0
  have HE0 : Hid _ := e0
  have HES : Hid _ := es
  clear B0 e0 es
  go_enter Try.func4, Try.ntmps4
  go_wp2_with fail
  refine (bytes4 _ f sq sc sx po pl gd xi t).mono ?_
  rintro e w1 ⟨he, hb1⟩
  have hbel : Below w.heap.size w w1 := HE0.out.trans (hb1.mono (HE0.out.size))
  obtain ⟨a0, a1, a2, a3, s0, s1, s2, d0, d1, d2, d3⟩ := Box3.below HB0.out hb1 HES.out
  clear HB0 HE0 HES hb1
  cases hbb : bb f.xid.size sx.size xi.size with
  | false =>
    rw [hbb] at he
    subst he
    go_wp2_with fail
    go_ret
    exact ⟨rfl, hbel⟩
  | true =>
    rw [hbb] at he
    subst he
    by_cases h1 : (65536 : Int) < (f.xid.size : Int)
    · go_wp2_with fail
      go_ret
      exact ⟨rfl, hbel⟩
    · by_cases h2 : (65536 : Int) < (sx.size : Int)
      · go_wp2_with fail
        go_ret
        exact ⟨rfl, hbel⟩
      · have h3 : (65536 : Int) < (xi.size : Int) := by omega
        go_wp2_with fail
        go_ret
        exact ⟨rfl, hbel⟩

end Go.Proofs.Qxb6628962a
