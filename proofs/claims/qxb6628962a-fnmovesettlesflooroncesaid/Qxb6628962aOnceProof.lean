/- The proof of 'Rows.FnMoveSettlesFloorOnceSaid': the guide's frame, its walk out of Qxb6628962aOnce. -/
import Derived.Test.Qxb6628962aRows
import Derived.WalkKit
import Derived.ProofKit
import Derived.OpenShut
import Derived.ChangeOld
import Derived.Below
import Derived.Test.Qxb6628962aOnce
import Derived.Test.Qxb6628962aOpen
namespace Go.Proofs.Qxb6628962a.fnMoveOnce
open Go.ChangeShapes Go.WideShapes Go.ChangeAt Go.RowKit
set_option linter.unusedVariables false

theorem own : ownKnob Try.prog.godebug = none := by kernel_rfl
theorem laidOut : laidOutB Try.prog = true := by kernel_rfl

theorem walk (w : World) (f : Flr) (sq sc : Int) (sx : ByteArray) (po pl : Option Addr) (st : Option Bool) (lo : Option Int) (gd : Bool) (xi : ByteArray) (t1 : Int) (hm1 : f.xid.size ≤ maxLen) (hm2 : sx.size ≤ maxLen) (hm3 : xi.size ≤ maxLen) (hpo : PB0 w po st) (hpl : PI0 w pl lo) :
    Calls Try.prog 4 #[.agg #[.int .i64 f.seq, .int .i64 f.cand, .string f.xid, .int .i64 f.high], .agg #[.int .i64 sq, .int .i64 sc, .string sx], .agg #[.pointer po, .pointer pl, .bool gd, .string xi], .int .i64 t1] w fun e w' =>
      e = .returned (.bool true) ∧ Below w.heap.size w w' := by
  by_cases h : f.xid.size ≤ 65536 ∧ sx.size ≤ 65536 ∧ xi.size ≤ 65536
  · exact once_in w f sq sc sx po pl st lo gd xi t1 h.1 h.2.1 h.2.2 hpo hpl
  · exact once_out w f sq sc sx po pl gd xi t1 hm1 hm2 hm3 h

set_option maxRecDepth 100000 in
theorem lifted (os : Os) (started : os.Started) (H : Type) (enc : TypeId × Value → H) :
    ReturnsInHanded {} Try.checked os 4 .any (Rows.fnMoveSettlesFloorOnceSpec.pre6 enc Try.prog Try.f4 Rows.fnMoveSettlesFloorOnceRow.domain false) (Rows.fnMoveSettlesFloorOnceSpec.post enc Try.prog Try.f4 false true false false) := by
  refine returnsInHanded_of_change (C := Try.checked) own started (by kernel_rfl) Try.func4
    (ChangeSpec.witness6 (enc := enc) (C := Try.checked) false ⟨#[], #[.agg #[.int .i64 0, .int .i64 0, .string ByteArray.empty, .int .i64 0], .agg #[.int .i64 0, .int .i64 0, .string ByteArray.empty], .agg #[.pointer none, .pointer none, .bool false, .string ByteArray.empty], .int .i64 0], []⟩ 8 (by kernel_rfl) (by kernel_rfl) (by kernel_rfl) (by kernel_rfl)) ?_
  intro W base args ds gs before hval0 hW hcnd _
  have hval : ∀ (j : Nat) t v, Try.f4.params[j]? = some t → args[j]? = some v → Value.okWide Try.prog W .any base t v := hval0
  have hW' := hW
  obtain ⟨p, q, hA0, hV, rfl, hfz, hnd⟩ := hW
  have hA : DataW.TrodAll enc Try.prog W 0 (fun _ => true) true Try.f4.params.toList args.toList ds p := hA0
  rw [Try.params4] at hA hval
  obtain ⟨v0, vs0, d0, ds0, p0, q0, hargs, rfl, rfl, h0, r0⟩ := trodAll_cons hA
  obtain ⟨v1, vs1, d1, ds1, p1, q1, rfl, rfl, rfl, h1, r1⟩ := trodAll_cons r0
  obtain ⟨v2, vs2, d2, ds2, p2, q2, rfl, rfl, rfl, h2, r2⟩ := trodAll_cons r1
  obtain ⟨v3, vs3, d3, ds3, p3, q3, rfl, rfl, rfl, h3, r3⟩ := trodAll_cons r2
  obtain ⟨rfl, rfl, rfl⟩ := trodAll_nil r3
  obtain rfl : args = #[v0, v1, v2, v3] := by cases args; simp_all
  obtain ⟨rfl, rfl⟩ := trodVars_none hV
  have k0 := h0
  have k1 := h1
  have k2 := h2
  have lt0 : ∀ x ∈ p0, x.block < W.heap.size := by obtain ⟨m, hm⟩ := k0; exact DataW.trod_lt m _ _ _ hm
  have lt1 : ∀ x ∈ p1, x.block < W.heap.size := by obtain ⟨m, hm⟩ := k1; exact DataW.trod_lt m _ _ _ hm
  have lt2 : ∀ x ∈ p2, x.block < W.heap.size := by obtain ⟨m, hm⟩ := k2; exact DataW.trod_lt m _ _ _ hm
  obtain ⟨f, rfl, hm1⟩ := open_floor (hval 0 23 v0 rfl rfl) h0
  obtain ⟨sq, sc, sx, rfl, hm2⟩ := open_look (hval 1 25 v1 rfl rfl) h1
  obtain ⟨po, pl, gd, xi, st, lo, rfl, hm3, hpo, hpl⟩ := open_found (hval 2 29 v2 rfl rfl) h2
  obtain ⟨t1, rfl, rfl, rfl, w3⟩ := open_int Try.underlying2 (hval 3 2 v3 rfl rfl) h3
  clear hA0 hval0
  refine (walk W f sq sc sx po pl st lo gd xi t1 hm1 hm2 hm3 hpo hpl).mono fun e W' ⟨he, bel⟩ => ?_
  subst he
  exact ⟨_, rfl, _, _, _, [], _, [], hW', trodAll_mk1 (shut_bool Try.underlying4 _),
    (trodAll_cons_mk (Below.trod laidOut (by kernel_rfl) (of_decide_eq_true (by kernel_rfl)) k0 bel lt0) (trodAll_cons_mk (Below.trod laidOut (by kernel_rfl) (of_decide_eq_true (by kernel_rfl)) k1 bel lt1) (trodAll_cons_mk (Below.trod laidOut (by kernel_rfl) (of_decide_eq_true (by kernel_rfl)) k2 bel lt2) (trodAll_cons_mk (shut_int Try.underlying2 w3) trodAll_mk0)))), rfl, bel.frame _, fun h => by cases h⟩

theorem over : Rows.fnMoveSettlesFloorOnceRow.holds Try.pinned (OpenSpec.ofChange Rows.fnMoveSettlesFloorOnceSpec) :=
  OpenClaim.holds_of_wide 4 Try.f4 rfl rfl rfl rfl rfl rfl rfl ⟨rfl, rfl, rfl, rfl, rfl⟩ rfl rfl rfl rfl rfl (by kernel_rfl) Try.func4 (by kernel_rfl)
    (of_decide_eq_true (by kernel_rfl)) (by unfold Func.isWrapper; first | (rw [if_pos (by decide +kernel)]; kernel_rfl) | (rw [if_neg (by decide +kernel)]; exact ⟨rfl, rfl⟩))
    (fun os started H enc _ => lifted os started H enc)
end Go.Proofs.Qxb6628962a.fnMoveOnce

namespace Go.Proofs.Qxb6628962a
theorem fnMoveOnce_holds : Rows.FnMoveSettlesFloorOnceSaid := fnMoveOnce.over
end Go.Proofs.Qxb6628962a
