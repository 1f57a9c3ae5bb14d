/- The proof of 'Rows.FnAddSplitAgreesWithWholeAndModelSaid': the guide's frame, its walk out of Qxb6628283aSplit. -/
import Derived.Test.Qxb6628283aRows
import Derived.WalkKit
import Derived.ProofKit
import Derived.OpenShut
import Derived.ChangeOld
import Derived.Below
import Derived.Test.Qxb6628283aSplit
import Derived.Test.Qxb6628283aOpen
namespace Go.Proofs.Qxb6628283a.fnAddSplit
open Go.ChangeShapes Go.WideShapes Go.ChangeAt Go.RowKit
set_option linter.unusedVariables false

theorem own : ownKnob Try.prog.godebug = none := by kernel_rfl
theorem laidOut : laidOutB Try.prog = true := by kernel_rfl

theorem walk (ao : Option Addr) (n cap : Nat) (z : Int) (ps : Nat → Epr) (w : World) (hm : n ≤ maxLen) (hE : EpsAt w ao n ps) (hnil : 0 < cap → ao ≠ none) (hnc : n ≤ cap) :
    Calls Try.prog 3 #[.slice ao n cap, .int .i64 z] w fun e w' => e = .returned (.bool true) ∧ Below w.heap.size w w' := by
  by_cases hn : n ≤ 4096
  · by_cases hz : z < 0 ∨ (n : Int) < z
    · exact split_off w ao n cap z hn hz
    · obtain ⟨k, rfl⟩ := Int.eq_ofNat_of_zero_le (show 0 ≤ z by omega)
      exact split_in w ao n cap k ps hn (by omega) hE hnil hnc
  · exact split_out w ao n cap z hm hn

set_option maxRecDepth 100000 in
theorem lifted (os : Os) (started : os.Started) (H : Type) (enc : TypeId × Value → H) :
    ReturnsInHanded {} Try.checked os 3 .any (Rows.fnAddSplitAgreesWithWholeAndModelSpec.pre6 enc Try.prog Try.f3 Rows.fnAddSplitAgreesWithWholeAndModelRow.domain false) (Rows.fnAddSplitAgreesWithWholeAndModelSpec.post enc Try.prog Try.f3 false true false false) := by
  refine returnsInHanded_of_change (C := Try.checked) own started (by kernel_rfl) Try.func3
    (ChangeSpec.witness6 (enc := enc) (C := Try.checked) false ⟨#[], #[.slice none 0 0, .int .i64 0], []⟩ 8 (by kernel_rfl) (by kernel_rfl) (by kernel_rfl) (by kernel_rfl)) ?_
  intro W base args ds gs before hval0 hW hcnd _
  have hval : ∀ (j : Nat) t v, Try.f3.params[j]? = some t → args[j]? = some v → Value.okWide Try.prog W .any base t v := hval0
  have hW' := hW
  obtain ⟨p, q, hA0, hV, rfl, hfz, hnd⟩ := hW
  have hA : DataW.TrodAll enc Try.prog W 0 (fun _ => true) true Try.f3.params.toList args.toList ds p := hA0
  rw [Try.params3] at hA hval
  obtain ⟨v0, vs0, d0, ds0, p0, q0, hargs, rfl, rfl, h0, r0⟩ := trodAll_cons hA
  obtain ⟨v1, vs1, d1, ds1, p1, q1, rfl, rfl, rfl, h1, r1⟩ := trodAll_cons r0
  obtain ⟨rfl, rfl, rfl⟩ := trodAll_nil r1
  obtain rfl : args = #[v0, v1] := by cases args; simp_all
  obtain ⟨rfl, rfl⟩ := trodVars_none hV
  obtain ⟨a0, len0, cap0, rfl⟩ := okWide_slice Try.underlying22 (hval 0 22 v0 rfl rfl)
  have k0 := h0
  have lt0 : ∀ x ∈ p0, x.block < W.heap.size := by obtain ⟨m, hm⟩ := k0; exact DataW.trod_lt m _ _ _ hm
  obtain ⟨ps, hm0, w0, hnil, hnc⟩ : ∃ ps, len0 ≤ maxLen ∧ EpsAt W a0 len0 ps ∧ (0 < cap0 → a0 ≠ none) ∧ len0 ≤ cap0 := by
    obtain ⟨fuel, hf⟩ := h0
    obtain ⟨ao, len, cap, ps, hcs, hm, he, h3, h4, _⟩ := open_eps hf
    simp [Value.cells] at hcs
    obtain ⟨rfl, rfl, rfl⟩ := hcs
    exact ⟨ps, hm, he, h3, h4⟩
  obtain ⟨z, rfl, rfl, rfl, w1⟩ := open_int Try.underlying3 (hval 1 3 v1 rfl rfl) h1
  clear hA0 hval0
  refine (walk a0 len0 cap0 z ps W hm0 w0 hnil hnc).mono fun e W' ⟨he, bel⟩ => ?_
  subst he
  exact ⟨_, rfl, _, _, _, [], _, [], hW', trodAll_mk1 (shut_bool Try.underlying4 _), (trodAll_cons_mk (Below.trod laidOut (by kernel_rfl) (of_decide_eq_true (by kernel_rfl)) k0 bel lt0) (trodAll_cons_mk (shut_int Try.underlying3 w1) trodAll_mk0)), rfl, bel.frame _, fun h => by cases h⟩

theorem over : Rows.fnAddSplitAgreesWithWholeAndModelRow.holds Try.pinned (OpenSpec.ofChange Rows.fnAddSplitAgreesWithWholeAndModelSpec) :=
  OpenClaim.holds_of_wide 3 Try.f3 rfl rfl rfl rfl rfl rfl rfl ⟨rfl, rfl, rfl, rfl, rfl⟩ rfl rfl rfl rfl rfl (by kernel_rfl) Try.func3 (by kernel_rfl)
    (of_decide_eq_true (by kernel_rfl)) (by unfold Func.isWrapper; first | (rw [if_pos (by decide +kernel)]; kernel_rfl) | (rw [if_neg (by decide +kernel)]; exact ⟨rfl, rfl⟩))
    (fun os started H enc _ => lifted os started H enc)
end Go.Proofs.Qxb6628283a.fnAddSplit

namespace Go.Proofs.Qxb6628283a
theorem fnAddSplit_holds : Rows.FnAddSplitAgreesWithWholeAndModelSaid := fnAddSplit.over
end Go.Proofs.Qxb6628283a
