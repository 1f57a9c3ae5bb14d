/-
  No cell of these rows narrows 'for every input' (looked for: loops, veiled, ifaces, maps, wideKeys, modest, calm, conditions, laid).
  DERIVED. THE GIVEN ROWS OF THIS SEAT. 2 by the template 'for every input the law returns true; each argument reads behind the call as it read before'; 0 by the template 'total and deterministic' (their statements: Qxb6628283aTotals.lean).
  GIVEN WITH THE SEED: the statements are not yours to turn. If you find one false, say at which input.
  Laid BY PROGRAM, IN A SANDBOX (cutbox-rows.mjs): the forced cells as the released guide's own fill.sh prints them over the translation ed8bb4db039d7df2… (all of the seat's roots in one cut). By AI agents, Wed Nov 11 2026. No macro, syntax, notation, axiom, sorry.
-/
import Derived.Test.Qxb6628283aChecked
import GoSem.Claim
import GoSem.ClaimJoined
import GoSem.ClaimMapViews
import Derived.JoinedTies
import Derived.KernelRfl
namespace Go.Proofs.Qxb6628283a
/- THE CELL 'sum', in the pinned program and in every row, IS THE sha256 OF THE DUMP (.gsa) THAT Qxb6628283aProg.lean LOADS. Nothing in Lean hashes anything: it is a label: what it is worth is what the hold of that sum in a sandbox is worth. -/
noncomputable def Try.pinned : Pinned := { name := "qxb6628283a", sum := "ed8bb4db039d7df222cf7706ef40aaad58afffec5c43efbc082969486a2d8dad", checked := Try.checked }
namespace Rows
def none {H : Type} : Left H := { results := [], args := [] }

/-- 'zzlaws_pkg_model_b1.FnAddSplitAgreesWithWholeAndModel': WHATEVER THE INPUT: true; the input reads as it did. -/
def fnAddSplitAgreesWithWholeAndModelSpec : ChangeSpec := { name := "fnAddSplitAgreesWithWholeAndModel", fn := fun _ => fun
  | [d1, d2] => { results := [.lit (.bool true)], args := [d1, d2] }
  | _ => none }
def fnAddSplitAgreesWithWholeAndModelRow : OpenClaim := { program := "qxb6628283a", sum := "ed8bb4db039d7df222cf7706ef40aaad58afffec5c43efbc082969486a2d8dad", func := "example.com/happenstance/happenstance/zzlaws_pkg_model_b1.FnAddSplitAgreesWithWholeAndModel", spec := "fnAddSplitAgreesWithWholeAndModel", inPlace := ["slices.overlaps[int]"], apart := false }
def FnAddSplitAgreesWithWholeAndModelSaid : Prop := fnAddSplitAgreesWithWholeAndModelRow.holds Try.pinned (OpenSpec.ofChange fnAddSplitAgreesWithWholeAndModelSpec)

/-- ITS FALSE NEIGHBOUR: 'it returns false'. Refute it at one input. -/
def fnAddSplitAgreesWithWholeAndModelWrong : ChangeSpec := { name := "fnAddSplitAgreesWithWholeAndModel", fn := fun _ => fun
  | [d1, d2] => { results := [.lit (.bool false)], args := [d1, d2] }
  | _ => none }
def FnAddSplitAgreesWithWholeAndModelWrongFalsely : Prop := fnAddSplitAgreesWithWholeAndModelRow.holds Try.pinned (OpenSpec.ofChange fnAddSplitAgreesWithWholeAndModelWrong)

/-- 'zzlaws_pkg_model_b1.FnAddTwiceDoublesCountsMovesNothing': WHATEVER THE INPUT: true; the input reads as it did. -/
def fnAddTwiceDoublesCountsMovesNothingSpec : ChangeSpec := { name := "fnAddTwiceDoublesCountsMovesNothing", fn := fun _ => fun
  | [d] => { results := [.lit (.bool true)], args := [d] }
  | _ => none }
def fnAddTwiceDoublesCountsMovesNothingRow : OpenClaim := { program := "qxb6628283a", sum := "ed8bb4db039d7df222cf7706ef40aaad58afffec5c43efbc082969486a2d8dad", func := "example.com/happenstance/happenstance/zzlaws_pkg_model_b1.FnAddTwiceDoublesCountsMovesNothing", spec := "fnAddTwiceDoublesCountsMovesNothing", inPlace := ["slices.overlaps[int]"], apart := false }
def FnAddTwiceDoublesCountsMovesNothingSaid : Prop := fnAddTwiceDoublesCountsMovesNothingRow.holds Try.pinned (OpenSpec.ofChange fnAddTwiceDoublesCountsMovesNothingSpec)

/-- ITS FALSE NEIGHBOUR: 'it returns false'. Refute it at one input. -/
def fnAddTwiceDoublesCountsMovesNothingWrong : ChangeSpec := { name := "fnAddTwiceDoublesCountsMovesNothing", fn := fun _ => fun
  | [d] => { results := [.lit (.bool false)], args := [d] }
  | _ => none }
def FnAddTwiceDoublesCountsMovesNothingWrongFalsely : Prop := fnAddTwiceDoublesCountsMovesNothingRow.holds Try.pinned (OpenSpec.ofChange fnAddTwiceDoublesCountsMovesNothingWrong)

end Rows
end Go.Proofs.Qxb6628283a
