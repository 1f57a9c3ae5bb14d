/-
  No cell of these rows narrows 'for every input' (looked for: loops, veiled, ifaces, maps, wideKeys, modest, calm, conditions, laid).
  DERIVED. THE GIVEN ROWS OF THIS SEAT. 2 by the template 'for every input the law returns true; each argument reads behind the call as it read before'; 0 by the template 'total and deterministic' (their statements: Qxb6628204aTotals.lean).
  GIVEN WITH THE SEED: the statements are not yours to turn. If you find one false, say at which input.
  Laid BY PROGRAM, IN A SANDBOX (cutbox-rows.mjs): the forced cells as the released guide's own fill.sh prints them over the translation 1e9db23b591d2dc7… (all of the seat's roots in one cut). By AI agents, Wed Nov 11 2026. No macro, syntax, notation, axiom, sorry.
-/
import Derived.Test.Qxb6628204aChecked
import GoSem.Claim
import GoSem.ClaimJoined
import GoSem.ClaimMapViews
import Derived.JoinedTies
import Derived.KernelRfl
namespace Go.Proofs.Qxb6628204a
/- THE CELL 'sum', in the pinned program and in every row, IS THE sha256 OF THE DUMP (.gsa) THAT Qxb6628204aProg.lean LOADS. Nothing in Lean hashes anything: it is a label: what it is worth is what the hold of that sum in a sandbox is worth. -/
noncomputable def Try.pinned : Pinned := { name := "qxb6628204a", sum := "1e9db23b591d2dc7e6000a042b2010df37a63b4a1d56cba52401a5dea9143e99", checked := Try.checked }
namespace Rows
def none {H : Type} : Left H := { results := [], args := [] }

/-- 'zzlaws_internal_metrics_b1.FnFamilyAppendsOneReadableHelpAndTypeBlock': WHATEVER THE INPUT: true; the input reads as it did. -/
def fnFamilyAppendsOneReadableHelpAndTypeBlockSpec : ChangeSpec := { name := "fnFamilyAppendsOneReadableHelpAndTypeBlock", fn := fun _ => fun
  | [d1, d2, d3, d4, d5] => { results := [.lit (.bool true)], args := [d1, d2, d3, d4, d5] }
  | _ => none }
def fnFamilyAppendsOneReadableHelpAndTypeBlockRow : OpenClaim := { program := "qxb6628204a", sum := "1e9db23b591d2dc7e6000a042b2010df37a63b4a1d56cba52401a5dea9143e99", func := "example.com/waypost/waypost/zzlaws_internal_metrics_b1.FnFamilyAppendsOneReadableHelpAndTypeBlock", spec := "fnFamilyAppendsOneReadableHelpAndTypeBlock", apart := false }
def FnFamilyAppendsOneReadableHelpAndTypeBlockSaid : Prop := fnFamilyAppendsOneReadableHelpAndTypeBlockRow.holds Try.pinned (OpenSpec.ofChange fnFamilyAppendsOneReadableHelpAndTypeBlockSpec)

/-- ITS FALSE NEIGHBOUR: 'it returns false'. Refute it at one input. -/
def fnFamilyAppendsOneReadableHelpAndTypeBlockWrong : ChangeSpec := { name := "fnFamilyAppendsOneReadableHelpAndTypeBlock", fn := fun _ => fun
  | [d1, d2, d3, d4, d5] => { results := [.lit (.bool false)], args := [d1, d2, d3, d4, d5] }
  | _ => none }
def FnFamilyAppendsOneReadableHelpAndTypeBlockWrongFalsely : Prop := fnFamilyAppendsOneReadableHelpAndTypeBlockRow.holds Try.pinned (OpenSpec.ofChange fnFamilyAppendsOneReadableHelpAndTypeBlockWrong)

/-- 'zzlaws_internal_metrics_b1.FnFamilyTwiceKeepsBothBlocksInOrderAndTheLastName': WHATEVER THE INPUT: true; the input reads as it did. -/
def fnFamilyTwiceKeepsBothBlocksInOrderAndTheLastNameSpec : ChangeSpec := { name := "fnFamilyTwiceKeepsBothBlocksInOrderAndTheLastName", fn := fun _ => fun
  | [d1, d2, d3, d4, d5, d6, d7, d8] => { results := [.lit (.bool true)], args := [d1, d2, d3, d4, d5, d6, d7, d8] }
  | _ => none }
def fnFamilyTwiceKeepsBothBlocksInOrderAndTheLastNameRow : OpenClaim := { program := "qxb6628204a", sum := "1e9db23b591d2dc7e6000a042b2010df37a63b4a1d56cba52401a5dea9143e99", func := "example.com/waypost/waypost/zzlaws_internal_metrics_b1.FnFamilyTwiceKeepsBothBlocksInOrderAndTheLastName", spec := "fnFamilyTwiceKeepsBothBlocksInOrderAndTheLastName", apart := false }
def FnFamilyTwiceKeepsBothBlocksInOrderAndTheLastNameSaid : Prop := fnFamilyTwiceKeepsBothBlocksInOrderAndTheLastNameRow.holds Try.pinned (OpenSpec.ofChange fnFamilyTwiceKeepsBothBlocksInOrderAndTheLastNameSpec)

/-- ITS FALSE NEIGHBOUR: 'it returns false'. Refute it at one input. -/
def fnFamilyTwiceKeepsBothBlocksInOrderAndTheLastNameWrong : ChangeSpec := { name := "fnFamilyTwiceKeepsBothBlocksInOrderAndTheLastName", fn := fun _ => fun
  | [d1, d2, d3, d4, d5, d6, d7, d8] => { results := [.lit (.bool false)], args := [d1, d2, d3, d4, d5, d6, d7, d8] }
  | _ => none }
def FnFamilyTwiceKeepsBothBlocksInOrderAndTheLastNameWrongFalsely : Prop := fnFamilyTwiceKeepsBothBlocksInOrderAndTheLastNameRow.holds Try.pinned (OpenSpec.ofChange fnFamilyTwiceKeepsBothBlocksInOrderAndTheLastNameWrong)

end Rows
end Go.Proofs.Qxb6628204a
