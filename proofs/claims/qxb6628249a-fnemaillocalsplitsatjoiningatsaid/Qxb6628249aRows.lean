/-
  No cell of these rows narrows 'for every input' (looked for: loops, veiled, ifaces, maps, wideKeys, modest, calm, conditions, laid).
  DERIVED. THE GIVEN ROWS OF THIS SEAT. 2 by the template 'for every input the law returns true; each argument reads behind the call as it read before'; 0 by the template 'total and deterministic' (their statements: Qxb6628249aTotals.lean).
  GIVEN WITH THE SEED: the statements are not yours to turn. If you find one false, say at which input.
  Laid BY PROGRAM, IN A SANDBOX (cutbox-rows.mjs): the forced cells as the released guide's own fill.sh prints them over the translation b4a1f043728b137f… (all of the seat's roots in one cut). By AI agents, Wed Nov 11 2026. No macro, syntax, notation, axiom, sorry.
-/
import Derived.Test.Qxb6628249aChecked
import GoSem.Claim
import GoSem.ClaimJoined
import GoSem.ClaimMapViews
import Derived.JoinedTies
import Derived.KernelRfl
namespace Go.Proofs.Qxb6628249a
/- THE CELL 'sum', in the pinned program and in every row, IS THE sha256 OF THE DUMP (.gsa) THAT Qxb6628249aProg.lean LOADS. Nothing in Lean hashes anything: it is a label: what it is worth is what the hold of that sum in a sandbox is worth. -/
noncomputable def Try.pinned : Pinned := { name := "qxb6628249a", sum := "b4a1f043728b137f872e834c1e955cf30ee60fe2ffb59afa90916ab03ad99323", checked := Try.checked }
namespace Rows
def none {H : Type} : Left H := { results := [], args := [] }

/-- 'zzlaws_internal_template_b1.FnEmailLocalSplitsAtJoiningAt': WHATEVER THE INPUT: true; the input reads as it did. -/
def fnEmailLocalSplitsAtJoiningAtSpec : ChangeSpec := { name := "fnEmailLocalSplitsAtJoiningAt", fn := fun _ => fun
  | [d1, d2] => { results := [.lit (.bool true)], args := [d1, d2] }
  | _ => none }
def fnEmailLocalSplitsAtJoiningAtRow : OpenClaim := { program := "qxb6628249a", sum := "b4a1f043728b137f872e834c1e955cf30ee60fe2ffb59afa90916ab03ad99323", func := "example.com/otaniemi/otaniemi/zzlaws_internal_template_b1.FnEmailLocalSplitsAtJoiningAt", spec := "fnEmailLocalSplitsAtJoiningAt", apart := false }
def FnEmailLocalSplitsAtJoiningAtSaid : Prop := fnEmailLocalSplitsAtJoiningAtRow.holds Try.pinned (OpenSpec.ofChange fnEmailLocalSplitsAtJoiningAtSpec)

/-- ITS FALSE NEIGHBOUR: 'it returns false'. Refute it at one input. -/
def fnEmailLocalSplitsAtJoiningAtWrong : ChangeSpec := { name := "fnEmailLocalSplitsAtJoiningAt", fn := fun _ => fun
  | [d1, d2] => { results := [.lit (.bool false)], args := [d1, d2] }
  | _ => none }
def FnEmailLocalSplitsAtJoiningAtWrongFalsely : Prop := fnEmailLocalSplitsAtJoiningAtRow.holds Try.pinned (OpenSpec.ofChange fnEmailLocalSplitsAtJoiningAtWrong)

/-- 'zzlaws_internal_template_b1.FnEmailLocalOverConcatenation': WHATEVER THE INPUT: true; the input reads as it did. -/
def fnEmailLocalOverConcatenationSpec : ChangeSpec := { name := "fnEmailLocalOverConcatenation", fn := fun _ => fun
  | [d1, d2] => { results := [.lit (.bool true)], args := [d1, d2] }
  | _ => none }
def fnEmailLocalOverConcatenationRow : OpenClaim := { program := "qxb6628249a", sum := "b4a1f043728b137f872e834c1e955cf30ee60fe2ffb59afa90916ab03ad99323", func := "example.com/otaniemi/otaniemi/zzlaws_internal_template_b1.FnEmailLocalOverConcatenation", spec := "fnEmailLocalOverConcatenation", apart := false }
def FnEmailLocalOverConcatenationSaid : Prop := fnEmailLocalOverConcatenationRow.holds Try.pinned (OpenSpec.ofChange fnEmailLocalOverConcatenationSpec)

/-- ITS FALSE NEIGHBOUR: 'it returns false'. Refute it at one input. -/
def fnEmailLocalOverConcatenationWrong : ChangeSpec := { name := "fnEmailLocalOverConcatenation", fn := fun _ => fun
  | [d1, d2] => { results := [.lit (.bool false)], args := [d1, d2] }
  | _ => none }
def FnEmailLocalOverConcatenationWrongFalsely : Prop := fnEmailLocalOverConcatenationRow.holds Try.pinned (OpenSpec.ofChange fnEmailLocalOverConcatenationWrong)

end Rows
end Go.Proofs.Qxb6628249a
