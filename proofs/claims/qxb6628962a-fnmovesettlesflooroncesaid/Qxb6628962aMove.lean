import Derived.Test.Qxb6628962aMvOne
import Derived.Test.Qxb6628962aMvNEF
import Derived.Test.Qxb6628962aMvNET
import Derived.Test.Qxb6628962aMvNNF
import Derived.Test.Qxb6628962aMvNNT
import Derived.Test.Qxb6628962aMvSEF
import Derived.Test.Qxb6628962aMvSET
import Derived.Test.Qxb6628962aMvSNF
import Derived.Test.Qxb6628962aMvSNT
namespace Go.Proofs.Qxb6628962a
open Go.RowKit Go.MuLone
set_option linter.unusedVariables false

theorem move_any (w : World) (fb : Nat) (f : Flr) (hF : FlrAt w fb 0 f) (sq sc : Int) (sx : ByteArray) (po pl : Option Addr) (st : Option Bool) (lo : Option Int) (gd : Bool) (xi : ByteArray) (t : Int) (hpo : PB w fb po st) (hpl : PI w fb pl lo)  :
    Calls Try.prog 11 #[.pointer (some ⟨fb, 0, none⟩), .agg #[.int .i64 sq, .int .i64 sc, .string sx], .agg #[.pointer po, .pointer pl, .bool gd, .string xi], .int .i64 t] w fun e w' =>
      e = .returned (.tuple #[]) ∧ FlrAt w' fb 0 (mv f sc sx st lo gd xi t) ∧ Fm fb w w' := by
  by_cases hc : 0 < sc ∧ st = some true
  · obtain ⟨hsc, rfl⟩ := hc
    by_cases hx : f.xid = sx <;> cases lo <;> cases gd
    · exact move_nef w fb f hF sq sc sx po pl xi t hpo hpl hsc hx
    · exact move_net w fb f hF sq sc sx po pl xi t hpo hpl hsc hx
    · exact move_sef w fb f hF sq sc sx po pl _ xi t hpo hpl hsc hx
    · exact move_set w fb f hF sq sc sx po pl _ xi t hpo hpl hsc hx
    · exact move_nnf w fb f hF sq sc sx po pl xi t hpo hpl hsc hx
    · exact move_nnt w fb f hF sq sc sx po pl xi t hpo hpl hsc hx
    · exact move_snf w fb f hF sq sc sx po pl _ xi t hpo hpl hsc hx
    · exact move_snt w fb f hF sq sc sx po pl _ xi t hpo hpl hsc hx
  · exact move_one w fb f hF sq sc sx po pl st lo gd xi t hpo hpl hc

end Go.Proofs.Qxb6628962a
