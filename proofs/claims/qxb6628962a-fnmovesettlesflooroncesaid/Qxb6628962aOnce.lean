import Derived.Test.Qxb6628962aOnceP
import Derived.Test.Qxb6628962aOnceN
import Derived.Test.Qxb6628962aOnceF
import Derived.Test.Qxb6628962aOnceTN
import Derived.Test.Qxb6628962aOnceTL
import Derived.Test.Qxb6628962aOnceTG
import Derived.Test.Qxb6628962aOnceZ
import Derived.Test.Qxb6628962aOnceZT
namespace Go.Proofs.Qxb6628962a
open Go.RowKit
set_option linter.unusedVariables false

/-- FnMoveSettlesFloorOnce within its bounds: the leaves joined. -/
theorem once_in (w : World) (f : Flr) (sq sc : Int) (sx : ByteArray) (po pl : Option Addr) (st : Option Bool) (lo : Option Int) (gd : Bool) (xi : ByteArray) (t : Int) (k1 : f.xid.size ≤ 65536) (k2 : sx.size ≤ 65536) (k3 : xi.size ≤ 65536) (hpo : PB0 w po st) (hpl : PI0 w pl lo) :
    Calls Try.prog 4 #[.agg #[.int .i64 f.seq, .int .i64 f.cand, .string f.xid, .int .i64 f.high], .agg #[.int .i64 sq, .int .i64 sc, .string sx], .agg #[.pointer po, .pointer pl, .bool gd, .string xi], .int .i64 t] w fun e w' =>
      e = .returned (.bool true) ∧ Below w.heap.size w w' := by
  by_cases hc : f.cand = 0
  · obtain ⟨fs, fc, fx, fh⟩ := f
    obtain rfl : fc = 0 := hc
    by_cases hsc : 0 < sc
    · rcases hpo with ⟨rfl, rfl⟩ | ⟨pa, b, rfl, rfl, hpc⟩
      · exact once_n0 w fs fh fx sq sc sx pl lo gd xi t k1 k2 k3 hsc hpl
      · cases b with
        | false => exact once_f0 w fs fh fx sq sc sx pa pl lo gd xi t k1 k2 k3 hpc hsc hpl
        | true =>
          rcases hpl with ⟨rfl, rfl⟩ | ⟨qa, ql, rfl, rfl, hqc⟩
          · exact once_tn0 w fs fh fx sq sc sx pa gd xi t k1 k2 k3 hpc hsc
          · by_cases hql : ql < sc
            · exact once_tl0 w fs fh fx sq sc sx pa qa ql gd xi t k1 k2 k3 hpc hsc hqc hql
            · exact once_tg0 w fs fh fx sq sc sx pa qa ql gd xi t k1 k2 k3 hpc hsc hqc hql
    · exact once_p0 w fs fh fx sq sc sx po st pl lo gd xi t k1 k2 k3 hpo hsc hpl
  · by_cases hsc : 0 < sc
    · rcases hpo with ⟨rfl, rfl⟩ | ⟨pa, b, rfl, rfl, hpc⟩
      · exact once_nk w f sq sc sx pl lo gd xi t k1 k2 k3 hsc hpl hc
      · cases b with
        | false => exact once_fk w f sq sc sx pa pl lo gd xi t k1 k2 k3 hpc hsc hpl hc
        | true =>
          by_cases hx : f.xid = sx
          · rcases hpl with ⟨rfl, rfl⟩ | ⟨qa, ql, rfl, rfl, hqc⟩
            · exact once_tne w f sq sc sx pa gd xi t k1 k2 k3 hpc hsc hc hx
            · by_cases hql : ql < sc
              · exact once_tle w f sq sc sx pa qa ql gd xi t k1 k2 k3 hpc hsc hqc hql hc hx
              · exact once_tge w f sq sc sx pa qa ql gd xi t k1 k2 k3 hpc hsc hqc hql hc hx
          · rcases hpl with ⟨rfl, rfl⟩ | ⟨qa, ql, rfl, rfl, hqc⟩
            · exact once_tnk w f sq sc sx pa gd xi t k1 k2 k3 hpc hsc hc hx
            · by_cases hql : ql < sc
              · exact once_tlk w f sq sc sx pa qa ql gd xi t k1 k2 k3 hpc hsc hqc hql hc hx
              · exact once_tgk w f sq sc sx pa qa ql gd xi t k1 k2 k3 hpc hsc hqc hql hc hx
    · exact once_pk w f sq sc sx po st pl lo gd xi t k1 k2 k3 hpo hsc hpl hc

end Go.Proofs.Qxb6628962a
