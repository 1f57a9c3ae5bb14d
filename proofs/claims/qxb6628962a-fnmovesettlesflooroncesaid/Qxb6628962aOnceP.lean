import Derived.Test.Qxb6628962aOnceBase
namespace Go.Proofs.Qxb6628962a
open Go.RowKit Go.MuLone
set_option linter.unusedVariables false
set_option linter.unusedSimpArgs false

set_option maxHeartbeats 6400000 in
set_option maxRecDepth 100000 in
theorem once_pk (w : World) (f : Flr) (sq sc : Int) (sx : ByteArray) (po : Option Addr) (st : Option Bool) (pl : Option Addr) (lo : Option Int) (gd : Bool) (xi : ByteArray) (t : Int) (k1 : f.xid.size ≤ 65536) (k2 : sx.size ≤ 65536) (k3 : xi.size ≤ 65536) (hpo : PB0 w po st) (hsc : ¬ 0 < sc) (hpl : PI0 w pl lo) (hc : ¬ f.cand = 0) :
    Calls Try.prog 4 #[.agg #[.int .i64 f.seq, .int .i64 f.cand, .string f.xid, .int .i64 f.high], .agg #[.int .i64 sq, .int .i64 sc, .string sx], .agg #[.pointer po, .pointer pl, .bool gd, .string xi], .int .i64 t] w fun e w' =>
      e = .returned (.bool true) ∧ Below w.heap.size w w' := by
  have HB0 : Hid _ := box3 w f sq sc sx po pl gd xi
  have HE0 : Hid _ := below3 w (.cells #[.int .i64 f.seq, .int .i64 f.cand, .string f.xid, .int .i64 f.high] 23) (.cells #[.int .i64 sq, .int .i64 sc, .string sx] 25) (.cells #[.pointer po, .pointer pl, .bool gd, .string xi] 29)
  have HES : Hid _ := (by simp : w.heap.size + 3 ≤ (((w.alloc (.cells #[.int .i64 f.seq, .int .i64 f.cand, .string f.xid, .int .i64 f.high] 23)).alloc (.cells #[.int .i64 sq, .int .i64 sc, .string sx] 25)).alloc (.cells #[.pointer po, .pointer pl, .bool gd, .string xi] 29)).heap.size)
  have HBB : Hid _ := (bb_true (by omega) : bb f.xid.size sx.size xi.size = true)
  have HPO : Hid (PB0 w po st) := hpo
  have HPL : Hid (PI0 w pl lo) := hpl
  obtain ⟨Hh, HH⟩ : ∃ Hh, Hid (max f.high t = Hh) := ⟨_, rfl⟩
  have hns : ¬ (0 < sc ∧ st = some true) := fun h => hsc h.1
  have hW : wantOf f sc st lo = f.seq := by unfold wantOf; rw [if_neg hns]
  obtain ⟨c1, x1, c2, x2, hv1, hv2, hk⟩ := once_plain f sc sx st lo gd xi t f.seq Hh hW HH.out
  obtain ⟨e1, e2, e3, e4⟩ := hk hc (fun h => hns h.1)
  subst e1 e2 e3 e4
  have HV1 : Hid _ := hv1
  have HV2 : Hid _ := hv2
  have i1 : ¬ ((65536 : Int) < (f.xid.size : Int)) := by omega
  have i2 : ¬ ((65536 : Int) < (sx.size : Int)) := by omega
  have i3 : ¬ ((65536 : Int) < (xi.size : Int)) := by omega
  clear hv1 hv2 hk k1 k2 k3 hW hpo hpl hns
  go_enter Try.func4, Try.ntmps4
  go_wp2_with fail
  refine (bytes4 _ f sq sc sx po pl gd xi t).mono ?_
  rintro e w1 ⟨he, hb1⟩
  rw [HBB.out] at he
  subst he
  have hbel : Below w.heap.size w w1 := HE0.out.trans (hb1.mono (HE0.out.size))
  have B1 : Box3 w1 w.heap.size f sq sc sx po pl gd xi := Box3.below HB0.out hb1 HES.out
  have hs1 : w.heap.size + 3 ≤ w1.heap.size := Nat.le_trans HES.out hb1.size
  have HB1 : Hid (Box3 w1 w.heap.size f sq sc sx po pl gd xi) := B1
  obtain ⟨a0, a1, a2, a3, s0, s1, s2, d0, d1, d2, d3⟩ := B1
  clear HB0 HE0 HES hb1
  go_wp2_with fail
  refine (max_is w1 f.high t Hh HH.out).mono ?_
  rintro e wz ⟨rfl, rfl⟩
  go_wp2_with fail
  refine (newFloor_any w1 f).mono ?_
  rintro e w2 ⟨rfl, hw2⟩
  have FA : FlrAt w2 w1.heap.size 0 f := by rw [hw2]; exact FlrAt.new w1 f
  have b2 : Below w1.heap.size w1 w2 := by rw [hw2]; exact (Below.refl _ _).alloc (Nat.le_refl _) _
  clear hw2
  have B2 : Box3 w2 w.heap.size f sq sc sx po pl gd xi := HB1.out.below b2 hs1
  have HB2 : Hid (Box3 w2 w.heap.size f sq sc sx po pl gd xi) := B2
  have hbel2 : Below w.heap.size w w2 := hbel.trans (b2.mono (by omega))
  have HFA : Hid (FlrAt w2 w1.heap.size 0 f) := FA
  have hlt2 : w1.heap.size < w2.heap.size := FA.lt
  obtain ⟨a0, a1, a2, a3, s0, s1, s2, d0, d1, d2, d3⟩ := B2
  clear HB1 b2 hbel FA
  go_wp2_with fail
  refine (zmove_any w2 w1.heap.size f HFA.out sq sc sx po pl st lo gd xi t (HPO.out.to hbel2 (by omega)) (HPL.out.to hbel2 (by omega))).mono ?_
  rintro e w3 ⟨rfl, hA3, m3⟩
  rw [HV1.out] at hA3
  have HA3 : Hid (FlrAt w3 w1.heap.size 0 ⟨f.seq, f.cand, f.xid, Hh⟩) := hA3
  have b3 : Below w1.heap.size w2 w3 := m3.below (by omega) (Nat.le_refl _)
  have HB3 : Hid (Box3 w3 w.heap.size f sq sc sx po pl gd xi) := HB2.out.below b3 hs1
  have hbel3 : Below w.heap.size w w3 := hbel2.trans (b3.mono (by omega))
  clear HB2 b3 hbel2 HFA hA3 m3
  go_wp2_with fail
  refine (fields_any w3 w1.heap.size _ HA3.out).mono ?_
  rintro e w4 ⟨rfl, q4, hw4⟩
  have HA4 : Hid (FlrAt w4 w1.heap.size 0 ⟨f.seq, f.cand, f.xid, Hh⟩) := (by rw [hw4]; exact HA3.out.drewN q4 : FlrAt w4 w1.heap.size 0 ⟨f.seq, f.cand, f.xid, Hh⟩)
  have b4 : Below w1.heap.size w3 w4 := by rw [hw4]; exact ⟨rfl, rfl, rfl, Nat.le_refl _, fun _ _ => rfl⟩
  have B4 : Box3 w4 w.heap.size f sq sc sx po pl gd xi := HB3.out.below b4 hs1
  have HB4 : Hid (Box3 w4 w.heap.size f sq sc sx po pl gd xi) := B4
  have hbel4 : Below w.heap.size w w4 := hbel3.trans (b4.mono (by omega))
  have hlt4 : w1.heap.size < w4.heap.size := HA4.out.lt
  obtain ⟨a0, a1, a2, a3, s0, s1, s2, d0, d1, d2, d3⟩ := B4
  clear HB3 b4 hbel3 HA3 hw4
  go_wp2_with fail
  refine (zmove_any w4 w1.heap.size ⟨f.seq, f.cand, f.xid, Hh⟩ HA4.out sq sc sx po pl st lo gd xi t (HPO.out.to hbel4 (by omega)) (HPL.out.to hbel4 (by omega))).mono ?_
  rintro e w5 ⟨rfl, hA5, m5⟩
  rw [HV2.out] at hA5
  have HA5 : Hid (FlrAt w5 w1.heap.size 0 ⟨f.seq, f.cand, f.xid, Hh⟩) := hA5
  have b5 : Below w1.heap.size w4 w5 := m5.below (by omega) (Nat.le_refl _)
  have HB5 : Hid (Box3 w5 w.heap.size f sq sc sx po pl gd xi) := HB4.out.below b5 hs1
  have hbel5 : Below w.heap.size w w5 := hbel4.trans (b5.mono (by omega))
  clear HB4 b5 hbel4 HA4 hA5 m5
  go_wp2_with fail
  refine (fields_any w5 w1.heap.size _ HA5.out).mono ?_
  rintro e w6 ⟨rfl, q6, hw6⟩
  have b6 : Below w1.heap.size w5 w6 := by rw [hw6]; exact ⟨rfl, rfl, rfl, Nat.le_refl _, fun _ _ => rfl⟩
  have B6 : Box3 w6 w.heap.size f sq sc sx po pl gd xi := HB5.out.below b6 hs1
  have hbel6 : Below w.heap.size w w6 := hbel5.trans (b6.mono (by omega))
  obtain ⟨a0, a1, a2, a3, s0, s1, s2, d0, d1, d2, d3⟩ := B6
  have hse := str_eq f.xid
  clear HB5 b6 hbel5 HA5 hw6
  go_wp2_with fail
  go_ret
  exact ⟨rfl, hbel6⟩

end Go.Proofs.Qxb6628962a
