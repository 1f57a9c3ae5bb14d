import Derived.Test.Qxb6628962aZmove
namespace Go.Proofs.Qxb6628962a
open Go.RowKit Go.MuLone
set_option linter.unusedVariables false
set_option linter.unusedSimpArgs false

set_option maxHeartbeats 3200000 in
set_option maxRecDepth 100000 in
theorem high_out (w : World) (f : Flr) (sq sc : Int) (sx : ByteArray) (po pl : Option Addr) (gd : Bool) (xi : ByteArray) (t1 t2 : Int) (hm1 : f.xid.size ≤ maxLen) (hm2 : sx.size ≤ maxLen) (hm3 : xi.size ≤ maxLen) (ho : ¬ (f.xid.size ≤ 65536 ∧ sx.size ≤ 65536 ∧ xi.size ≤ 65536)) :
    Calls Try.prog 3 #[.agg #[.int .i64 f.seq, .int .i64 f.cand, .string f.xid, .int .i64 f.high], .agg #[.int .i64 sq, .int .i64 sc, .string sx], .agg #[.pointer po, .pointer pl, .bool gd, .string xi], .int .i64 t1, .int .i64 t2] w fun e w' =>
      e = .returned (.bool true) ∧ Below w.heap.size w w' := by
  have B0 := box3 w f sq sc sx po pl gd xi
  have e0 := below3 w (.cells #[.int .i64 f.seq, .int .i64 f.cand, .string f.xid, .int .i64 f.high] 23) (.cells #[.int .i64 sq, .int .i64 sc, .string sx] 25) (.cells #[.pointer po, .pointer pl, .bool gd, .string xi] 29)
  have es : w.heap.size + 3 ≤ (((w.alloc (.cells #[.int .i64 f.seq, .int .i64 f.cand, .string f.xid, .int .i64 f.high] 23)).alloc (.cells #[.int .i64 sq, .int .i64 sc, .string sx] 25)).alloc (.cells #[.pointer po, .pointer pl, .bool gd, .string xi] 29)).heap.size := by simp
  have HB0 : Hid _ := B0
  have HE0 : Hid _ := e0
  have HES : Hid _ := es
  clear B0 e0 es
  go_enter Try.func3, Try.ntmps3
  go_wp2_with fail
  refine (bytes5 _ f sq sc sx po pl gd xi t1 t2).mono ?_
  rintro e w1 ⟨he, hb1⟩
  have hbel : Below w.heap.size w w1 := HE0.out.trans (hb1.mono (HE0.out.size))
  obtain ⟨a0, a1, a2, a3, s0, s1, s2, d0, d1, d2, d3⟩ := Box3.below HB0.out hb1 HES.out
  clear HB0 HE0 HES hb1
  cases hbb : bb f.xid.size sx.size xi.size with
  | false =>
    rw [hbb] at he
    subst he
    go_wp2_with fail
    go_ret
    exact ⟨rfl, hbel⟩
  | true =>
    rw [hbb] at he
    subst he
    by_cases h1 : (65536 : Int) < (f.xid.size : Int)
    · go_wp2_with fail
      go_ret
      exact ⟨rfl, hbel⟩
    · by_cases h2 : (65536 : Int) < (sx.size : Int)
      · go_wp2_with fail
        go_ret
        exact ⟨rfl, hbel⟩
      · have h3 : (65536 : Int) < (xi.size : Int) := by omega
        go_wp2_with fail
        go_ret
        exact ⟨rfl, hbel⟩

set_option maxHeartbeats 3200000 in
set_option maxRecDepth 100000 in
theorem high_in (w : World) (f : Flr) (sq sc : Int) (sx : ByteArray) (po pl : Option Addr) (st : Option Bool) (lo : Option Int) (gd : Bool) (xi : ByteArray) (t1 t2 : Int) (k1 : f.xid.size ≤ 65536) (k2 : sx.size ≤ 65536) (k3 : xi.size ≤ 65536) (hpo : PB0 w po st) (hpl : PI0 w pl lo) :
    Calls Try.prog 3 #[.agg #[.int .i64 f.seq, .int .i64 f.cand, .string f.xid, .int .i64 f.high], .agg #[.int .i64 sq, .int .i64 sc, .string sx], .agg #[.pointer po, .pointer pl, .bool gd, .string xi], .int .i64 t1, .int .i64 t2] w fun e w' =>
      e = .returned (.bool true) ∧ Below w.heap.size w w' := by
  have B0 := box3 w f sq sc sx po pl gd xi
  have e0 := below3 w (.cells #[.int .i64 f.seq, .int .i64 f.cand, .string f.xid, .int .i64 f.high] 23) (.cells #[.int .i64 sq, .int .i64 sc, .string sx] 25) (.cells #[.pointer po, .pointer pl, .bool gd, .string xi] 29)
  have es : w.heap.size + 3 ≤ (((w.alloc (.cells #[.int .i64 f.seq, .int .i64 f.cand, .string f.xid, .int .i64 f.high] 23)).alloc (.cells #[.int .i64 sq, .int .i64 sc, .string sx] 25)).alloc (.cells #[.pointer po, .pointer pl, .bool gd, .string xi] 29)).heap.size := by simp
  have hbb : bb f.xid.size sx.size xi.size = true := bb_true (by omega)
  have HB0 : Hid _ := B0
  have HE0 : Hid _ := e0
  have HES : Hid _ := es
  have HPO : Hid (PB0 w po st) := hpo
  have HPL : Hid (PI0 w pl lo) := hpl
  obtain ⟨va, vb, vc, hv1, hv2⟩ := mv_two f sc sx st lo gd xi t1 t2
  have HV1 : Hid _ := hv1
  have HV2 : Hid _ := hv2
  have HBB : Hid _ := hbb
  have i1 : ¬ ((65536 : Int) < (f.xid.size : Int)) := by omega
  have i2 : ¬ ((65536 : Int) < (sx.size : Int)) := by omega
  have i3 : ¬ ((65536 : Int) < (xi.size : Int)) := by omega
  clear B0 e0 es hpo hpl hv1 hv2 hbb k1 k2 k3
  go_enter Try.func3, Try.ntmps3
  go_wp2_with fail
  refine (bytes5 _ f sq sc sx po pl gd xi t1 t2).mono ?_
  rintro e w1 ⟨he, hb1⟩
  rw [HBB.out] at he
  subst he
  have hbel : Below w.heap.size w w1 := HE0.out.trans (hb1.mono (HE0.out.size))
  have B1 : Box3 w1 w.heap.size f sq sc sx po pl gd xi := Box3.below HB0.out hb1 HES.out
  have hs1 : w.heap.size + 3 ≤ w1.heap.size := Nat.le_trans HES.out hb1.size
  have HB1 : Hid (Box3 w1 w.heap.size f sq sc sx po pl gd xi) := B1
  obtain ⟨a0, a1, a2, a3, s0, s1, s2, d0, d1, d2, d3⟩ := B1
  clear HB0 HE0 HES hb1
  go_wp2_with fail
  refine (newFloor_any w1 f).mono ?_
  rintro e w2 ⟨rfl, hw2⟩
  have FA : FlrAt w2 w1.heap.size 0 f := by rw [hw2]; exact FlrAt.new w1 f
  have b2 : Below w1.heap.size w1 w2 := by rw [hw2]; exact (Below.refl _ _).alloc (Nat.le_refl _) _
  clear hw2
  have B2 : Box3 w2 w.heap.size f sq sc sx po pl gd xi := HB1.out.below b2 hs1
  have HB2 : Hid (Box3 w2 w.heap.size f sq sc sx po pl gd xi) := B2
  have hbel2 : Below w.heap.size w w2 := hbel.trans (b2.mono (by omega))
  have HFA : Hid (FlrAt w2 w1.heap.size 0 f) := FA
  have hlt2 : w1.heap.size < w2.heap.size := FA.lt
  obtain ⟨a0, a1, a2, a3, s0, s1, s2, d0, d1, d2, d3⟩ := B2
  clear HB1 b2 hbel FA
  go_wp2_with fail
  refine (newFloor_any w2 f).mono ?_
  rintro e w3 ⟨rfl, hw3⟩
  have HFB : Hid (FlrAt w3 w2.heap.size 0 f) := (by rw [hw3]; exact FlrAt.new w2 f : FlrAt w3 w2.heap.size 0 f)
  have b3 : Below w2.heap.size w2 w3 := by rw [hw3]; exact (Below.refl _ _).alloc (Nat.le_refl _) _
  clear hw3
  have HFA3 : Hid (FlrAt w3 w1.heap.size 0 f) := (b3.block _ hlt2).trans HFA.out
  have B3 : Box3 w3 w.heap.size f sq sc sx po pl gd xi := HB2.out.below b3 (by omega)
  have HB3 : Hid (Box3 w3 w.heap.size f sq sc sx po pl gd xi) := B3
  have hbel3 : Below w.heap.size w w3 := hbel2.trans (b3.mono (by omega))
  have hs3 := b3.size
  have hlt3 : w2.heap.size < w3.heap.size := HFB.out.lt
  obtain ⟨a0, a1, a2, a3, s0, s1, s2, d0, d1, d2, d3⟩ := B3
  clear HB2 b3 hbel2 HFA
  go_wp2_with fail
  refine (zmove_any w3 w1.heap.size f HFA3.out sq sc sx po pl st lo gd xi t1 (HPO.out.to hbel3 (by omega)) (HPL.out.to hbel3 (by omega))).mono ?_
  rintro e w4 ⟨rfl, hA4, m4⟩
  rw [HV1.out] at hA4
  have HA4 : Hid (FlrAt w4 w1.heap.size 0 ⟨va, vb, vc, max f.high t1⟩) := hA4
  have HB4f : Hid (FlrAt w4 w2.heap.size 0 f) := HFB.out.other m4 (by omega)
  have b4 : Below w1.heap.size w3 w4 := m4.below (by omega) (Nat.le_refl _)
  have B4 : Box3 w4 w.heap.size f sq sc sx po pl gd xi := HB3.out.below b4 hs1
  have HB4 : Hid (Box3 w4 w.heap.size f sq sc sx po pl gd xi) := B4
  have hbel4 : Below w.heap.size w w4 := hbel3.trans (b4.mono (by omega))
  have hs4 := b4.size
  obtain ⟨a0, a1, a2, a3, s0, s1, s2, d0, d1, d2, d3⟩ := B4
  clear HB3 b4 hbel3 HFA3 HFB hA4 m4
  go_wp2_with fail
  refine (zmove_any w4 w2.heap.size f HB4f.out sq sc sx po pl st lo gd xi t2 (HPO.out.to hbel4 (by omega)) (HPL.out.to hbel4 (by omega))).mono ?_
  rintro e w5 ⟨rfl, hB5, m5⟩
  rw [HV2.out] at hB5
  have HB5f : Hid (FlrAt w5 w2.heap.size 0 ⟨va, vb, vc, max f.high t2⟩) := hB5
  have HA5 : Hid (FlrAt w5 w1.heap.size 0 ⟨va, vb, vc, max f.high t1⟩) := HA4.out.other m5 (by omega)
  have b5 : Below w1.heap.size w4 w5 := m5.below (by omega) (by omega)
  have B5 : Box3 w5 w.heap.size f sq sc sx po pl gd xi := HB4.out.below b5 hs1
  have HB5 : Hid (Box3 w5 w.heap.size f sq sc sx po pl gd xi) := B5
  have hbel5 : Below w.heap.size w w5 := hbel4.trans (b5.mono (by omega))
  clear HB4 b5 hbel4 HA4 HB4f hB5 m5 B5
  go_wp2_with fail
  refine (fields_any w5 w1.heap.size _ HA5.out).mono ?_
  rintro e w6 ⟨rfl, q6, hw6⟩
  have HB6f : Hid (FlrAt w6 w2.heap.size 0 ⟨va, vb, vc, max f.high t2⟩) := (by rw [hw6]; exact HB5f.out.drewN q6 : FlrAt w6 w2.heap.size 0 ⟨va, vb, vc, max f.high t2⟩)
  have b6 : Below w5.heap.size w5 w6 := by rw [hw6]; exact ⟨rfl, rfl, rfl, Nat.le_refl _, fun _ _ => rfl⟩
  have hs5 := hbel5.size
  have hs6 : w.heap.size + 3 ≤ w5.heap.size := Nat.le_trans hs1 (Nat.le_trans (Nat.le_of_lt HA5.out.lt) (Nat.le_refl _))
  have HB6 : Hid (Box3 w6 w.heap.size f sq sc sx po pl gd xi) := HB5.out.below b6 hs6
  have hbel6 : Below w.heap.size w w6 := hbel5.trans (b6.mono (by omega))
  clear HB5 b6 hbel5 HA5 HB5f hw6 hs5
  go_wp2_with fail
  refine (fields_any w6 w2.heap.size _ HB6f.out).mono ?_
  rintro e w7 ⟨rfl, q7, hw7⟩
  have b7 : Below w6.heap.size w6 w7 := by rw [hw7]; exact ⟨rfl, rfl, rfl, Nat.le_refl _, fun _ _ => rfl⟩
  have hs7 : w.heap.size + 3 ≤ w6.heap.size := Nat.le_trans hs1 (Nat.le_of_lt (Nat.lt_trans hlt2 HB6f.out.lt))
  have B7 : Box3 w7 w.heap.size f sq sc sx po pl gd xi := HB6.out.below b7 hs7
  have hbel7 : Below w.heap.size w w7 := hbel6.trans (b7.mono (by omega))
  obtain ⟨a0, a1, a2, a3, s0, s1, s2, d0, d1, d2, d3⟩ := B7
  have hse := str_eq vc
  clear HB6 b7 hbel6 HB6f hw7
  go_wp2_with fail
  refine (max_any w7 f.high t1).mono ?_
  rintro e w8 ⟨rfl, rfl⟩
  go_wp2_with fail
  refine (max_any _ f.high t2).mono ?_
  rintro e w9 ⟨rfl, rfl⟩
  go_wp2_with fail
  go_ret
  exact ⟨rfl, hbel7⟩

end Go.Proofs.Qxb6628962a
