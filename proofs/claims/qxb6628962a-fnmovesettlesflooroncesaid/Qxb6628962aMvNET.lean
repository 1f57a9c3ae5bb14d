import Derived.Test.Qxb6628962aMvBase
namespace Go.Proofs.Qxb6628962a
open Go.RowKit Go.MuLone
set_option linter.unusedVariables false
set_option linter.unusedSimpArgs false

set_option maxHeartbeats 6400000 in
set_option maxRecDepth 100000 in
theorem move_net (w : World) (fb : Nat) (f : Flr) (hF : FlrAt w fb 0 f) (sq sc : Int) (sx : ByteArray) (po pl : Option Addr) (xi : ByteArray) (t : Int) (hpo : PB w fb po (some true)) (hpl : PI w fb pl none) (hsc : 0 < sc) (hx : f.xid = sx) :
    Calls Try.prog 11 #[.pointer (some ⟨fb, 0, none⟩), .agg #[.int .i64 sq, .int .i64 sc, .string sx], .agg #[.pointer po, .pointer pl, .bool true, .string xi], .int .i64 t] w fun e w' =>
      e = .returned (.tuple #[]) ∧ FlrAt w' fb 0 (mv f sc sx (some true) none true xi t) ∧ Fm fb w w' := by
  go_enter_defers Try.func11, Try.ntmps11
  go_wp2_with fail
  have m0 : Fm fb w ((w.alloc (.cells #[.int .i64 sq, .int .i64 sc, .string sx] 49)).alloc (.cells #[.pointer po, .pointer pl, .bool true, .string xi] 51)) := (Fm.alloc _ _ _).trans (Fm.alloc _ _ _)
  have F0 := (hF.alloc (.cells #[.int .i64 sq, .int .i64 sc, .string sx] 49)).alloc (.cells #[.pointer po, .pointer pl, .bool true, .string xi] 51)
  have B0 := boxed w fb hF.lt sq sc sx po pl true xi
  generalize (w.alloc (.cells #[.int .i64 sq, .int .i64 sc, .string sx] 49)).alloc (.cells #[.pointer po, .pointer pl, .bool true, .string xi] 51) = w0 at *
  refine (lock_free Try.muLib ⟨fb, 0, none⟩ _ F0.cells.1 (F0.free 0)).mono ?_
  rintro e w' ⟨rfl, rfl⟩
  have F1 := F0.lock (lk' := 1)
  have m1 := m0.trans (Fm.setCell fb 0 w0 (.int .i32 1))
  have B1 := B0.fm (Fm.setCell fb 0 w0 (.int .i32 1))
  clear F0 B0 m0
  generalize w0.setCell ⟨fb, 0, none⟩ (.int .i32 1) = w1 at *
  have P1 := hpo.fm m1
  have Q1 := hpl.fm m1
  generalize w.heap.size = bx at *
  obtain ⟨n0, n1, s1, s2, d0, d1, d2, d3⟩ := B1
  obtain ⟨c0, c2, c3, c4, c5⟩ := F1.cells
  have z2 := F1.free 2
  have z3 := F1.free 3
  have z4 := F1.free 4
  have z5 := F1.free 5
  have HF1 : Hid (FlrAt w1 fb 1 f) := F1
  clear F1 hpo hpl hF
  have n0' : ¬ (bx = fb) := fun h => n0 h.symm
  have n1' : ¬ (bx + 1 = fb) := fun h => n1 h.symm
  obtain ⟨H, HH⟩ : ∃ H, Hid (max f.high t = H) := ⟨_, rfl⟩
  have hM1 : ∀ (ts : Array TypeId) (ty : TypeId) (w : World), (Builtin.max_ ts ty #[.int .i64 f.high, .int .i64 t]).run Try.prog w = .ok (.int .i64 H) w := fun ts ty w => max_run ts ty _ _ _ HH.out w
  rcases P1 with ⟨_, h⟩ | ⟨pa, pb, rfl, hpb, pc, pn⟩
  · cases h
  obtain rfl : true = pb := Option.some.inj hpb
  clear hpb
  have ps : ∀ (W : World) (o : Nat) (v : Value), (W.setCell ⟨fb, o, none⟩ v).cell? pa = W.cell? pa := fun W o v => World.cell?_setCell_other W ⟨fb, o, none⟩ pa v (fun h => pn (by rw [← h]))
  rcases Q1 with ⟨rfl, _⟩ | ⟨qa, ql, _, h, _, _⟩
  case inr => cases h
  obtain ⟨S, HSQ⟩ : ∃ S, Hid (max f.seq sc = S) := ⟨_, rfl⟩
  have hM2 : ∀ (ts : Array TypeId) (ty : TypeId) (w : World), (Builtin.max_ ts ty #[.int .i64 f.seq, .int .i64 sc]).run Try.prog w = .ok (.int .i64 S) w := fun ts ty w => max_run ts ty _ _ _ HSQ.out w
  subst hx
  by_cases hhi : 0 < f.high
  · have HM : Hid (mv f sc f.xid (some true) none true xi t = ⟨S, IntKind.i64.wrap (f.high + 1), xi, H⟩) := (by simp [mv, mvA, mvB, hsc, hhi, HH.out, HSQ.out] : mv f sc f.xid (some true) none true xi t = ⟨S, IntKind.i64.wrap (f.high + 1), xi, H⟩)
    go_wp2_with fail
    go_quiet (fail)
    go_wp2_with fail
    go_region_held3 (fun wx => wx.cell? ⟨bx + 1, 3, none⟩ = some (.string xi)) (go_keep) (fail)
    go_wp2_with fail
    exact close_move w _ fb _ _ _ (((((((((HF1.out).setHigh _).setSeq _).drewN _).setCand _).setXid _).setCand _).setXid _).drew) (by rw [HM.out]) (((((((((m1).trans (Fm.setCell fb 5 _ _)).trans (Fm.setCell fb 2 _ _)).trans (Fm.drewN fb _ _)).trans (Fm.setCell fb 3 _ _)).trans (Fm.setCell fb 4 _ _)).trans (Fm.setCell fb 3 _ _)).trans (Fm.setCell fb 4 _ _)).trans (Fm.drew fb _))
  · have HM : Hid (mv f sc f.xid (some true) none true xi t = ⟨S, 0, ⟨#[]⟩, H⟩) := (by simp [mv, mvA, mvB, hsc, hhi, HH.out, HSQ.out] : mv f sc f.xid (some true) none true xi t = ⟨S, 0, ⟨#[]⟩, H⟩)
    go_wp2_with fail
    go_quiet (fail)
    go_wp2_with fail
    exact close_move w _ fb _ _ _ ((((((HF1.out).setHigh _).setSeq _).drewN _).setCand _).setXid _) (by rw [HM.out]) ((((((m1).trans (Fm.setCell fb 5 _ _)).trans (Fm.setCell fb 2 _ _)).trans (Fm.drewN fb _ _)).trans (Fm.setCell fb 3 _ _)).trans (Fm.setCell fb 4 _ _))

end Go.Proofs.Qxb6628962a
