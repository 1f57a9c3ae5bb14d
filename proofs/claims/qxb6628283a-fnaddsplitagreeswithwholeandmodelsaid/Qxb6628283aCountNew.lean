import Derived.Test.Qxb6628283aTwo
namespace Go.Proofs.Qxb6628283a
open Go.RowKit
set_option linter.unusedVariables false
set_option linter.unusedSimpArgs false

set_option maxHeartbeats 1600000 in
set_option maxRecDepth 100000 in
theorem count_new (w : World) (B rb len g : Nat) (gv : Value) (vs : List Value) (X : Nat → List Int) (e : Int) (hst : Rk w B rb gv len vs X) (hX : ∀ k, 3 * len ≤ k → X k = []) (hg : g ≤ 65536) (hlen : len ≤ 65537)
    (hs : (X (g * 3)).Pairwise (· < ·)) (hl1 : (X (g * 3)).length ≤ 20000) (hl2 : (X (g * 3 + 1)).length = (X (g * 3)).length) (hl3 : (X (g * 3 + 2)).length ≤ 20000) (he : e ∉ X (g * 3)) :
    Calls Try.prog 11 #[.pointer (some ⟨rb, 0, none⟩), .int .i64 g, .int .i64 e, .int .i64 1] w fun en w' => en = .returned (.tuple #[]) ∧ ∃ gv' vs', Rk w' B rb gv' (max len (g + 1)) vs' (stepX X g e) ∧ Fr B rb w w' := by
  obtain ⟨go0, gc0, rfl⟩ := hst.shape
  go_enter Try.func11, Try.ntmps11
  go_wp2_with fail
  go_loopg [] (g + 1 - len) (fun k wr => ∃ (L : Nat) (go : Option Addr) (gc : Nat) (vs' : List Value), len ≤ L ∧ L ≤ max len (g + 1) ∧ g + 1 - L ≤ k ∧ Rk wr B rb (.slice go L gc) L vs' X ∧ Fr B rb w wr)
  case atStart => exact ⟨len, go0, gc0, vs, Nat.le_refl _, by omega, Nat.le_refl _, hst, Fr.refl _ _ _⟩
  case round =>
    obtain ⟨L, go, gc, vs', h1, h2, h3, hrk, hfr⟩ := hrel
    have cc := hrk.cell
    have ff := hrk.free
    by_cases hlt : L ≤ g
    · go_wp2_with (at_builtin; refine wpList_rk_push rfl (.tmp 22) (.tmp 24) rfl Try.underlying26 Try.info54 hrk (fun k hk => hX k (by omega)) rfl _ rfl (by simp) (by omega) ?_; intro g1 k1 w1 P1 S1 F1; have c1 := cell_of_one P1; have f1 := free_of_one P1; clear P1)
      go_roundg (g + 1 - (L + 1))
      case measure => omega
      case rel => exact ⟨L + 1, some ⟨g1, 0, none⟩, k1, _, by omega, by omega, Nat.le_refl _, S1, hfr.trans F1⟩
    · obtain ⟨gb, cap, cur, hgv, hBg, hgb, hc1, hc2, hc3⟩ := hrk.form (by omega)
      simp only [Value.slice.injEq] at hgv
      obtain ⟨rfl, _, rfl⟩ := hgv
      obtain ⟨M, hM⟩ : ∃ M, Hid (L = M ∧ max len (g + 1) = M) := ⟨L, rfl, by omega⟩
      obtain rfl : L = M := hM.out.1
      have ig : (g : Int) < (L : Int) := by omega
      obtain ⟨v0, hv0, ho0⟩ := hrk.at (g * 3) (by omega)
      obtain ⟨v1, hv1, ho1⟩ := hrk.at (g * 3 + 1) (by omega)
      have hlow : lowOf e (X (g * 3)) ≤ (X (g * 3)).length := List.countP_le_length
      obtain ⟨a0, c0, rfl⟩ := own_shape ho0
      obtain ⟨a1, c1, rfl⟩ := own_shape ho1
      have s0 := (hrk.slot rfl (g * 3) (by omega)).1.trans hv0
      have s1 := (hrk.slot rfl (g * 3 + 1) (by omega)).1.trans hv1
      rw [hl2] at ho1 hv1 s1
      generalize hi0 : lowOf e (X (g * 3)) = i at *
      generalize hn0 : (X (g * 3)).length = n0 at *
      have HS := show Hid _ from And.intro ho0 hs
      have HE := show Hid (decide (e ∈ X (g * 3)) = false) from (show decide (e ∈ X (g * 3)) = false by simpa using he)
      have HI0 := show Hid _ from hi0
      have HV := show Hid _ from And.intro hv0 hv1
      have HO1 := show Hid _ from ho1
      have HN := show Hid _ from And.intro hl2 he
      have HGB := show Hid _ from lt_of_block hgb
      have HL0 := show Hid _ from hn0
      have HLE : Hid (∀ gx, (Value.slice a0 n0 c0).ownBlock = some gx → gx < wr.heap.size) := fun gx hgx => (own_block ho0 hgx).2.1
      have HLC : Hid (∀ gx, (Value.slice a1 n0 c1).ownBlock = some gx → gx < wr.heap.size) := fun gx hgx => (own_block ho1 hgx).2.1
      obtain ⟨v2, hv2, ho2⟩ := hrk.at (g * 3 + 2) (by omega)
      obtain ⟨a2, c2, rfl⟩ := own_shape ho2
      generalize hn2 : (X (g * 3 + 2)).length = n2 at *
      have HV2 := show Hid _ from And.intro hv2 hn2
      clear hc1 hc2 hc3 hgb ho0 ho1 ho2 hs he hi0 hn0 hv0 hv1 hv2 hn2 hl2
      go_wp2_with fail
      refine (search_any wr B n0 c0 a0 (X (g * 3)) e HS.out.1 HS.out.2 (by omega)).mono ?_
      rintro en w1 ⟨rfl, q, rfl⟩
      rw [HE.out, HI0.out]
      go_wp2_with fail
      have hS0 : (fun wx : World => wx.cell? ⟨gb, g * 3, none⟩ = some (.slice a0 n0 c0) ∧ wx.cell? ⟨gb, g * 3 + 1, none⟩ = some (.slice a1 n0 c1)) (wr.drewN q).drew := ⟨s0, s1⟩
      refine wp_region_gate_drew (fun wx => wx.cell? ⟨gb, g * 3, none⟩ = some (.slice a0 n0 c0) ∧ wx.cell? ⟨gb, g * 3 + 1, none⟩ = some (.slice a1 n0 c1)) [20, 23] (by kernel_rfl) ?_
      refine wpAnyG_takeY (i := 0) (v := .pointer (some ⟨gb, g * 3, none⟩)) (some 87) rfl rfl (by kernel_rfl) (by kernel_rfl) (by kernel_rfl) (fun _ _ _ h => h) (Or.inl ⟨by rfl, ?_⟩) ?_
      · intro wx _
        go_simp
      simp only [Act.put, List.setIfInBounds_toArray, List.set_cons_zero, List.set_cons_succ]
      refine wpAnyG_takeY (i := 1) (v := .pointer (some ⟨gb, g * 3, none⟩)) (some 88) rfl rfl (by kernel_rfl) (by kernel_rfl) (by kernel_rfl) (fun _ _ _ h => h) (Or.inl ⟨by rfl, ?_⟩) ?_
      · intro wx _
        go_simp
      simp only [Act.put, List.setIfInBounds_toArray, List.set_cons_zero, List.set_cons_succ]
      refine wpAnyG_takeY (i := 2) (v := .pointer (some ⟨gb, g * 3, none⟩)) (some 89) rfl rfl (by kernel_rfl) (by kernel_rfl) (by kernel_rfl) (fun _ _ _ h => h) (Or.inl ⟨by rfl, ?_⟩) ?_
      · intro wx _
        go_simp
      simp only [Act.put, List.setIfInBounds_toArray, List.set_cons_zero, List.set_cons_succ]
      refine wpAnyG_takeY (i := 3) (v := .pointer (some ⟨gb, g * 3, none⟩)) (some 90) rfl rfl (by kernel_rfl) (by kernel_rfl) (by kernel_rfl) (fun _ _ _ h => h) (Or.inl ⟨by rfl, ?_⟩) ?_
      · intro wx _
        go_simp
      simp only [Act.put, List.setIfInBounds_toArray, List.set_cons_zero, List.set_cons_succ]
      refine wpAnyG_takeY (i := 4) (v := .pointer (some ⟨gb, g * 3, none⟩)) (some 91) rfl rfl (by kernel_rfl) (by kernel_rfl) (by kernel_rfl) (fun _ _ _ h => h) (Or.inl ⟨by rfl, ?_⟩) ?_
      · intro wx _
        go_simp
      simp only [Act.put, List.setIfInBounds_toArray, List.set_cons_zero, List.set_cons_succ]
      refine wpAnyG_take (i := 5) (v := .slice a0 n0 c0) (some 92) rfl rfl (by kernel_rfl) (by kernel_rfl) (by kernel_rfl) (by kernel_rfl) (by kernel_rfl) (fun _ _ _ h => h) (Or.inl ⟨by rfl, ?_⟩) hS0 ?_
      · intro wx hSx
        obtain ⟨hSx1, hSx2⟩ := hSx
        go_simp
      simp only [Act.put, List.setIfInBounds_toArray, List.set_cons_zero, List.set_cons_succ]
      refine wpAnyG_takeY (i := 6) (v := .int .i64 i) (some 93) rfl rfl (by kernel_rfl) (by kernel_rfl) (by kernel_rfl) (fun _ _ _ h => h) (Or.inl ⟨by rfl, ?_⟩) ?_
      · intro wx _
        go_simp
      simp only [Act.put, List.setIfInBounds_toArray, List.set_cons_zero, List.set_cons_succ]
      refine wpAnyG_takeY (i := 7) (v := .int .i64 e) (some 94) rfl rfl (by kernel_rfl) (by kernel_rfl) (by kernel_rfl) (fun _ _ _ h => h) (Or.inl ⟨by rfl, ?_⟩) ?_
      · intro wx _
        go_simp
      simp only [Act.put, List.setIfInBounds_toArray, List.set_cons_zero, List.set_cons_succ]
      refine wpAnyG_takeY (i := 10) (v := .pointer (some ⟨gb, g * 3, none⟩)) (some 97) rfl rfl (by kernel_rfl) (by kernel_rfl) (by kernel_rfl) (fun _ _ _ h => h) (Or.inl ⟨by rfl, ?_⟩) ?_
      · intro wx _
        go_simp
      simp only [Act.put, List.setIfInBounds_toArray, List.set_cons_zero, List.set_cons_succ]
      refine wpAnyG_takeY (i := 11) (v := .pointer (some ⟨gb, g * 3, none⟩)) (some 98) rfl rfl (by kernel_rfl) (by kernel_rfl) (by kernel_rfl) (fun _ _ _ h => h) (Or.inl ⟨by rfl, ?_⟩) ?_
      · intro wx _
        go_simp
      simp only [Act.put, List.setIfInBounds_toArray, List.set_cons_zero, List.set_cons_succ]
      refine wpAnyG_takeY (i := 12) (v := .pointer (some ⟨gb, g * 3 + 1, none⟩)) (some 99) rfl rfl (by kernel_rfl) (by kernel_rfl) (by kernel_rfl) (fun _ _ _ h => h) (Or.inl ⟨by rfl, ?_⟩) ?_
      · intro wx _
        go_simp
      simp only [Act.put, List.setIfInBounds_toArray, List.set_cons_zero, List.set_cons_succ]
      refine wpAnyG_take (i := 13) (v := .slice a1 n0 c1) (some 100) rfl rfl (by kernel_rfl) (by kernel_rfl) (by kernel_rfl) (by kernel_rfl) (by kernel_rfl) (fun _ _ _ h => h) (Or.inl ⟨by rfl, ?_⟩) hS0 ?_
      · intro wx hSx
        obtain ⟨hSx1, hSx2⟩ := hSx
        go_simp
      simp only [Act.put, List.setIfInBounds_toArray, List.set_cons_zero, List.set_cons_succ]
      refine wpAnyG_takeY (i := 14) (v := .int .i64 i) (some 101) rfl rfl (by kernel_rfl) (by kernel_rfl) (by kernel_rfl) (fun _ _ _ h => h) (Or.inl ⟨by rfl, ?_⟩) ?_
      · intro wx _
        go_simp
      simp only [Act.put, List.setIfInBounds_toArray, List.set_cons_zero, List.set_cons_succ]
      refine wpAnyG_takeY (i := 15) (v := .int .i64 1) (some 102) rfl rfl (by kernel_rfl) (by kernel_rfl) (by kernel_rfl) (fun _ _ _ h => h) (Or.inl ⟨by rfl, ?_⟩) ?_
      · intro wx _
        go_simp
      simp only [Act.put, List.setIfInBounds_toArray, List.set_cons_zero, List.set_cons_succ]
      have hgl : gb < wr.heap.size := HGB.out
      have hA : ∀ (W : World) (o : Obj), gb < W.heap.size → (W.cell? ⟨gb, g * 3, none⟩ = some (.slice a0 n0 c0) ∧ W.cell? ⟨gb, g * 3 + 1, none⟩ = some (.slice a1 n0 c1)) → ((W.alloc o).cell? ⟨gb, g * 3, none⟩ = some (.slice a0 n0 c0) ∧ (W.alloc o).cell? ⟨gb, g * 3 + 1, none⟩ = some (.slice a1 n0 c1)) := fun W o h1 h2 => ⟨by rw [World.cell?_alloc_past _ _ _ h1]; exact h2.1, by rw [World.cell?_alloc_past _ _ _ h1]; exact h2.2⟩
      have HA := show Hid _ from hA
      have R0 := hrk.drewN (q + 1)
      clear hA
      refine wpAnyG_ready (rs := [8, 16]) (by kernel_rfl) (by simp) ?_
      refine ReadyG.more rfl (fun K8 hK8 => ?_) (ReadyG.more rfl (fun K16 hK16 => ?_) ReadyG.none)
      · go_simp
        refine hK8.out _ _ (HA.out _ _ hgl ⟨s0, s1⟩) ?_
        clear hK8 K8
        refine wpAnyG_ready (rs := [9, 16]) (by kernel_rfl) (by simp) ?_
        refine ReadyG.more rfl (fun K9 hK9 => ?_) (ReadyG.more rfl (fun K16 hK16 => ?_) ReadyG.none)
        · skip
          go_simp
          refine (ins_first (x := e) (R0.alloc (.cells #[.int .i64 e] 3)) rfl (by omega) HV.out.1 HL0.out (by omega) hlow (heap_alloc_new (wr.drewN (q + 1)) _) (fun gx hgx => by exact HLE.out gx hgx)).mono ?_
          rintro en wb ⟨g9, c9, rfl, MID, GR⟩
          refine hK9.out _ _ ⟨(MID.cells _ (by omega)).trans HV.out.1, (MID.cells _ (by omega)).trans HV.out.2⟩ ?_
          clear hK9 K9
          refine wpAnyG_ready (rs := [16]) (by kernel_rfl) (by simp) ?_
          refine ReadyG.more rfl (fun K16 hK16 => ?_) ReadyG.none
          go_simp
          refine hK16.out _ _ (HA.out _ _ (by obtain ⟨cb, hcb⟩ := MID.blk; exact lt_of_block hcb) ⟨(MID.cells _ (by omega)).trans HV.out.1, (MID.cells _ (by omega)).trans HV.out.2⟩) ?_
          clear hK16 K16
          refine wpAnyG_ready (rs := [17]) (by kernel_rfl) (by simp) ?_
          refine ReadyG.more rfl (fun K17 hK17 => ?_) ReadyG.none
          go_simp
          refine (ins_second (x := 1) (MID.alloc (.cells #[.int .i64 1] 3)) rfl (by omega) (by omega) (by omega) HV.out.2 HN.out.1 (by omega) hlow (heap_alloc_new wb _) (fun gx hgx => by have := HLC.out gx hgx; have := MID.size; simp at this; omega)).mono ?_
          rintro en wd ⟨gx, cx, rfl, ⟨curx, hbx⟩, hcx, RKF, FRF⟩
          have d0 := (hcx (g * 3) (by omega)).trans HV.out.1
          have d1 := (hcx (g * 3 + 1) (by omega)).trans HV.out.2
          have d2 := (hcx (g * 3 + 2) (by omega)).trans HV2.out.1
          have fz : ∀ k, wd.frozen? ⟨gb, k, none⟩ = false := fun k => by simp [World.frozen?, hbx]
          have f0 := fz (g * 3)
          have f1 := fz (g * 3 + 1)
          have f2 := fz (g * 3 + 2)
          have FW := Fr.alloc B rb (wr.drewN (q + 1)) (.cells #[.int .i64 e] 3)
          refine hK17.out _ _ ⟨d0, d1⟩ ?_
          clear hK17 K17 hbx hcx MID GR fz
          refine wpAnyG_takeY (i := 18) (v := .pointer (some ⟨gb, g * 3, none⟩)) (some 105) rfl rfl (by kernel_rfl) (by kernel_rfl) (by kernel_rfl) (fun _ _ _ h => h) (Or.inl ⟨by rfl, ?_⟩) ?_
          · intro wx _
            go_simp
          simp only [Act.put, List.setIfInBounds_toArray, List.set_cons_zero, List.set_cons_succ]
          refine wpAnyG_takeY (i := 19) (v := .pointer (some ⟨gb, g * 3, none⟩)) (some 106) rfl rfl (by kernel_rfl) (by kernel_rfl) (by kernel_rfl) (fun _ _ _ h => h) (Or.inl ⟨by rfl, ?_⟩) ?_
          · intro wx _
            go_simp
          simp only [Act.put, List.setIfInBounds_toArray, List.set_cons_zero, List.set_cons_succ]
          refine wpAnyG_ready (rs := [20]) (by kernel_rfl) (by simp) ?_
          refine ReadyG.last rfl (by kernel_rfl) (fun K20 hK20 => ?_) ReadyG.none
          go_simp
          refine hK20.out _ _ ?_
          clear hK20 K20
          refine wpAnyG_takeY (i := 21) (v := .pointer (some ⟨gb, g * 3, none⟩)) (some 107) rfl rfl (by kernel_rfl) (by kernel_rfl) (by kernel_rfl) (fun _ _ _ h => h) (Or.inl ⟨by rfl, ?_⟩) ?_
          · intro wx _
            go_simp
          simp only [Act.put, List.setIfInBounds_toArray, List.set_cons_zero, List.set_cons_succ]
          refine wpAnyG_takeY (i := 22) (v := .pointer (some ⟨gb, g * 3 + 1, none⟩)) (some 108) rfl rfl (by kernel_rfl) (by kernel_rfl) (by kernel_rfl) (fun _ _ _ h => h) (Or.inl ⟨by rfl, ?_⟩) ?_
          · intro wx _
            go_simp
          simp only [Act.put, List.setIfInBounds_toArray, List.set_cons_zero, List.set_cons_succ]
          refine wpAnyG_ready (rs := [23]) (by kernel_rfl) (by simp) ?_
          refine ReadyG.last rfl (by kernel_rfl) (fun K23 hK23 => ?_) ReadyG.none
          go_simp
          refine hK23.out _ _ ?_
          clear hK23 K23
          refine wpAnyG_done (by kernel_rfl) ?_ _
          have hvT : ((vs'.set (g * 3) (.slice (some ⟨g9, 0, none⟩) (n0 + 1) c9)).set (g * 3 + 1) (.slice (some ⟨gx, 0, none⟩) (n0 + 1) cx))[g * 3 + 2]? = some (.slice a2 n2 c2) := by
            rw [List.getElem?_set, if_neg (by omega), List.getElem?_set, if_neg (by omega)]; exact HV2.out.1
          have hnT : ((upd (upd X (g * 3) ((X (g * 3)).take i ++ e :: (X (g * 3)).drop i)) (g * 3 + 1) ((X (g * 3 + 1)).take i ++ 1 :: (X (g * 3 + 1)).drop i)) (g * 3 + 2)).length = n2 := by
            rw [upd_other _ _ _ _ (by omega), upd_other _ _ _ _ (by omega)]; exact HV2.out.2
          have HVT := show Hid _ from And.intro hvT hnT
          clear hvT hnT
          go_wp2_with (at_builtin; refine wpList_rk_tog (e := e) rfl (.tmp 113) (.tmp 115) rfl Try.underlying38 Try.info3 RKF rfl (by omega) HVT.out.1 HVT.out.2 rfl _ rfl (by simp) (by omega) ?_; intro gt kt wt ct ft RT FT)
          go_end0
          rw [stepX_new X g e i HN.out.2 HI0.out] at RT
          rw [hM.out.2]
          exact ⟨rfl, ⟨_, _, RT⟩, ((hfr.trans (Fr.drewN _ _ _ (q + 1))).trans (FW.trans FRF)).trans FT⟩
        · skip
          go_simp
          refine hK16.out _ _ (HA.out _ _ (by simp; omega) (HA.out _ _ hgl ⟨s0, s1⟩)) ?_
          clear hK16 K16
          refine wpAnyG_ready (rs := [9]) (by kernel_rfl) (by simp) ?_
          refine ReadyG.more rfl (fun K9 hK9 => ?_) ReadyG.none
          go_simp
          refine (ins_first (x := e) ((R0.alloc (.cells #[.int .i64 e] 3)).alloc (.cells #[.int .i64 1] 3)) rfl (by omega) HV.out.1 HL0.out (by omega) hlow ((Below.heap_alloc ((wr.drewN (q + 1)).alloc (.cells #[.int .i64 e] 3)) (.cells #[.int .i64 1] 3) wr.heap.size (by simp)).trans (heap_alloc_new (wr.drewN (q + 1)) _)) (fun gx hgx => by have := HLE.out gx hgx; omega)).mono ?_
          rintro en wb ⟨g9, c9, rfl, MID, GR⟩
          refine hK9.out _ _ ⟨(MID.cells _ (by omega)).trans HV.out.1, (MID.cells _ (by omega)).trans HV.out.2⟩ ?_
          clear hK9 K9
          refine wpAnyG_ready (rs := [17]) (by kernel_rfl) (by simp) ?_
          refine ReadyG.more rfl (fun K17 hK17 => ?_) ReadyG.none
          go_simp
          refine (ins_second (x := 1) MID rfl (by omega) (by omega) (by omega) HV.out.2 HN.out.1 (by omega) hlow (by rw [GR.block (wr.heap.size + 1) (by simp) (fun ee => by have := HLE.out _ ee.symm; omega)]; simpa using heap_alloc_new ((wr.drewN (q + 1)).alloc (.cells #[.int .i64 e] 3)) (.cells #[.int .i64 1] 3)) (fun gx hgx => by have := HLC.out gx hgx; omega)).mono ?_
          rintro en wd ⟨gx, cx, rfl, ⟨curx, hbx⟩, hcx, RKF, FRF⟩
          have d0 := (hcx (g * 3) (by omega)).trans HV.out.1
          have d1 := (hcx (g * 3 + 1) (by omega)).trans HV.out.2
          have d2 := (hcx (g * 3 + 2) (by omega)).trans HV2.out.1
          have fz : ∀ k, wd.frozen? ⟨gb, k, none⟩ = false := fun k => by simp [World.frozen?, hbx]
          have f0 := fz (g * 3)
          have f1 := fz (g * 3 + 1)
          have f2 := fz (g * 3 + 2)
          have FW := (Fr.alloc B rb (wr.drewN (q + 1)) (.cells #[.int .i64 e] 3)).trans (Fr.alloc B rb _ (.cells #[.int .i64 1] 3))
          refine hK17.out _ _ ⟨d0, d1⟩ ?_
          clear hK17 K17 hbx hcx MID GR fz
          refine wpAnyG_takeY (i := 18) (v := .pointer (some ⟨gb, g * 3, none⟩)) (some 105) rfl rfl (by kernel_rfl) (by kernel_rfl) (by kernel_rfl) (fun _ _ _ h => h) (Or.inl ⟨by rfl, ?_⟩) ?_
          · intro wx _
            go_simp
          simp only [Act.put, List.setIfInBounds_toArray, List.set_cons_zero, List.set_cons_succ]
          refine wpAnyG_takeY (i := 19) (v := .pointer (some ⟨gb, g * 3, none⟩)) (some 106) rfl rfl (by kernel_rfl) (by kernel_rfl) (by kernel_rfl) (fun _ _ _ h => h) (Or.inl ⟨by rfl, ?_⟩) ?_
          · intro wx _
            go_simp
          simp only [Act.put, List.setIfInBounds_toArray, List.set_cons_zero, List.set_cons_succ]
          refine wpAnyG_ready (rs := [20]) (by kernel_rfl) (by simp) ?_
          refine ReadyG.last rfl (by kernel_rfl) (fun K20 hK20 => ?_) ReadyG.none
          go_simp
          refine hK20.out _ _ ?_
          clear hK20 K20
          refine wpAnyG_takeY (i := 21) (v := .pointer (some ⟨gb, g * 3, none⟩)) (some 107) rfl rfl (by kernel_rfl) (by kernel_rfl) (by kernel_rfl) (fun _ _ _ h => h) (Or.inl ⟨by rfl, ?_⟩) ?_
          · intro wx _
            go_simp
          simp only [Act.put, List.setIfInBounds_toArray, List.set_cons_zero, List.set_cons_succ]
          refine wpAnyG_takeY (i := 22) (v := .pointer (some ⟨gb, g * 3 + 1, none⟩)) (some 108) rfl rfl (by kernel_rfl) (by kernel_rfl) (by kernel_rfl) (fun _ _ _ h => h) (Or.inl ⟨by rfl, ?_⟩) ?_
          · intro wx _
            go_simp
          simp only [Act.put, List.setIfInBounds_toArray, List.set_cons_zero, List.set_cons_succ]
          refine wpAnyG_ready (rs := [23]) (by kernel_rfl) (by simp) ?_
          refine ReadyG.last rfl (by kernel_rfl) (fun K23 hK23 => ?_) ReadyG.none
          go_simp
          refine hK23.out _ _ ?_
          clear hK23 K23
          refine wpAnyG_done (by kernel_rfl) ?_ _
          have hvT : ((vs'.set (g * 3) (.slice (some ⟨g9, 0, none⟩) (n0 + 1) c9)).set (g * 3 + 1) (.slice (some ⟨gx, 0, none⟩) (n0 + 1) cx))[g * 3 + 2]? = some (.slice a2 n2 c2) := by
            rw [List.getElem?_set, if_neg (by omega), List.getElem?_set, if_neg (by omega)]; exact HV2.out.1
          have hnT : ((upd (upd X (g * 3) ((X (g * 3)).take i ++ e :: (X (g * 3)).drop i)) (g * 3 + 1) ((X (g * 3 + 1)).take i ++ 1 :: (X (g * 3 + 1)).drop i)) (g * 3 + 2)).length = n2 := by
            rw [upd_other _ _ _ _ (by omega), upd_other _ _ _ _ (by omega)]; exact HV2.out.2
          have HVT := show Hid _ from And.intro hvT hnT
          clear hvT hnT
          go_wp2_with (at_builtin; refine wpList_rk_tog (e := e) rfl (.tmp 113) (.tmp 115) rfl Try.underlying38 Try.info3 RKF rfl (by omega) HVT.out.1 HVT.out.2 rfl _ rfl (by simp) (by omega) ?_; intro gt kt wt ct ft RT FT)
          go_end0
          rw [stepX_new X g e i HN.out.2 HI0.out] at RT
          rw [hM.out.2]
          exact ⟨rfl, ⟨_, _, RT⟩, ((hfr.trans (Fr.drewN _ _ _ (q + 1))).trans (FW.trans FRF)).trans FT⟩
      · skip
        go_simp
        refine hK16.out _ _ (HA.out _ _ hgl ⟨s0, s1⟩) ?_
        clear hK16 K16
        refine wpAnyG_ready (rs := [8]) (by kernel_rfl) (by simp) ?_
        refine ReadyG.more rfl (fun K8 hK8 => ?_) ReadyG.none
        go_simp
        refine hK8.out _ _ (HA.out _ _ (by simp; omega) (HA.out _ _ hgl ⟨s0, s1⟩)) ?_
        clear hK8 K8
        refine wpAnyG_ready (rs := [9]) (by kernel_rfl) (by simp) ?_
        refine ReadyG.more rfl (fun K9 hK9 => ?_) ReadyG.none
        go_simp
        refine (ins_first (x := e) ((R0.alloc (.cells #[.int .i64 1] 3)).alloc (.cells #[.int .i64 e] 3)) rfl (by omega) HV.out.1 HL0.out (by omega) hlow (by simpa using heap_alloc_new ((wr.drewN (q + 1)).alloc (.cells #[.int .i64 1] 3)) (.cells #[.int .i64 e] 3)) (fun gx hgx => by have := HLE.out gx hgx; omega)).mono ?_
        rintro en wb ⟨g9, c9, rfl, MID, GR⟩
        refine hK9.out _ _ ⟨(MID.cells _ (by omega)).trans HV.out.1, (MID.cells _ (by omega)).trans HV.out.2⟩ ?_
        clear hK9 K9
        refine wpAnyG_ready (rs := [17]) (by kernel_rfl) (by simp) ?_
        refine ReadyG.more rfl (fun K17 hK17 => ?_) ReadyG.none
        go_simp
        refine (ins_second (x := 1) MID rfl (by omega) (by omega) (by omega) HV.out.2 HN.out.1 (by omega) hlow (by rw [GR.block wr.heap.size (by simp; omega) (fun ee => by have := HLE.out _ ee.symm; omega), Below.heap_alloc ((wr.drewN (q + 1)).alloc (.cells #[.int .i64 1] 3)) (.cells #[.int .i64 e] 3) wr.heap.size (by simp)]; exact heap_alloc_new (wr.drewN (q + 1)) _) (fun gx hgx => by have := HLC.out gx hgx; omega)).mono ?_
        rintro en wd ⟨gx, cx, rfl, ⟨curx, hbx⟩, hcx, RKF, FRF⟩
        have d0 := (hcx (g * 3) (by omega)).trans HV.out.1
        have d1 := (hcx (g * 3 + 1) (by omega)).trans HV.out.2
        have d2 := (hcx (g * 3 + 2) (by omega)).trans HV2.out.1
        have fz : ∀ k, wd.frozen? ⟨gb, k, none⟩ = false := fun k => by simp [World.frozen?, hbx]
        have f0 := fz (g * 3)
        have f1 := fz (g * 3 + 1)
        have f2 := fz (g * 3 + 2)
        have FW := (Fr.alloc B rb (wr.drewN (q + 1)) (.cells #[.int .i64 1] 3)).trans (Fr.alloc B rb _ (.cells #[.int .i64 e] 3))
        refine hK17.out _ _ ⟨d0, d1⟩ ?_
        clear hK17 K17 hbx hcx MID GR fz
        refine wpAnyG_takeY (i := 18) (v := .pointer (some ⟨gb, g * 3, none⟩)) (some 105) rfl rfl (by kernel_rfl) (by kernel_rfl) (by kernel_rfl) (fun _ _ _ h => h) (Or.inl ⟨by rfl, ?_⟩) ?_
        · intro wx _
          go_simp
        simp only [Act.put, List.setIfInBounds_toArray, List.set_cons_zero, List.set_cons_succ]
        refine wpAnyG_takeY (i := 19) (v := .pointer (some ⟨gb, g * 3, none⟩)) (some 106) rfl rfl (by kernel_rfl) (by kernel_rfl) (by kernel_rfl) (fun _ _ _ h => h) (Or.inl ⟨by rfl, ?_⟩) ?_
        · intro wx _
          go_simp
        simp only [Act.put, List.setIfInBounds_toArray, List.set_cons_zero, List.set_cons_succ]
        refine wpAnyG_ready (rs := [20]) (by kernel_rfl) (by simp) ?_
        refine ReadyG.last rfl (by kernel_rfl) (fun K20 hK20 => ?_) ReadyG.none
        go_simp
        refine hK20.out _ _ ?_
        clear hK20 K20
        refine wpAnyG_takeY (i := 21) (v := .pointer (some ⟨gb, g * 3, none⟩)) (some 107) rfl rfl (by kernel_rfl) (by kernel_rfl) (by kernel_rfl) (fun _ _ _ h => h) (Or.inl ⟨by rfl, ?_⟩) ?_
        · intro wx _
          go_simp
        simp only [Act.put, List.setIfInBounds_toArray, List.set_cons_zero, List.set_cons_succ]
        refine wpAnyG_takeY (i := 22) (v := .pointer (some ⟨gb, g * 3 + 1, none⟩)) (some 108) rfl rfl (by kernel_rfl) (by kernel_rfl) (by kernel_rfl) (fun _ _ _ h => h) (Or.inl ⟨by rfl, ?_⟩) ?_
        · intro wx _
          go_simp
        simp only [Act.put, List.setIfInBounds_toArray, List.set_cons_zero, List.set_cons_succ]
        refine wpAnyG_ready (rs := [23]) (by kernel_rfl) (by simp) ?_
        refine ReadyG.last rfl (by kernel_rfl) (fun K23 hK23 => ?_) ReadyG.none
        go_simp
        refine hK23.out _ _ ?_
        clear hK23 K23
        refine wpAnyG_done (by kernel_rfl) ?_ _
        have hvT : ((vs'.set (g * 3) (.slice (some ⟨g9, 0, none⟩) (n0 + 1) c9)).set (g * 3 + 1) (.slice (some ⟨gx, 0, none⟩) (n0 + 1) cx))[g * 3 + 2]? = some (.slice a2 n2 c2) := by
          rw [List.getElem?_set, if_neg (by omega), List.getElem?_set, if_neg (by omega)]; exact HV2.out.1
        have hnT : ((upd (upd X (g * 3) ((X (g * 3)).take i ++ e :: (X (g * 3)).drop i)) (g * 3 + 1) ((X (g * 3 + 1)).take i ++ 1 :: (X (g * 3 + 1)).drop i)) (g * 3 + 2)).length = n2 := by
          rw [upd_other _ _ _ _ (by omega), upd_other _ _ _ _ (by omega)]; exact HV2.out.2
        have HVT := show Hid _ from And.intro hvT hnT
        clear hvT hnT
        go_wp2_with (at_builtin; refine wpList_rk_tog (e := e) rfl (.tmp 113) (.tmp 115) rfl Try.underlying38 Try.info3 RKF rfl (by omega) HVT.out.1 HVT.out.2 rfl _ rfl (by simp) (by omega) ?_; intro gt kt wt ct ft RT FT)
        go_end0
        rw [stepX_new X g e i HN.out.2 HI0.out] at RT
        rw [hM.out.2]
        exact ⟨rfl, ⟨_, _, RT⟩, ((hfr.trans (Fr.drewN _ _ _ (q + 1))).trans (FW.trans FRF)).trans FT⟩

end Go.Proofs.Qxb6628283a
