import Derived.Test.Qxb6628283aMatch
namespace Go.Proofs.Qxb6628283a
open Go.RowKit
set_option linter.unusedVariables false
set_option linter.unusedSimpArgs false

theorem made_nd (ps : Nat → Epr) (w : World) (N : Nat) :
    ((w.alloc (.cells (madeCells #[.int .i64 0] N) 3)).alloc (.cells (madeCells #[.int .i64 0] N) 3)).rowIs w.heap.size 3 N (ndOf ps 0) ∧
    ((w.alloc (.cells (madeCells #[.int .i64 0] N) 3)).alloc (.cells (madeCells #[.int .i64 0] N) 3)).rowIs (w.heap.size + 1) 3 N (ndOf ps 0) ∧
    Below w.heap.size w ((w.alloc (.cells (madeCells #[.int .i64 0] N) 3)).alloc (.cells (madeCells #[.int .i64 0] N) 3)) := by
  have h0 := World.rowIs_made w (.int .i64 0) N 3
  have h1 := World.rowIs_made (w.alloc (.cells (madeCells #[.int .i64 0] N) 3)) (.int .i64 0) N 3
  have s1 : (w.alloc (.cells (madeCells #[.int .i64 0] N) 3)).heap.size = w.heap.size + 1 := by simp
  rw [s1] at h1
  exact ⟨(h0.alloc _).congr (fun i _ => (nd_zero ps i).symm), h1.congr (fun i _ => (nd_zero ps i).symm), ((Below.refl _ _).alloc (Nat.le_refl _) _).alloc (by omega) _⟩

set_option maxHeartbeats 3200000 in
set_option maxRecDepth 100000 in
theorem matches_any (w : World) (rb n cap t : Nat) (ao : Option Addr) (ps : Nat → Epr) (hn : n ≤ 4096) (ht : t ≤ 2) (hE : EpsAt w ao n ps) (hD : Dom ps n) (hV : View w rb (lenOf (itemsTo ps n)) (XOf t (itemsTo ps n))) :
    Calls Try.prog 9 #[.pointer (some ⟨rb, 0, none⟩), .slice ao n cap, .int .i64 t] w fun en w' => en = .returned (.bool true) ∧ Below w.heap.size w w' := by
  have hLb : lenOf (itemsTo ps n) ≤ 65537 := lenOf_le _ 65536 (itemsTo_dom ps n n (Nat.le_refl _) hD)
  go_enter Try.func9, Try.ntmps9
  go_wp2_with fail
  go_loopw [8, 9] (fun top i wr => ∃ k : Nat, k ≤ n ∧ i = .int .i64 k ∧ top = .int .i64 ((lenOf (itemsTo ps k) : Int) - 1) ∧ wr = w) (fun _ i _ => n - (intOf i).toNat)
  case atStart => exact ⟨0, Nat.zero_le _, rfl, rfl, rfl⟩
  case round =>
    obtain ⟨k, hk, rfl, rfl, rfl⟩ := hrel
    by_cases hlt : k < n
    · rcases hE with hE | ⟨x, rfl, hc⟩
      · omega
      obtain ⟨c0, c1, c2, c3⟩ := hc k hlt
      have hdk := hD k hlt
      have b1 : (k : Int) < (n : Int) := by omega
      have HT := fun g => top_step ps k g
      have HN := its_no ps k
      have hb : lenOf (itemsTo ps k) ≤ 65537 := lenOf_le _ 65536 (itemsTo_dom ps n k hk hD)
      generalize hI1 : itemsTo ps (k + 1) = I1 at *
      generalize hI0 : itemsTo ps k = I0 at *
      have HI1 : Hid _ := hI1
      clear hI0 hI1
      generalize hEk : ps k = E at *
      obtain ⟨ea, eby, ee, eit⟩ := E
      dsimp only at *
      cases eit with
      | false =>
        clear HT hc
        have HN := HN rfl
        go_wp2_with fail
        go_roundw
        case rel => exact ⟨k + 1, by omega, by go_num, by rw [HI1.out, HN], trivial⟩
        case measure => simp [intOf]; omega
      | true =>
        obtain ⟨g, rfl⟩ := Int.eq_ofNat_of_zero_le (hdk rfl).1
        have HT := HT g rfl rfl
        clear hc HN hdk
        by_cases hgt : (lenOf I0 : Int) - 1 < g
        · have HT := HT.1 hgt
          go_wp2_with fail
          go_roundw
          case rel => exact ⟨k + 1, by omega, by go_num, by rw [HI1.out], trivial⟩
          case measure => simp [intOf]; omega
        · have HT := HT.2 hgt
          go_wp2_with fail
          go_roundw
          case rel => exact ⟨k + 1, by omega, by go_num, by rw [HI1.out, HT], trivial⟩
          case measure => simp [intOf]; omega
    · obtain rfl : n = k := by omega
      have hV0 := hV
      obtain ⟨go, gcap, hr0, hr1⟩ := hV0
      have hr : Hid _ := hr1
      clear hr1
      generalize hL : lenOf (itemsTo ps n) = L at *
      have HL : Hid _ := hL
      clear hL
      go_wp2_with fail
      refine (count_get _ rb L gcap go hr0).mono ?_
      rintro en w1 ⟨rfl, rfl⟩
      cases L with
      | zero =>
        go_wp2_with fail
        go_ret
        exact ⟨rfl, Below.refl _ _⟩
      | succ M =>
        obtain ⟨gb, rfl, hslot⟩ := hr.out (by omega)
        have hmk : ∀ w : World, (Instr.makeSlice 38 (.int .i64 ((M : Int) + 1)) (.int .i64 ((M : Int) + 1))).run Try.prog w = .ok (.slice (some ⟨w.heap.size, 0, none⟩) (M + 1) (M + 1)) (w.alloc (.cells (madeCells #[.int .i64 0] (M + 1)) 3)) := fun w => by
          have := run_make_row' (P := Try.prog) 38 3 (.int .i64 0) 8 Try.underlying38 Try.info3 rfl .i64 .i64 (M + 1) (by omega) (by omega) w
          simpa using this
        have b0 : (((M + 1 : Nat) : Int)) - 1 = M := by omega
        rw [b0]
        clear hV hr
        have HS : Hid _ := hslot
        clear hslot
        go_wp2_with fail
        go_loopw [12] (fun i wr => ∃ k : Nat, k ≤ n ∧ i = .int .i64 k ∧ wr.rowIs w1.heap.size 3 (M + 1) (ndOf ps k) ∧ wr.rowIs (w1.heap.size + 1) 3 (M + 1) (ndOf ps k) ∧ Below w1.heap.size w1 wr) (fun i _ => n - (intOf i).toNat)
        case atStart => exact ⟨0, Nat.zero_le _, rfl, made_nd ps w1 (M + 1)⟩
        case round =>
          clear hk hlt
          obtain ⟨k, hk, rfl, hnd, hpo, hbel⟩ := hrel
          by_cases hlt : k < n
          · rcases hE with hE | ⟨x, rfl, hc⟩
            · omega
            obtain ⟨c0, c1, c2, c3⟩ := hc k hlt
            have hdk := hD k hlt
            have b1 : (k : Int) < (n : Int) := by omega
            have HNO : Hid _ := nd_no ps k
            have HOLD : Hid _ := fun g g' e => nd_old ps k g g' e
            have HNEW : Hid _ := fun g g' e => nd_new ps k g g' e
            have HAT : Hid _ := its_at ps k n hlt
            have HSA : Hid _ := hc
            have l1 := (hbel.cell (lt_of_cell c1)).trans c1
            have l2 := (hbel.cell (lt_of_cell c2)).trans c2
            have l3 := (hbel.cell (lt_of_cell c3)).trans c3
            clear hc c0 c1 c2 c3
            generalize hEk : ps k = E at *
            obtain ⟨ea, eby, ee, eit⟩ := E
            dsimp only at *
            have hep : (ps k).ep = ee := by rw [hEk]
            have HEP : Hid _ := hep
            clear hep
            clear hEk
            cases eit with
            | false =>
              go_wp2_with fail
              go_roundw
              case rel => exact ⟨k + 1, by omega, by go_num, hnd.congr (fun g _ => HNO.out g rfl), hpo.congr (fun g _ => HNO.out g rfl), hbel⟩
              case measure => simp [intOf]; omega
            | true =>
              obtain ⟨g, rfl⟩ := Int.eq_ofNat_of_zero_le (hdk rfl).1
              clear hdk HNO
              have HOLD2 : Hid _ := fun g' => HOLD.out g g' ee rfl rfl rfl
              have HNEW2 : Hid _ := fun g' => HNEW.out g g' ee rfl rfl rfl
              obtain ⟨rest, hrest⟩ := HAT.out rfl
              rw [Int.toNat_natCast] at hrest
              have hgM : g ≤ M := by
                have := lenOf_mem (itemsTo ps n) (g, ee) (by rw [hrest]; simp)
                rw [HL.out] at this
                simpa using Nat.lt_succ_iff.1 this
              have HRS : Hid _ := hrest
              clear HOLD HNEW HAT hrest
              go_wp2_with fail
              go_loopw [14, 15, 16] (fun first mult j wx => ∃ m : Nat, m ≤ n ∧ j = .int .i64 m ∧ mult = .int .i64 (cnt g ee (itemsTo ps m) : Nat) ∧ first = .bool (decide ((g, ee) ∉ itemsTo ps (min m k))) ∧ Below wr.heap.size wr wx) (fun _ _ j _ => n - (intOf j).toNat)
              case atStart => exact ⟨0, Nat.zero_le _, rfl, by simp [itemsTo, cnt], by simp [itemsTo], Below.refl _ _⟩
              case round =>
                obtain ⟨m, hm, rfl, rfl, rfl, hbx⟩ := hrel
                have r2 := (hbx.cell (lt_of_cell l2)).trans l2
                have hcl : cnt g ee (itemsTo ps m) ≤ 4096 := Nat.le_trans (cnt_le g ee _) (Nat.le_trans (itemsTo_len ps m) (by omega))
                by_cases hmn : m < n
                · obtain ⟨_, q1, q2, q3⟩ := HSA.out m hmn
                  have q1 := (hbel.cell (lt_of_cell q1)).trans q1
                  have q2 := (hbel.cell (lt_of_cell q2)).trans q2
                  have q3 := (hbel.cell (lt_of_cell q3)).trans q3
                  have q1 := (hbx.cell (lt_of_cell q1)).trans q1
                  have q2 := (hbx.cell (lt_of_cell q2)).trans q2
                  have q3 := (hbx.cell (lt_of_cell q3)).trans q3
                  have hdm := fun h => (hD m hmn h).1
                  have HIN : Hid _ := inner_no ps m k g ee
                  have HIY : Hid _ := inner_yes ps m g ee
                  have b2 : (m : Int) < (n : Int) := by omega
                  generalize hcn : cnt g ee (itemsTo ps m) = cn at *
                  generalize hfb : decide ((g, ee) ∉ itemsTo ps (min m k)) = fb at *
                  have HFB : Hid _ := hfb
                  clear hfb hcn
                  generalize ps m = F at *
                  obtain ⟨fa, fby, fe, fit⟩ := F
                  dsimp only at *
                  by_cases hh : fit = true ∧ fby = (g : Int) ∧ fe = ee
                  · obtain ⟨rfl, rfl, h3⟩ := hh
                    have hy := HIY.out rfl rfl h3
                    have HY : Hid _ := hy
                    rw [h3] at q2
                    clear HIN hdm hy HIY h3
                    by_cases hmk2 : m < k
                    · go_wp2_with fail
                      go_quiet (fail)
                      go_wp2_with fail
                      go_roundw
                      case rel => exact ⟨m + 1, by omega, by go_num, by rw [HY.out.1]; go_num, by rw [Nat.min_eq_left (by omega)]; simp [HY.out.2], draws hbx _⟩
                      case measure => simp [intOf]; omega
                    · go_wp2_with fail
                      go_quiet (fail)
                      go_wp2_with fail
                      go_roundw
                      case rel => exact ⟨m + 1, by omega, by go_num, by rw [HY.out.1]; go_num, by rw [← HFB.out, Nat.min_eq_right (by omega), Nat.min_eq_right (by omega)], draws hbx _⟩
                      case measure => simp [intOf]; omega
                  · have hno := HIN.out hh hdm
                    have HNOT : Hid _ := hno
                    clear HIN HIY hdm hno
                    cases fit with
                    | false =>
                      go_wp2_with fail
                      go_quiet (fail)
                      go_wp2_with fail
                      go_roundw
                      case rel => exact ⟨m + 1, by omega, by go_num, by rw [HNOT.out.1], by rw [← HFB.out]; simp only [HNOT.out.2], draws hbx _⟩
                      case measure => simp [intOf]; omega
                    | true =>
                      by_cases hby : fby = (g : Int)
                      · have hfe : ¬ fe = ee := fun h => hh ⟨rfl, hby, h⟩
                        subst hby
                        clear hh
                        go_wp2_with fail
                        go_quiet (fail)
                        go_wp2_with fail
                        go_roundw
                        case rel => exact ⟨m + 1, by omega, by go_num, by rw [HNOT.out.1], by rw [← HFB.out]; simp only [HNOT.out.2], draws hbx _⟩
                        case measure => simp [intOf]; omega
                      · clear hh
                        go_wp2_with fail
                        go_quiet (fail)
                        go_wp2_with fail
                        go_roundw
                        case rel => exact ⟨m + 1, by omega, by go_num, by rw [HNOT.out.1], by rw [← HFB.out]; simp only [HNOT.out.2], draws hbx _⟩
                        case measure => simp [intOf]; omega
                · obtain rfl : n = m := by omega
                  have hbw := hbel.trans (hbx.mono hbel.size)
                  have hnd2 := hnd.of_block (hbx.block _ hnd.lt)
                  have hpo2 := hpo.of_block (hbx.block _ hpo.lt)
                  rw [Nat.min_eq_right (show k ≤ n by omega)]
                  by_cases hin : (g, ee) ∈ itemsTo ps k
                  · have hf : decide ((g, ee) ∉ itemsTo ps k) = false := by simp [hin]
                    rw [hf]
                    go_wp2_with fail
                    go_roundw
                    case rel => exact ⟨k + 1, by omega, by go_num, hnd2.congr (fun g' _ => HOLD2.out g' hin), hpo2.congr (fun g' _ => HOLD2.out g' hin), hbw⟩
                    case measure => simp [intOf]; omega
                  · have hf : decide ((g, ee) ∉ itemsTo ps k) = true := by simp [hin]
                    rw [hf]
                    have S0 := HS.out (g * 3) (by omega)
                    have S1 := HS.out (g * 3 + 1) (by omega)
                    have S2 := HS.out (g * 3 + 2) (by omega)
                    rw [XOf0] at S0
                    rw [XOf1] at S1
                    rw [XOf2] at S2
                    have hmem : ee ∈ esOf g (itemsTo ps n) := (mem_es _ _ _).2 (by rw [HRS.out]; simp)
                    have hsort := es_sorted g (itemsTo ps n)
                    have hlow := low_get ee _ hsort hmem
                    have hfst := low_first ee _ hsort hmem
                    have hcs := cs_getD t g (itemsTo ps n) _ hlow.1
                    rw [hlow.2] at hcs
                    have hclen := cs_length t g (itemsTo ps n)
                    have htlen := len_es_ts g (itemsTo ps n)
                    have hnx := ts_next g ee (itemsTo ps k) rest (fun h => hin ((mem_ts _ _ _).1 h))
                    rw [← HRS.out] at hnx
                    have htl : (tsOf g (itemsTo ps n)).length ≤ 4096 := Nat.le_trans (ts_len g _) (Nat.le_trans (itemsTo_len ps n) hn)
                    have HW : Hid _ := fun g' => HNEW2.out g' hin
                    have e0 : wr.cell? ⟨w1.heap.size, g, none⟩ = some (.int .i64 ((tsOf g (itemsTo ps k)).length : Nat)) := hnd2.cell (by omega)
                    have e1 : wr.cell? ⟨w1.heap.size + 1, g, none⟩ = some (.int .i64 ((tsOf g (itemsTo ps k)).length : Nat)) := hpo2.cell (by omega)
                    have f0 := hnd2.frozen g
                    have f1 := hpo2.frozen g
                    clear hnd hpo HOLD2 HNEW2 hf hin hmem hsort l1 l3
                    generalize esOf g (itemsTo ps n) = es at *
                    generalize csOf t g (itemsTo ps n) = cs at *
                    generalize tsOf g (itemsTo ps n) = ts at *
                    generalize cnt g ee (itemsTo ps n) = cn at *
                    generalize lowOf ee es = p at *
                    generalize hq : (tsOf g (itemsTo ps k)).length = q at *
                    clear hq
                    obtain ⟨eo, ec, s0, i0⟩ := S0
                    obtain ⟨co, cc, s1, i1⟩ := S1
                    obtain ⟨to, tc, s2, i2⟩ := S2
                    have hb2 : ∀ v, Below w1.heap.size w1 (wr.setCell ⟨w1.heap.size, g, none⟩ v) := fun v => hbw.setCell (show w1.heap.size ≤ _ from Nat.le_refl _) v
                    have g0 : (g : Int) < (M : Int) + 1 := by omega
                    have hq1 : (q : Int) < (ts.length : Int) := by omega
                    go_wp2_with fail
                    have hbW := hb2 (.int .i64 ((q : Int) + 1))
                    have hndW := hnd2.set g (.int .i64 ((q : Int) + 1))
                    have hpoW := hpo2.setOther (a := ⟨w1.heap.size, g, none⟩) (show w1.heap.size + 1 ≠ w1.heap.size by omega) (.int .i64 ((q : Int) + 1))
                    have hndW := hndW.congr (fun g' _ => HW.out g')
                    have e1W := hpoW.cell (i := g) (by omega)
                    have e1X : ndOf ps k g = .int .i64 (q : Nat) := by have := hpo2.cell (i := g) (by omega); rw [e1] at this; exact (Option.some.inj this).symm
                    rw [e1X] at e1W
                    have f1W := hpoW.frozen g
                    generalize wr.setCell ⟨w1.heap.size, g, none⟩ (.int .i64 ((q : Int) + 1)) = wy at *
                    clear hb2 hnd2 e0 f0 e1 f1 hbw
                    have hrW := (hbW.cell (lt_of_cell hr0)).trans hr0
                    have s0W := (hbW.cell (lt_of_cell s0)).trans s0
                    have s1W := (hbW.cell (lt_of_cell s1)).trans s1
                    have s2W := (hbW.cell (lt_of_cell s2)).trans s2
                    have j0 := i0.below hbW
                    have j1 := i1.below hbW
                    have j2 := i2.below hbW
                    obtain ⟨_, _, c2, _⟩ := HSA.out k hlt
                    rw [HEP.out] at c2
                    have l2W := (hbW.cell (lt_of_cell c2)).trans c2
                    clear s0 s1 s2 c2 l2 i0 i1 i2
                    rcases j1 with j1 | ⟨cb, rfl, j1⟩
                    · exfalso; rw [j1] at hclen; simp at hclen; omega
                    rcases j2 with j2 | ⟨tb, rfl, j2⟩
                    · exfalso; rw [j2] at hq1; simp at hq1; omega
                    have c1 := j1 p (by omega)
                    have c2 := j2 q (by omega)
                    rw [hcs] at c1
                    rw [hnx.2] at c2
                    have hmb : ((t * cn : Nat) : Int) = (t : Int) * (cn : Int) := by simp
                    rw [hmb] at c1
                    have hP0 : (0 : Int) ≤ (t : Int) * (cn : Int) := by rw [← hmb]; omega
                    have hP1 : (t : Int) * (cn : Int) ≤ 8192 := by
                      rw [← hmb]
                      have := Nat.mul_le_mul ht hcl
                      omega
                    have hcl2 : cs.length ≤ 4096 := by omega
                    have hpc : (p : Int) < (cs.length : Int) := by omega
                    have hes : es.length ≤ 65536 := by omega
                    rw [hclen, htlen] at s1W hpc hcl2
                    rw [htlen] at s0W hes
                    have HTL : Hid _ := htlen
                    clear hclen htlen
                    generalize ts.length = tl at *
                    clear j1 j2 hcs hmb
                    have HFST : Hid _ := hfst
                    have HLW : Hid _ := hlow
                    have HI0 : Hid _ := j0
                    clear hfst j0 hnx
                    refine (epochs_get _ rb gb g (M + 1) gcap _ hrW (by omega) s0W).mono ?_
                    rintro en w2 ⟨rfl, rfl⟩
                    go_wp2_with fail
                    refine (counts_get _ rb gb g (M + 1) gcap _ hrW (by omega) s1W).mono ?_
                    rintro en w3 ⟨rfl, rfl⟩
                    go_wp2_with fail
                    refine (indexOf_len _ eo es ec tl ee p HTL.out hes HI0.out (by omega) HLW.out.2 HFST.out).mono ?_
                    rintro en w4 ⟨rfl, rfl⟩
                    go_wp2_with fail
                    refine (toggled_get _ rb gb g (M + 1) gcap _ hrW (by omega) s2W).mono ?_
                    rintro en w5 ⟨rfl, rfl⟩
                    have hq2 : ¬ ((tl : Int) ≤ (q : Int)) := by omega
                    have hq3 : ¬ (tl ≤ q) := by omega
                    have hq4 : q < tl := by omega
                    go_wp2_with fail
                    go_quiet (fail)
                    go_wp2_with fail
                    go_roundw
                    case rel =>
                      have hpoD := fun d => hpoW.of_block (w' := w5.drewN d) rfl
                      have hndD := fun d => hndW.of_block (w' := w5.drewN d) rfl
                      exact ⟨k + 1, by omega, by go_num, (hndD _).setOther (show w1.heap.size ≠ w1.heap.size + 1 by omega) _, ((hpoD _).set g _).congr (fun g' _ => HW.out g'), (draws hbW _).setCell (show w1.heap.size ≤ w1.heap.size + 1 by omega) _⟩
                    case measure => simp [intOf]; omega
          · obtain rfl : n = k := by omega
            clear hlt hk
            go_wp2_with fail
            go_loopw [21] (fun i wr => ∃ g : Nat, g ≤ M + 1 ∧ i = .int .i64 g ∧ wr.rowIs w1.heap.size 3 (M + 1) (ndOf ps n) ∧ Below w1.heap.size w1 wr) (fun i _ => M + 1 - (intOf i).toNat)
            case atStart => exact ⟨0, Nat.zero_le _, rfl, hnd, hbel⟩
            case round =>
              clear hnd hpo hbel
              obtain ⟨g, hg, rfl, hnd, hbel⟩ := hrel
              by_cases hlt : g < M + 1
              · have S0 := HS.out (g * 3) (by omega)
                have S1 := HS.out (g * 3 + 1) (by omega)
                have S2 := HS.out (g * 3 + 2) (by omega)
                rw [XOf0, len_es_ts] at S0
                rw [XOf1, cs_length, len_es_ts] at S1
                rw [XOf2] at S2
                have hsort := es_sorted g (itemsTo ps n)
                have HLE : Hid _ := len_es_ts g (itemsTo ps n)
                have htl : (tsOf g (itemsTo ps n)).length ≤ 4096 := Nat.le_trans (ts_len g _) (Nat.le_trans (itemsTo_len ps n) hn)
                have e0 : wr.cell? ⟨w1.heap.size, g, none⟩ = some (.int .i64 ((tsOf g (itemsTo ps n)).length : Nat)) := hnd.cell (by omega)
                obtain ⟨eo, ec, s0, i0⟩ := S0
                obtain ⟨co, cc, s1, i1⟩ := S1
                obtain ⟨to, tc, s2, i2⟩ := S2
                have hrW := (hbel.cell (lt_of_cell hr0)).trans hr0
                have s0W := (hbel.cell (lt_of_cell s0)).trans s0
                have s1W := (hbel.cell (lt_of_cell s1)).trans s1
                have s2W := (hbel.cell (lt_of_cell s2)).trans s2
                have j0 := i0.below hbel
                clear s0 s1 s2 i0 i1 i2
                generalize tsOf g (itemsTo ps n) = ts at *
                generalize esOf g (itemsTo ps n) = es at *
                generalize ts.length = tl at *
                have HSO : Hid _ := hsort
                have HJ0 : Hid _ := j0
                clear hsort j0
                have g0 : (g : Int) < (M : Int) + 1 := by omega
                have g1 : (g : Int) ≤ (M : Int) := by omega
                go_wp2_with fail
                refine (epochs_get _ rb gb g (M + 1) gcap _ hrW (by omega) s0W).mono ?_
                rintro en w2 ⟨rfl, rfl⟩
                go_wp2_with fail
                go_quiet (first | (go_at_call 16; exact Calls.quiet_of_same (counts_get _ rb gb g (M + 1) gcap _ hrW (by omega) s1W)) | (go_at_call 17; exact Calls.quiet_of_same (toggled_get _ rb gb g (M + 1) gcap _ hrW (by omega) s2W)))
                go_wp2_with fail
                go_loopw [23] (fun i wr => ∃ m : Nat, 1 ≤ m ∧ (m ≤ tl ∨ m = 1) ∧ i = .int .i64 m ∧ Below w2.heap.size w2 wr) (fun i _ => tl - (intOf i).toNat)
                case atStart => exact ⟨1, Nat.le_refl _, .inr rfl, rfl, draws (Below.refl _ _) _⟩
                case round =>
                  obtain ⟨m, hm1, hm2, rfl, hbx⟩ := hrel
                  by_cases hmt : m < tl
                  · obtain ⟨m', rfl⟩ : ∃ m', m = m' + 1 := ⟨m - 1, by omega⟩
                    rcases HJ0.out with j0 | ⟨eb, rfl, j0⟩
                    · exfalso; have := HLE.out; rw [j0] at this; simp at this; omega
                    have hlen := HLE.out
                    have a0 := j0 m' (by omega)
                    have a1 := j0 (m' + 1) (by omega)
                    have a0 := (hbx.cell (lt_of_cell a0)).trans a0
                    have a1 := (hbx.cell (lt_of_cell a1)).trans a1
                    have hlt2 : es.getD m' 0 < es.getD (m' + 1) 0 := by
                      have := List.pairwise_iff_getElem.1 HSO.out m' (m' + 1) (by omega) (by omega) (by omega)
                      simpa [List.getD, show m' < es.length by omega, show m' + 1 < es.length by omega] using this
                    generalize es.getD m' 0 = y0 at *
                    generalize es.getD (m' + 1) 0 = y1 at *
                    have b5 : ((m' + 1 : Nat) : Int) = (m' : Int) + 1 := by omega
                    have b6 : (m' : Int) + 1 < (tl : Int) := by omega
                    have b7 : (m' : Int) < (tl : Int) := by omega
                    have b8 : ¬ (y1 ≤ y0) := by omega
                    rw [b5]
                    clear hlen j0
                    go_wp2_with fail
                    go_quiet (fail)
                    go_wp2_with fail
                    go_roundw
                    case rel => exact ⟨m' + 1 + 1, by omega, by omega, by go_num, draws hbx _⟩
                    case measure => simp [intOf]; omega
                  · have b6 : ¬ ((m : Int) < (tl : Int)) := by omega
                    go_wp2_with fail
                    go_roundw
                    case rel => exact ⟨g + 1, by omega, by go_num, hnd.of_block (hbx.block _ hnd.lt), hbel.trans (hbx.mono hbel.size)⟩
                    case measure => simp [intOf]; omega
              · obtain rfl : g = M + 1 := by omega
                go_wp2_with fail
                go_ret
                exact ⟨rfl, hbel⟩

end Go.Proofs.Qxb6628283a
