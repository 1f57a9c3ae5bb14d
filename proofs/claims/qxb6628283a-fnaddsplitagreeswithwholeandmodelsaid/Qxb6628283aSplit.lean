import Derived.Test.Qxb6628283aTwice
import Derived.Test.Qxb6628283aSame
namespace Go.Proofs.Qxb6628283a
open Go.RowKit
set_option linter.unusedVariables false
set_option linter.unusedSimpArgs false

set_option maxHeartbeats 800000 in
set_option maxRecDepth 100000 in
theorem bytes3_in (w : World) (ao : Option Addr) (n cap : Nat) (z : Int) (h : n ≤ 1048576) :
    Calls Try.prog 5 #[.slice ao n cap, .int .i64 z] w fun en w' => en = .returned (.bool true) ∧ w' = w := by
  go_enter Try.func5, Try.ntmps5
  go_wp2
  go_ret
  exact ⟨rfl, rfl⟩

set_option maxHeartbeats 800000 in
set_option maxRecDepth 100000 in
theorem bytes3_out (w : World) (ao : Option Addr) (n cap : Nat) (z : Int) (h : ¬ n ≤ 1048576) (hm : n ≤ maxLen) :
    Calls Try.prog 5 #[.slice ao n cap, .int .i64 z] w fun en w' => en = .returned (.bool false) ∧ w' = w := by
  have hb : (1048576 : Int) < (n : Int) := by omega
  go_enter Try.func5, Try.ntmps5
  go_wp2
  go_ret
  exact ⟨rfl, rfl⟩

set_option maxHeartbeats 800000 in
set_option maxRecDepth 100000 in
theorem split_out (w : World) (ao : Option Addr) (n cap : Nat) (z : Int) (hm : n ≤ maxLen) (hn : ¬ n ≤ 4096) :
    Calls Try.prog 3 #[.slice ao n cap, .int .i64 z] w fun en w' => en = .returned (.bool true) ∧ Below w.heap.size w w' := by
  have hb : (4096 : Int) < (n : Int) := by omega
  by_cases hbig : n ≤ 1048576
  · go_enter Try.func3, Try.ntmps3
    go_wp2_with fail
    refine (bytes3_in _ ao n cap z hbig).mono ?_
    rintro en w1 ⟨rfl, rfl⟩
    go_wp2_with fail
    go_ret
    exact ⟨rfl, Below.refl _ _⟩
  · go_enter Try.func3, Try.ntmps3
    go_wp2_with fail
    refine (bytes3_out _ ao n cap z hbig hm).mono ?_
    rintro en w1 ⟨rfl, rfl⟩
    go_wp2_with fail
    go_ret
    exact ⟨rfl, Below.refl _ _⟩

set_option maxHeartbeats 800000 in
set_option maxRecDepth 100000 in
theorem split_off (w : World) (ao : Option Addr) (n cap : Nat) (z : Int) (hn : n ≤ 4096) (hz : z < 0 ∨ (n : Int) < z) :
    Calls Try.prog 3 #[.slice ao n cap, .int .i64 z] w fun en w' => en = .returned (.bool true) ∧ Below w.heap.size w w' := by
  by_cases h0 : z < 0
  · go_enter Try.func3, Try.ntmps3
    go_wp2_with fail
    refine (bytes3_in _ ao n cap z (by omega)).mono ?_
    rintro en w1 ⟨rfl, rfl⟩
    go_wp2_with fail
    go_ret
    exact ⟨rfl, Below.refl _ _⟩
  · have h1 : (n : Int) < z := by omega
    clear hz
    go_enter Try.func3, Try.ntmps3
    go_wp2_with fail
    refine (bytes3_in _ ao n cap z (by omega)).mono ?_
    rintro en w1 ⟨rfl, rfl⟩
    go_wp2_with fail
    go_ret
    exact ⟨rfl, Below.refl _ _⟩

/-- The two parts of a list. -/
theorem EpsAt.front {w : World} {ao : Option Addr} {n k : Nat} {ps : Nat → Epr} (h : EpsAt w ao n ps) (hk : k ≤ n) : EpsAt w ao k ps := by
  rcases h with h | ⟨x, rfl, hc⟩
  · exact .inl (by omega)
  · exact .inr ⟨x, rfl, fun j hj => hc j (by omega)⟩
theorem EpsAt.back {w : World} {ao : Option Addr} {n k : Nat} {ps : Nat → Epr} (h : EpsAt w ao n ps) : EpsAt w (Option.map (fun x => x.add (k * 4)) ao) (n - k) (fun j => ps (k + j)) := by
  by_cases hkn : n ≤ k
  · exact .inl (by omega)
  rcases h with h | ⟨x, rfl, hc⟩
  · exact .inl (by omega)
  · refine .inr ⟨x.add (k * 4), rfl, fun j hj => ?_⟩
    have e : (x.add (k * 4)).add (j * 4) = x.add ((k + j) * 4) := by rw [Addr.add_add]; congr 1; omega
    rw [e]
    exact hc (k + j) (by omega)

theorem Dom.front {ps : Nat → Epr} {n k : Nat} (h : Dom ps n) (hk : k ≤ n) : Dom ps k := fun j hj => h j (by omega)
theorem Dom.back {ps : Nat → Epr} {n k : Nat} (h : Dom ps n) (hk : k ≤ n) : Dom (fun j => ps (k + j)) (n - k) := fun j hj => h (k + j) (by omega)

theorem X_len (ps : Nat → Epr) (n t : Nat) (hn : n ≤ 4096) (k : Nat) : (XOf t (itemsTo ps n) k).length ≤ 65536 := by
  obtain ⟨g, hk⟩ := three k
  have h1 := ts_len g (itemsTo ps n)
  have h2 := itemsTo_len ps n
  have h3 := len_es_ts g (itemsTo ps n)
  rcases hk with rfl | rfl | rfl
  · rw [XOf0]; omega
  · rw [XOf1, cs_length]; omega
  · rw [XOf2]; omega

theorem its_parts (ps : Nat → Epr) (n k : Nat) (hk : k ≤ n) : itemsTo ps k ++ itemsTo (fun j => ps (k + j)) (n - k) = itemsTo ps n := by
  rw [← itemsTo_add]; congr 1; omega

theorem RkI.below {w w' : World} {B rb : Nat} {its : List (Nat × Int)} (h : RkI w B rb its) (hb : Below w.heap.size w w') : RkI w' B rb its := by
  obtain ⟨gv, vs, h⟩ := h
  exact ⟨gv, vs, h.same hb.size (hb.block _ (lt_of_block h.rank)) (fun g hg => hb.block g (own_block h.row hg).2.1) (fun k v g hv hg => hb.block g (own_block (h.own k v hv) hg).2.1)⟩

set_option maxHeartbeats 1600000 in
set_option maxRecDepth 100000 in
theorem split_in (w : World) (ao : Option Addr) (n cap k : Nat) (ps : Nat → Epr) (hn : n ≤ 4096) (hk : k ≤ n) (hE : EpsAt w ao n ps) (hnil : 0 < cap → ao ≠ none) (hnc : n ≤ cap) :
    Calls Try.prog 3 #[.slice ao n cap, .int .i64 k] w fun en w' => en = .returned (.bool true) ∧ Below w.heap.size w w' := by
  have hk1 : (k : Int) ≤ (n : Int) := by omega
  have hk2 : (k : Int) ≤ (cap : Int) := by omega
  have HNIL : Hid _ := hnil
  clear hnil
  go_enter Try.func3, Try.ntmps3
  go_wp2_with fail
  refine (bytes3_in _ ao n cap k (by omega)).mono ?_
  rintro en w1 ⟨rfl, rfl⟩
  go_wp2_with fail
  go_loopw [5] (fun i wr => ∃ m : Nat, m ≤ n ∧ i = .int .i64 m ∧ Dom ps m ∧ wr = w1) (fun i _ => n - (intOf i).toNat)
  case atStart => exact ⟨0, Nat.zero_le _, rfl, fun j hj => absurd hj (by omega), rfl⟩
  case round =>
    obtain ⟨m, hm, rfl, hD, rfl⟩ := hrel
    by_cases hlt : m < n
    · rcases hE with hE | ⟨x, rfl, hc⟩
      · omega
      obtain ⟨c0, c1, c2, c3⟩ := hc m hlt
      have hdk := hD.next
      have b1 : (m : Int) < (n : Int) := by omega
      clear hc c0 c2
      generalize ps m = E at *
      obtain ⟨ea, eby, ee, eit⟩ := E
      dsimp only at *
      cases eit with
      | false =>
        go_wp2_with fail
        go_roundw
        case rel => exact ⟨m + 1, by omega, by go_num, hdk (fun h => by cases h), trivial⟩
        case measure => simp [intOf]; omega
      | true =>
        by_cases h0 : eby < 0
        · go_wp2_with fail
          go_ret
          exact ⟨rfl, Below.refl _ _⟩
        · by_cases h1 : (65536 : Int) < eby
          · go_wp2_with fail
            go_ret
            exact ⟨rfl, Below.refl _ _⟩
          · have HD : Hid _ := hdk (fun _ => ⟨by omega, by omega⟩)
            clear hdk
            go_wp2_with fail
            go_roundw
            case rel => exact ⟨m + 1, by omega, by go_num, HD.out, trivial⟩
            case measure => simp [intOf]; omega
    · obtain rfl : n = m := by omega
      clear hlt hm
      go_wp2_with fail
      have HB : Hid (Dom ps n) := hD
      clear hD
      have hal : Below wr.heap.size wr (wr.alloc (.cells #[.slice none 0 0] 28)) := (Below.refl _ _).alloc (Nat.le_refl _) _
      have hnew : (wr.alloc (.cells #[.slice none 0 0] 28)).heap[wr.heap.size]? = some (.cells #[.slice none 0 0] 28 (0, 0)) := heap_alloc_new wr _
      have hsz : wr.heap.size < (wr.alloc (.cells #[.slice none 0 0] 28)).heap.size := lt_of_block hnew
      refine (pieceOf_any _ ao n cap ps hn (hE.below hal)).mono ?_
      rintro en w2 ⟨pp, eb, rfl, hp, hb2⟩
      have hr2 : RkI w2 wr.heap.size wr.heap.size [] := rk_zero ((hb2.block _ hsz).trans hnew) (by have := hb2.size; omega)
      have hbel2 : Below wr.heap.size wr w2 := hal.trans (hb2.mono (by omega))
      clear hal hnew hsz hb2
      have HP : Hid _ := hp
      have HR : Hid _ := hr2
      clear hp hr2
      go_wp2_with fail
      refine (add_any _ wr.heap.size wr.heap.size pp eb n ps [] HR.out HP.out HB.out hn (by simp) (by simp)).mono ?_
      rintro en w3 ⟨rfl, hr3, hf3⟩
      have hbel3 : Below wr.heap.size wr w3 := hbel2.trans (hf3.below hbel2.size (Nat.le_refl _))
      have HV : Hid (View w3 wr.heap.size (lenOf (itemsTo ps n)) (XOf 1 (itemsTo ps n))) := by have h := hr3.view; rwa [List.nil_append] at h
      clear HP HR hr3 hf3
      go_wp2_with fail
      have hal3 : Below w3.heap.size w3 (w3.alloc (.cells #[.slice none 0 0] 28)) := (Below.refl _ _).alloc (Nat.le_refl _) _
      have hnew3 : (w3.alloc (.cells #[.slice none 0 0] 28)).heap[w3.heap.size]? = some (.cells #[.slice none 0 0] 28 (0, 0)) := heap_alloc_new w3 _
      have hsz3 : w3.heap.size < (w3.alloc (.cells #[.slice none 0 0] 28)).heap.size := lt_of_block hnew3
      have HE3 : Hid (EpsAt w3 ao n ps) := hE.below hbel3
      refine (pieceOf_any _ ao k cap ps (by omega) ((HE3.out.below hal3).front hk)).mono ?_
      rintro en w4 ⟨p4, e4, rfl, hp4, hb4⟩
      have HR4 : Hid (RkI w4 w3.heap.size w3.heap.size []) := rk_zero ((hb4.block _ hsz3).trans hnew3) (by have := hb4.size; omega)
      have hbel4 : Below w3.heap.size w3 w4 := hal3.trans (hb4.mono (by omega))
      have HP4 : Hid _ := hp4
      clear hal3 hnew3 hsz3 hb4 hp4 hE
      go_wp2_with fail
      refine (add_any _ w3.heap.size w3.heap.size p4 e4 k ps [] HR4.out HP4.out (HB.out.front hk) (by omega) (by simp) (by simp)).mono ?_
      rintro en w5 ⟨rfl, hr5, hf5⟩
      have hbel5 : Below w3.heap.size w3 w5 := hbel4.trans (hf5.below hbel4.size (Nat.le_refl _))
      have HR5 : Hid (RkI w5 w3.heap.size w3.heap.size (itemsTo ps k)) := by have h := hr5; rwa [List.nil_append] at h
      clear HP4 HR4 hr5 hf5
      have HEP : Hid (EpsAt w5 ao n ps) := HE3.out.below hbel5
      have HDB : Hid (Dom (fun j => ps (k + j)) (n - k)) := HB.out.back hk
      have HIN : Hid (∀ p ∈ itemsTo ps k, p.1 ≤ 65536) := itemsTo_dom ps n k hk HB.out
      go_wp2_with fail
      all_goals
        refine (pieceOf_any _ _ (n - k) _ (fun j => ps (k + j)) (by omega) (by first | exact HEP.out.back | exact .inl (by omega))).mono ?_
        rintro en w6 ⟨p6, e6, rfl, hp6, hb6⟩
        have HR6 : Hid (RkI w6 w3.heap.size w3.heap.size (itemsTo ps k)) := HR5.out.below hb6
        have hbel6 : Below w3.heap.size w3 w6 := hbel5.trans (hb6.mono hbel5.size)
        have HP6 : Hid _ := hp6
        clear hp6 hb6
        go_wp2_with fail
        refine (add_any _ w3.heap.size w3.heap.size p6 e6 (n - k) (fun j => ps (k + j)) (itemsTo ps k) HR6.out HP6.out HDB.out (by omega) (by have := itemsTo_len ps k; omega) HIN.out).mono ?_
        rintro en w7 ⟨rfl, hr7, hf7⟩
        have hbel7 : Below w3.heap.size w3 w7 := hbel6.trans (hf7.below hbel6.size (Nat.le_refl _))
        rw [its_parts ps n k hk] at hr7
        have HV7 : Hid (View w7 w3.heap.size (lenOf (itemsTo ps n)) (XOf 1 (itemsTo ps n))) := hr7.view
        clear HP6 HR6 hr7 hf7
        go_wp2_with fail
        refine (sameRanking_any _ wr.heap.size w3.heap.size (lenOf (itemsTo ps n)) (XOf 1 (itemsTo ps n)) (HV.out.below hbel7) HV7.out (lenOf_le _ 65536 (itemsTo_dom ps n n (Nat.le_refl _) HB.out)) (X_len ps n 1 hn)).mono ?_
        rintro en w8 ⟨rfl, hb8⟩
        have hbel8 : Below w3.heap.size w3 w8 := hbel7.trans (hb8.mono hbel7.size)
        have HV8 : Hid (View w8 w3.heap.size (lenOf (itemsTo ps n)) (XOf 1 (itemsTo ps n))) := HV7.out.below hb8
        clear hb8 HV7
        go_wp2_with fail
        refine (matches_any _ w3.heap.size n _ 1 ao ps hn (by omega) (HE3.out.below hbel8) HB.out HV8.out).mono ?_
        rintro en w9 ⟨rfl, hb9⟩
        go_wp2_with fail
        go_ret
        exact ⟨rfl, hbel3.trans ((hbel8.trans (hb9.mono hbel8.size)).mono hbel3.size)⟩

end Go.Proofs.Qxb6628283a
