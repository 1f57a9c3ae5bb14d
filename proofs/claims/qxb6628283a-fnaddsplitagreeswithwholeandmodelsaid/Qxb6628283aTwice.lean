import Derived.Test.Qxb6628283aSays
import Derived.Test.Qxb6628283aAdd
namespace Go.Proofs.Qxb6628283a
open Go.RowKit
set_option linter.unusedVariables false
set_option linter.unusedSimpArgs false

theorem Fr.below {B rb : Nat} {w w' : World} (h : Fr B rb w w') (hB : B ≤ w.heap.size) (hrb : B ≤ rb) : Below B w w' :=
  ⟨h.os, h.tape, h.output, h.size, fun k hk => h.blk k (by omega) (.inl ⟨hk, by omega⟩)⟩

theorem rk_zero {w : World} {B rb : Nat} (h : w.heap[rb]? = some (.cells #[.slice none 0 0] 28 (0, 0))) (hB : B ≤ w.heap.size) : RkI w B rb [] :=
  ⟨.slice none 0 0, [], h, World.ownsRow_nil _ _ _ _, fun k v hv => by simp at hv, fun k k' v v' g hv => by simp at hv, hB⟩

theorem XOf_twice (a : List (Nat × Int)) : XOf 1 (a ++ a) = XOf 2 a := by
  funext k
  obtain ⟨g, hk⟩ := three k
  rcases hk with rfl | rfl | rfl
  · rw [XOf0, XOf0]; exact es_again g a a (fun p h => h)
  · rw [XOf1, XOf1]; exact cs_twice g a
  · rw [XOf2, XOf2]; exact ts_again g a a (fun p h => h)

theorem RkI.view {w : World} {B rb : Nat} {its : List (Nat × Int)} (h : RkI w B rb its) : View w rb (lenOf its) (XOf 1 its) := by
  obtain ⟨gv, vs, h⟩ := h
  exact h.view

theorem RkI.view2 {w : World} {B rb : Nat} {a : List (Nat × Int)} (h : RkI w B rb (a ++ a)) : View w rb (lenOf a) (XOf 2 a) := by
  have := h.view
  rwa [XOf_twice, len_again a a (fun p h => h)] at this

set_option maxHeartbeats 800000 in
set_option maxRecDepth 100000 in
theorem bytes4_in (w : World) (ao : Option Addr) (n cap : Nat) (h : n ≤ 1048576) :
    Calls Try.prog 10 #[.slice ao n cap] w fun en w' => en = .returned (.bool true) ∧ w' = w := by
  go_enter Try.func10, Try.ntmps10
  go_wp2
  go_ret
  exact ⟨rfl, rfl⟩

set_option maxHeartbeats 800000 in
set_option maxRecDepth 100000 in
theorem bytes4_out (w : World) (ao : Option Addr) (n cap : Nat) (h : ¬ n ≤ 1048576) (hm : n ≤ maxLen) :
    Calls Try.prog 10 #[.slice ao n cap] w fun en w' => en = .returned (.bool false) ∧ w' = w := by
  have hb : (1048576 : Int) < (n : Int) := by omega
  go_enter Try.func10, Try.ntmps10
  go_wp2
  go_ret
  exact ⟨rfl, rfl⟩

set_option maxHeartbeats 800000 in
set_option maxRecDepth 100000 in
theorem twice_out (w : World) (ao : Option Addr) (n cap : Nat) (hm : n ≤ maxLen) (hn : ¬ n ≤ 4096) :
    Calls Try.prog 4 #[.slice ao n cap] w fun en w' => en = .returned (.bool true) ∧ Below w.heap.size w w' := by
  have hb : (4096 : Int) < (n : Int) := by omega
  by_cases hbig : n ≤ 1048576
  · go_enter Try.func4, Try.ntmps4
    go_wp2_with fail
    refine (bytes4_in _ ao n cap hbig).mono ?_
    rintro en w1 ⟨rfl, rfl⟩
    go_wp2_with fail
    go_ret
    exact ⟨rfl, Below.refl _ _⟩
  · go_enter Try.func4, Try.ntmps4
    go_wp2_with fail
    refine (bytes4_out _ ao n cap hbig hm).mono ?_
    rintro en w1 ⟨rfl, rfl⟩
    go_wp2_with fail
    go_ret
    exact ⟨rfl, Below.refl _ _⟩

theorem Dom.next {ps : Nat → Epr} {k : Nat} (h : Dom ps k) (hk : (ps k).item = true → 0 ≤ (ps k).by_ ∧ (ps k).by_ ≤ 65536) : Dom ps (k + 1) := by
  intro j hj
  by_cases hjk : j = k
  · subst hjk; exact hk
  · exact h j (by omega)

set_option maxHeartbeats 1600000 in
set_option maxRecDepth 100000 in
theorem twice_in (w : World) (ao : Option Addr) (n cap : Nat) (ps : Nat → Epr) (hn : n ≤ 4096) (hE : EpsAt w ao n ps) :
    Calls Try.prog 4 #[.slice ao n cap] w fun en w' => en = .returned (.bool true) ∧ Below w.heap.size w w' := by
  go_enter Try.func4, Try.ntmps4
  go_wp2_with fail
  refine (bytes4_in _ ao n cap (by omega)).mono ?_
  rintro en w1 ⟨rfl, rfl⟩
  go_wp2_with fail
  go_loopw [3] (fun i wr => ∃ k : Nat, k ≤ n ∧ i = .int .i64 k ∧ Dom ps k ∧ wr = w1) (fun i _ => n - (intOf i).toNat)
  case atStart => exact ⟨0, Nat.zero_le _, rfl, fun j hj => absurd hj (by omega), rfl⟩
  case round =>
    obtain ⟨k, hk, rfl, hD, rfl⟩ := hrel
    by_cases hlt : k < n
    · rcases hE with hE | ⟨x, rfl, hc⟩
      · omega
      obtain ⟨c0, c1, c2, c3⟩ := hc k hlt
      have hdk := hD.next
      have b1 : (k : Int) < (n : Int) := by omega
      clear hc c0 c2
      generalize ps k = E at *
      obtain ⟨ea, eby, ee, eit⟩ := E
      dsimp only at *
      cases eit with
      | false =>
        go_wp2_with fail
        go_roundw
        case rel => exact ⟨k + 1, by omega, by go_num, hdk (fun h => by cases h), trivial⟩
        case measure => simp [intOf]; omega
      | true =>
        by_cases h0 : eby < 0
        · go_wp2_with fail
          go_ret
          exact ⟨rfl, Below.refl _ _⟩
        · by_cases h1 : (65536 : Int) < eby
          · go_wp2_with fail
            go_ret
            exact ⟨rfl, Below.refl _ _⟩
          · have HD : Hid _ := hdk (fun _ => ⟨by omega, by omega⟩)
            clear hdk
            go_wp2_with fail
            go_roundw
            case rel => exact ⟨k + 1, by omega, by go_num, HD.out, trivial⟩
            case measure => simp [intOf]; omega
    · obtain rfl : n = k := by omega
      clear hlt hk
      go_wp2_with fail
      have HB : Hid _ := hD
      clear hD
      have hal : Below wr.heap.size wr (wr.alloc (.cells #[.slice none 0 0] 28)) := (Below.refl _ _).alloc (Nat.le_refl _) _
      have hnew : (wr.alloc (.cells #[.slice none 0 0] 28)).heap[wr.heap.size]? = some (.cells #[.slice none 0 0] 28 (0, 0)) := heap_alloc_new wr _
      have hsz : wr.heap.size < (wr.alloc (.cells #[.slice none 0 0] 28)).heap.size := lt_of_block hnew
      refine (pieceOf_any _ ao n cap ps hn (hE.below hal)).mono ?_
      rintro en w2 ⟨pp, eb, rfl, hp, hb2⟩
      have hr2 : RkI w2 wr.heap.size wr.heap.size [] := rk_zero ((hb2.block _ hsz).trans hnew) (by have := hb2.size; omega)
      have hbel2 : Below wr.heap.size wr w2 := hal.trans (hb2.mono (by omega))
      clear hal hnew hsz hb2
      have HP : Hid _ := hp
      have HR : Hid _ := hr2
      clear hp hr2
      go_wp2_with fail
      refine (add_any _ wr.heap.size wr.heap.size pp eb n ps [] HR.out HP.out HB.out hn (by simp) (by simp)).mono ?_
      rintro en w3 ⟨rfl, hr3, hf3⟩
      have HP3 : Hid _ := HP.out.fr hf3
      have hbel3 : Below wr.heap.size wr w3 := hbel2.trans (hf3.below hbel2.size (Nat.le_refl _))
      have HR3 : Hid (RkI w3 wr.heap.size wr.heap.size (itemsTo ps n)) := by have h := hr3; rwa [List.nil_append] at h
      clear HP HR hr3 hf3
      go_wp2_with fail
      refine (add_any _ wr.heap.size wr.heap.size pp eb n ps (itemsTo ps n) HR3.out HP3.out HB.out hn (by have := itemsTo_len ps n; omega) (itemsTo_dom ps n n (Nat.le_refl _) HB.out)).mono ?_
      rintro en w4 ⟨rfl, hr4, hf4⟩
      have hbel4 : Below wr.heap.size wr w4 := hbel3.trans (hf4.below hbel3.size (Nat.le_refl _))
      have HV : Hid _ := hr4.view2
      clear HP3 HR3 hr4 hf4
      go_wp2_with fail
      refine (matches_any _ wr.heap.size n cap 2 ao ps hn (by omega) (hE.below hbel4) HB.out HV.out).mono ?_
      rintro en w5 ⟨rfl, hb5⟩
      go_wp2_with fail
      go_ret
      exact ⟨rfl, hbel4.trans (hb5.mono hbel4.size)⟩

end Go.Proofs.Qxb6628283a
