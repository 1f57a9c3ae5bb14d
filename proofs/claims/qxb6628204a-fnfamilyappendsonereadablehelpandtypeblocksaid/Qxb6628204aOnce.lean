import Derived.Test.Qxb6628204aSeg
import Derived.Test.Qxb6628204aTwice
namespace Go.Proofs.Qxb6628204a
open Go.RowKit Go.Lib
set_option linter.unusedVariables false

theorem gather4 {w w1 w2 w3 w4 : World} {vo1 vo2 : Option Addr} {n vc1 vc2 p1 N1 g4 c4 : Nat} {zs z4 : List Int} {f n1 : ByteArray}
    (own1 : w1.ownsRow w.heap.size 5 1 (.slice vo1 n vc1) n (zs.map (Value.int .u8))) (bel1 : Below w.heap.size w w1)
    (own2 : w2.ownsRow w1.heap.size 5 1 (.slice vo2 n vc2) n (zs.map (Value.int .u8))) (bel2 : Below w1.heap.size w1 w2)
    (fr1 : Fresh w2 w3 p1 (.slice vo1 n vc1) f)
    (st4 : St w3 p1 w.heap.size (Value.slice vo1 n vc1).ownBlock w4 (.slice (some ⟨g4, 0, none⟩) N1 c4) N1 (z4.map (Value.int .u8)) n1) :
    Below w.heap.size w w4 ∧ w4.ownsRow w1.heap.size 5 1 (.slice vo2 n vc2) n (zs.map (Value.int .u8)) := by
  have e1 := fr1.eq
  have hs1 := bel1.size
  have hs2 := bel2.size
  have hs3 := fr1.size
  have hs4 := st4.size
  refine ⟨?_, ?_⟩
  · exact bel1.trans ((bel2.mono hs1).trans ((fr1.below _ (by omega)).trans (st4.below _ (by omega) (by omega) (fun g hg => (own1.lt g hg).1))))
  · have o3 := own_fresh fr1 own2
    exact owns_same o3 fun g hg => by
      have hb := own2.lt g hg
      refine st4.blk g (by omega) (by omega) (fun e => ?_)
      have := (own1.lt g e.symm).2
      omega

theorem own_cap {w : World} {B n c : Nat} {ao : Option Addr} {xs : List Value} (h : w.ownsRow B 5 1 (.slice ao n c) n xs) : n ≤ c ∧ c ≤ maxLen := by
  rcases h.2 with ⟨hv, h0⟩ | ⟨g, cap, cur, hv, _, _, h1, h2, _⟩
  · simp at hv
    obtain ⟨_, rfl, rfl⟩ := hv
    exact ⟨Nat.le_refl _, Nat.zero_le _⟩
  · simp at hv
    obtain ⟨_, rfl⟩ := hv
    exact ⟨h1, h2⟩

set_option maxHeartbeats 3200000 in
set_option maxRecDepth 100000 in
theorem once_in (w : World) (a0 : Option Addr) (n cap : Nat) (zs : List Int) (f n1 k1 h1 : ByteArray)
    (hrow : (a0 = none ∧ n = 0 ∧ cap = 0 ∧ zs = []) ∨ ∃ x, a0 = some x ∧ zs.length = n ∧ ∀ i, i < n → w.cell? (x.add i) = some (.int .u8 (zs.getD i 0)))
    (b0 : n ≤ 65536) (b1 : f.size ≤ 65536) (b2 : n1.size ≤ 65536) (b3 : k1.size ≤ 65536) (b4 : h1.size ≤ 65536) :
    Calls Try.prog 3 #[.slice a0 n cap, .string f, .string n1, .string k1, .string h1] w fun e w' => e = .returned (.bool true) ∧ Below w.heap.size w w' := by
  have HR : Hid _ := hrow
  clear hrow
  obtain ⟨N1, hN1⟩ : ∃ N, Hid (n + (18 + 2 * n1.size + k1.size + h1.size) = N) := ⟨_, rfl⟩
  obtain ⟨NA, hNA⟩ : ∃ N, Hid (0 + (18 + 2 * n1.size + k1.size + h1.size) = N) := ⟨_, rfl⟩
  have bN1 : N1 ≤ 1000000 := by have := hN1.out; omega
  have bNA : NA ≤ 1000000 := by have := hNA.out; omega
  obtain ⟨x1, hx1⟩ : ∃ b, Hid (hasB n1 32 = b) := ⟨_, rfl⟩
  obtain ⟨x2, hx2⟩ : ∃ b, Hid (hasB n1 10 = b) := ⟨_, rfl⟩
  obtain ⟨x3, hx3⟩ : ∃ b, Hid (hasB k1 10 = b) := ⟨_, rfl⟩
  obtain ⟨x4, hx4⟩ : ∃ b, Hid (hasB h1 10 = b) := ⟨_, rfl⟩
  go_enter Try.func3, Try.ntmps3
  go_wp2_with fail
  refine (bytes1_any w a0 n cap f n1 k1 h1 (by unfold maxLen; omega) (by unfold maxLen; omega) (by unfold maxLen; omega) (by unfold maxLen; omega) (by unfold maxLen; omega)).mono ?_
  rintro e w' ⟨⟨b, rfl⟩, rfl⟩
  cases b with
  | false =>
    go_wp2
    go_ret
    exact ⟨rfl, Below.refl _ _⟩
  | true =>
  go_wp2_with fail
  refine (hasByte_any n1 32 w' b2).mono ?_
  rintro e w1 ⟨rfl, rfl⟩
  rw [hx1.out]
  cases x1 with
  | true =>
    go_wp2
    go_ret
    exact ⟨rfl, Below.refl _ _⟩
  | false =>
  go_wp2_with fail
  refine (hasByte_any n1 10 w1 b2).mono ?_
  rintro e w2 ⟨rfl, rfl⟩
  rw [hx2.out]
  cases x2 with
  | true =>
    go_wp2
    go_ret
    exact ⟨rfl, Below.refl _ _⟩
  | false =>
  go_wp2_with fail
  refine (hasByte_any k1 10 w2 b3).mono ?_
  rintro e w3 ⟨rfl, rfl⟩
  rw [hx3.out]
  cases x3 with
  | true =>
    go_wp2
    go_ret
    exact ⟨rfl, Below.refl _ _⟩
  | false =>
  go_wp2_with fail
  refine (hasByte_any h1 10 w3 b4).mono ?_
  rintro e w0 ⟨rfl, rfl⟩
  rw [hx4.out]
  cases x4 with
  | true =>
    go_wp2
    go_ret
    exact ⟨rfl, Below.refl _ _⟩
  | false =>
  go_wp2_with fail
  refine (clone_any w0 a0 n cap zs (by omega) HR.out).mono ?_
  rintro e w1 ⟨vo1, vc1, rfl, own1, bel1⟩
  go_wp2_with fail
  refine (clone_own w1 w0.heap.size vo1 n vc1 zs (by omega) own1).mono ?_
  rintro e w2 ⟨vo2, vc2, rfl, own2, bel2⟩
  go_wp2_with fail
  refine (newPage_fresh w2 vo1 n vc1 f).mono ?_
  rintro e w3 ⟨p1, rfl, fr1⟩
  have hs1 := bel1.size
  have hs2 := bel2.size
  have hs3 := fr1.size
  have lt1 : ∀ g, (Value.slice vo1 n vc1).ownBlock = some g → g < w1.heap.size := fun g hg => (own1.lt g hg).2
  have own1' : w3.ownsRow w0.heap.size 5 1 (.slice vo1 n vc1) n (zs.map (Value.int .u8)) := own_fresh fr1 (own_below bel2 own1 lt1)
  go_wp2_with fail
  refine (family_z w3 p1 w0.heap.size n N1 vo1 vc1 zs f n1 k1 h1 fr1.page own1' (by omega) (by omega) b2 b3 b4 hN1.out).mono ?_
  rintro e w4 ⟨rfl, g4, c4, st4⟩
  have hs4 := st4.size
  go_wp2_with fail
  refine (newPage_fresh w4 none 0 0 ⟨#[]⟩).mono ?_
  rintro e w6 ⟨p2, rfl, fr2⟩
  have hs6 := fr2.size
  go_wp2_with fail
  refine (family_z w6 p2 w6.heap.size 0 NA none 0 [] _ n1 k1 h1 fr2.page (World.ownsRow_nil _ _ _ _) (Nat.le_refl _) (by omega) b2 b3 b4 hNA.out).mono ?_
  rintro e w7 ⟨rfl, g7, c7, st7⟩
  have hs7 := st7.size
  obtain ⟨belA, ownB⟩ := gather4 own1 bel1 own2 bel2 fr1 st4
  have bel47 := below_page fr2 st7
  have pg1 := (bel47.block p1 st4.lt).trans st4.page
  have pg2 := st7.page
  have rdG : Rd w7 (some ⟨g4, 0, none⟩) (zs ++ famZ n1 k1 h1) := rd_of_own (own_below bel47 st4.own (fun g hg => (st4.own.lt g hg).2))
  have rdB : Rd w7 vo2 zs := rd_of_own (own_below bel47 ownB (fun g hg => (ownB.lt g hg).2))
  have rdT : Rd w7 (some ⟨g7, 0, none⟩) (famZ n1 k1 h1) := rd_of_own st7.own
  have BEL : Below w0.heap.size w0 w7 := belA.trans (bel47.mono (by omega))
  have LZ : Hid (zs.length = n) := by show _ = _; simpa using own1.1
  have CAP : Hid (NA ≤ c7 ∧ c7 ≤ maxLen) := own_cap st7.own
  have PG1 := show Hid _ from pg1
  have PG2 := show Hid _ from pg2
  clear own1 own2 bel1 bel2 fr1 st4 fr2 st7 belA ownB bel47 own1' lt1
  clear pg1 pg2 HR
  clear hs1 hs2 hs3 hs4 hs6 hs7
  go_wp2_with fail
  refine (pageText_any w7 p1 _ _ _ _ PG1.out).mono ?_
  rintro e w10 ⟨rfl, rfl⟩
  go_wp2_with fail
  refine (pageText_any w10 p2 _ _ _ _ PG2.out).mono ?_
  rintro e w11 ⟨rfl, rfl⟩
  go_wp2_with fail
  refine (concat_any w11 _ _ _ none _ _ _ [] _ _ _ 0 _ _ _ 0 rdG rdB rdT (fun h => absurd h (Nat.not_lt_zero _)) ?_ LZ.out ?_ rfl (by simp) (by omega) (by omega) (by omega)).mono ?_
  · have := hN1.out; have := LZ.out; simp only [List.length_append, famZ_length]; omega
  · rw [famZ_length]; have := hNA.out; omega
  rintro e w13 ⟨rfl, q, rfl⟩
  go_wp2_with fail
  refine (pageFamily_any (w11.drewN q) p1 _ _ PG1.out).mono ?_
  rintro e w14 ⟨rfl, rfl⟩
  go_wp2_with fail
  refine (pageFamily_any (w11.drewN q) p2 _ _ PG2.out).mono ?_
  rintro e w15 ⟨rfl, rfl⟩
  go_wp2_with fail
  refine (read_fam (w11.drewN q) g7 NA c7 n1 k1 h1 rdT (by have := hNA.out; omega) CAP.out.1 CAP.out.2 b2 b3 b4 hx1.out hx4.out hx3.out).mono ?_
  rintro e w16 ⟨rfl, q2, rfl⟩
  go_wp2
  go_ret
  exact ⟨rfl, BEL.os, BEL.tape, BEL.output, BEL.size, BEL.block⟩

set_option maxHeartbeats 3200000 in
set_option maxRecDepth 100000 in
theorem once_out (w : World) (a0 : Option Addr) (n cap : Nat) (f n1 k1 h1 : ByteArray)
    (m0 : n ≤ maxLen) (m1 : f.size ≤ maxLen) (m2 : n1.size ≤ maxLen) (m3 : k1.size ≤ maxLen) (m4 : h1.size ≤ maxLen)
    (hout : 65536 < n ∨ (n ≤ 65536 ∧ 65536 < f.size) ∨ (n ≤ 65536 ∧ f.size ≤ 65536 ∧ 65536 < n1.size) ∨ (n ≤ 65536 ∧ f.size ≤ 65536 ∧ n1.size ≤ 65536 ∧ 65536 < k1.size) ∨
      (n ≤ 65536 ∧ f.size ≤ 65536 ∧ n1.size ≤ 65536 ∧ k1.size ≤ 65536 ∧ 65536 < h1.size)) :
    Calls Try.prog 3 #[.slice a0 n cap, .string f, .string n1, .string k1, .string h1] w fun e w' => e = .returned (.bool true) ∧ Below w.heap.size w w' := by
  rcases hout with h | ⟨_, h⟩ | ⟨_, _, h⟩ | ⟨_, _, _, h⟩ | ⟨_, _, _, _, h⟩
  all_goals
    go_enter Try.func3, Try.ntmps3
    go_wp2_with fail
    refine (bytes1_any w a0 n cap f n1 k1 h1 m0 m1 m2 m3 m4).mono ?_
    rintro e w' ⟨⟨b, rfl⟩, rfl⟩
    unfold maxLen at m0 m1 m2 m3 m4
    cases b
    all_goals
      go_wp2
      go_ret
      exact ⟨rfl, Below.refl _ _⟩

end Go.Proofs.Qxb6628204a
