import Derived.Test.Qxb6628204aJoin
import Derived.Test.Qxb6628204aBytes
namespace Go.Proofs.Qxb6628204a
open Go.RowKit Go.Lib
set_option linter.unusedVariables false

theorem own_fresh {w w' : World} {pb : Nat} {tv : Value} {f : ByteArray} (h : Fresh w w' pb tv f) {B n : Nat} {v : Value} {xs : List Value} (ho : w.ownsRow B 5 1 v n xs) : w'.ownsRow B 5 1 v n xs :=
  owns_same ho (fun g hg => h.old g (ho.lt g hg).2)

theorem own_below {w w' : World} {B0 : Nat} (h : Below B0 w w') {B n : Nat} {v : Value} {xs : List Value} (ho : w.ownsRow B 5 1 v n xs) (hlt : ∀ g, v.ownBlock = some g → g < B0) : w'.ownsRow B 5 1 v n xs :=
  owns_same ho (fun g hg => h.block g (hlt g hg))

/-- Two blocks further on: behind a new page and Family on it all that was there is as it was. -/
theorem below_page {w w1 w2 : World} {p B n : Nat} {tv : Value} {f nm : ByteArray} {tv' : Value} {xs : List Value} (fr : Fresh w w1 p tv f) (st : St w1 p B none w2 tv' n xs nm) : Below w.heap.size w w2 := by
  have h1 := fr.below w.heap.size (Nat.le_refl _)
  have h2 := st.below w.heap.size (by have := fr.size; omega) (by have := fr.eq; omega) (fun g hg => by cases hg)
  exact h1.trans h2

/-- All that the two writings on the first page leave. -/
theorem gather5 {w w1 w2 w3 w4 w5 : World} {vo1 vo2 : Option Addr} {n vc1 vc2 p1 N1 N2 g4 c4 g5 c5 : Nat} {zs z4 z5 : List Int} {f n1 n2 : ByteArray}
    (own1 : w1.ownsRow w.heap.size 5 1 (.slice vo1 n vc1) n (zs.map (Value.int .u8))) (bel1 : Below w.heap.size w w1)
    (own2 : w2.ownsRow w1.heap.size 5 1 (.slice vo2 n vc2) n (zs.map (Value.int .u8))) (bel2 : Below w1.heap.size w1 w2)
    (fr1 : Fresh w2 w3 p1 (.slice vo1 n vc1) f)
    (st4 : St w3 p1 w.heap.size (Value.slice vo1 n vc1).ownBlock w4 (.slice (some ⟨g4, 0, none⟩) N1 c4) N1 (z4.map (Value.int .u8)) n1)
    (st5 : St w4 p1 w.heap.size (Value.slice (some ⟨g4, 0, none⟩) N1 c4).ownBlock w5 (.slice (some ⟨g5, 0, none⟩) N2 c5) N2 (z5.map (Value.int .u8)) n2) :
    Below w.heap.size w w5 ∧ w5.ownsRow w1.heap.size 5 1 (.slice vo2 n vc2) n (zs.map (Value.int .u8)) := by
  have e1 := fr1.eq
  have hs1 := bel1.size
  have hs2 := bel2.size
  have hs3 := fr1.size
  have hs4 := st4.size
  refine ⟨?_, ?_⟩
  · refine bel1.trans ((bel2.mono hs1).trans ((fr1.below _ (by omega)).trans ((st4.below _ (by omega) (by omega) ?_).trans (st5.below _ (by omega) (by omega) ?_))))
    · exact fun g hg => (own1.lt g hg).1
    · exact fun g hg => (st4.own.lt g hg).1
  · have o3 := own_fresh fr1 own2
    have lt2 : ∀ g, (Value.slice vo2 n vc2).ownBlock = some g → w1.heap.size ≤ g ∧ g < w2.heap.size := fun g hg => own2.lt g hg
    have o4 : w4.ownsRow w1.heap.size 5 1 (.slice vo2 n vc2) n (zs.map (Value.int .u8)) := owns_same o3 fun g hg => by
      have hb := lt2 g hg
      refine st4.blk g (by omega) (by omega) (fun e => ?_)
      have := (own1.lt g e.symm).2
      omega
    refine owns_same o4 fun g hg => ?_
    have hb := lt2 g hg
    refine st5.blk g (by omega) (by omega) (fun e => ?_)
    simp [Value.ownBlock] at e
    subst e
    rcases st4.lies g rfl with h | h
    · have := (own1.lt g h).2
      omega
    · omega

set_option maxHeartbeats 3200000 in
set_option maxRecDepth 100000 in
theorem twice_in (w : World) (a0 : Option Addr) (n cap : Nat) (zs : List Int) (f n1 k1 h1 n2 k2 h2 : ByteArray)
    (hrow : (a0 = none ∧ n = 0 ∧ cap = 0 ∧ zs = []) ∨ ∃ x, a0 = some x ∧ zs.length = n ∧ ∀ i, i < n → w.cell? (x.add i) = some (.int .u8 (zs.getD i 0)))
    (b0 : n ≤ 65536) (b1 : f.size ≤ 65536) (b2 : n1.size ≤ 65536) (b3 : k1.size ≤ 65536) (b4 : h1.size ≤ 65536) (b5 : n2.size ≤ 65536) (b6 : k2.size ≤ 65536) (b7 : h2.size ≤ 65536) :
    Calls Try.prog 4 #[.slice a0 n cap, .string f, .string n1, .string k1, .string h1, .string n2, .string k2, .string h2] w fun e w' => e = .returned (.bool true) ∧ Below w.heap.size w w' := by
  have HR : Hid _ := hrow
  clear hrow
  obtain ⟨N1, hN1⟩ : ∃ N, Hid (n + (18 + 2 * n1.size + k1.size + h1.size) = N) := ⟨_, rfl⟩
  obtain ⟨N2, hN2⟩ : ∃ N, Hid (N1 + (18 + 2 * n2.size + k2.size + h2.size) = N) := ⟨_, rfl⟩
  obtain ⟨NA, hNA⟩ : ∃ N, Hid (0 + (18 + 2 * n1.size + k1.size + h1.size) = N) := ⟨_, rfl⟩
  obtain ⟨NB, hNB⟩ : ∃ N, Hid (0 + (18 + 2 * n2.size + k2.size + h2.size) = N) := ⟨_, rfl⟩
  have bN1 : N1 ≤ 1000000 := by have := hN1.out; omega
  have bN2 : N2 ≤ 1000000 := by have := hN1.out; have := hN2.out; omega
  have bA1 : NA ≤ 18 + 2 * n1.size + k1.size + h1.size := by have := hNA.out; omega
  have bA2 : 18 + 2 * n1.size + k1.size + h1.size ≤ NA := by have := hNA.out; omega
  have bB1 : NB ≤ 18 + 2 * n2.size + k2.size + h2.size := by have := hNB.out; omega
  have bB2 : 18 + 2 * n2.size + k2.size + h2.size ≤ NB := by have := hNB.out; omega
  go_enter Try.func4, Try.ntmps4
  go_wp2_with fail
  refine (bytes2_any w a0 n cap f n1 k1 h1 n2 k2 h2 (by unfold maxLen; omega) (by unfold maxLen; omega) (by unfold maxLen; omega) (by unfold maxLen; omega) (by unfold maxLen; omega) (by unfold maxLen; omega) (by unfold maxLen; omega) (by unfold maxLen; omega)).mono ?_
  rintro e w' ⟨⟨b, rfl⟩, rfl⟩
  cases b with
  | false =>
    go_wp2
    go_ret
    exact ⟨rfl, Below.refl _ _⟩
  | true =>
  go_wp2_with fail
  refine (clone_any w' a0 n cap zs (by omega) HR.out).mono ?_
  rintro e w1 ⟨vo1, vc1, rfl, own1, bel1⟩
  go_wp2_with fail
  refine (clone_own w1 w'.heap.size vo1 n vc1 zs (by omega) own1).mono ?_
  rintro e w2 ⟨vo2, vc2, rfl, own2, bel2⟩
  go_wp2_with fail
  refine (newPage_fresh w2 vo1 n vc1 f).mono ?_
  rintro e w3 ⟨p1, rfl, fr1⟩
  have hs1 := bel1.size
  have hs2 := bel2.size
  have hs3 := fr1.size
  have lt1 : ∀ g, (Value.slice vo1 n vc1).ownBlock = some g → g < w1.heap.size := fun g hg => (own1.lt g hg).2
  have own1' : w3.ownsRow w'.heap.size 5 1 (.slice vo1 n vc1) n (zs.map (Value.int .u8)) := own_fresh fr1 (own_below bel2 own1 lt1)
  go_wp2_with fail
  refine (family_z w3 p1 w'.heap.size n N1 vo1 vc1 zs f n1 k1 h1 fr1.page own1' (by omega) (by omega) b2 b3 b4 hN1.out).mono ?_
  rintro e w4 ⟨rfl, g4, c4, st4⟩
  have hs4 := st4.size
  go_wp2_with fail
  refine (family_z w4 p1 w'.heap.size N1 N2 (some ⟨g4, 0, none⟩) c4 _ n1 n2 k2 h2 st4.page st4.own (by omega) (by omega) b5 b6 b7 hN2.out).mono ?_
  rintro e w5 ⟨rfl, g5, c5, st5⟩
  have hs5 := st5.size
  go_wp2_with fail
  refine (newPage_fresh w5 none 0 0 ⟨#[]⟩).mono ?_
  rintro e w6 ⟨p2, rfl, fr2⟩
  have hs6 := fr2.size
  go_wp2_with fail
  refine (family_z w6 p2 w6.heap.size 0 NA none 0 [] _ n1 k1 h1 fr2.page (World.ownsRow_nil _ _ _ _) (Nat.le_refl _) (by omega) b2 b3 b4 hNA.out).mono ?_
  rintro e w7 ⟨rfl, g7, c7, st7⟩
  have hs7 := st7.size
  go_wp2_with fail
  refine (newPage_fresh w7 none 0 0 ⟨#[]⟩).mono ?_
  rintro e w8 ⟨p3, rfl, fr3⟩
  have hs8 := fr3.size
  go_wp2_with fail
  refine (family_z w8 p3 w8.heap.size 0 NB none 0 [] _ n2 k2 h2 fr3.page (World.ownsRow_nil _ _ _ _) (Nat.le_refl _) (by omega) b5 b6 b7 hNB.out).mono ?_
  rintro e w9 ⟨rfl, g9, c9, st9⟩
  have hs9 := st9.size
  obtain ⟨belA, ownB⟩ := gather5 own1 bel1 own2 bel2 fr1 st4 st5
  have bel57 := below_page fr2 st7
  have bel79 := below_page fr3 st9
  have bel59 : Below w5.heap.size w5 w9 := bel57.trans (bel79.mono (by omega))
  have pg1 := (bel59.block p1 st5.lt).trans st5.page
  have pg2 := (bel79.block p2 st7.lt).trans st7.page
  have pg3 := st9.page
  have rdG : Rd w9 (some ⟨g5, 0, none⟩) (zs ++ famZ n1 k1 h1 ++ famZ n2 k2 h2) := rd_of_own (own_below bel59 st5.own (fun g hg => (st5.own.lt g hg).2))
  have rdB : Rd w9 vo2 zs := rd_of_own (own_below bel59 ownB (fun g hg => (ownB.lt g hg).2))
  have rdT : Rd w9 (some ⟨g7, 0, none⟩) (famZ n1 k1 h1) := rd_of_own (own_below bel79 st7.own (fun g hg => (st7.own.lt g hg).2))
  have rdU : Rd w9 (some ⟨g9, 0, none⟩) (famZ n2 k2 h2) := rd_of_own st9.own
  have BEL : Below w'.heap.size w' w9 := belA.trans (bel59.mono (by omega))
  have lz : zs.length = n := by simpa using own1.1
  clear own1 own2 bel1 bel2 fr1 st4 st5 fr2 st7 fr3 st9 belA ownB bel57 bel79 bel59 own1' lt1
  have LZ := show Hid (zs.length = n) from lz
  have PG1 := show Hid _ from pg1
  have PG2 := show Hid _ from pg2
  have PG3 := show Hid _ from pg3
  clear pg1 pg2 pg3 lz HR
  clear hs1 hs2 hs3 hs4 hs5 hs6 hs7 hs8 hs9
  go_wp2_with fail
  refine (pageText_any w9 p2 _ _ _ _ PG2.out).mono ?_
  rintro e w10 ⟨rfl, rfl⟩
  go_wp2_with fail
  refine (pageText_any w10 p3 _ _ _ _ PG3.out).mono ?_
  rintro e w11 ⟨rfl, rfl⟩
  go_wp2_with fail
  refine (pageText_any w11 p1 _ _ _ _ PG1.out).mono ?_
  rintro e w12 ⟨rfl, rfl⟩
  go_wp2_with fail
  refine (concat_any w12 _ _ _ _ _ _ _ _ _ _ _ _ _ _ _ _ rdG rdB rdT rdU ?_ LZ.out ?_ ?_ rfl (by omega) (by omega) (by omega)).mono ?_
  · have := hN1.out; have := hN2.out; have := LZ.out; simp only [List.length_append, famZ_length]; omega
  · rw [famZ_length]; have := hNA.out; omega
  · rw [famZ_length]; have := hNB.out; omega
  rintro e w13 ⟨rfl, q, rfl⟩
  go_wp2_with fail
  refine (pageFamily_any (w12.drewN q) p1 _ _ PG1.out).mono ?_
  rintro e w14 ⟨rfl, rfl⟩
  go_wp2
  go_ret
  exact ⟨rfl, BEL.os, BEL.tape, BEL.output, BEL.size, BEL.block⟩


set_option maxHeartbeats 3200000 in
set_option maxRecDepth 100000 in
theorem twice_out (w : World) (a0 : Option Addr) (n cap : Nat) (f n1 k1 h1 n2 k2 h2 : ByteArray)
    (m0 : n ≤ maxLen) (m1 : f.size ≤ maxLen) (m2 : n1.size ≤ maxLen) (m3 : k1.size ≤ maxLen) (m4 : h1.size ≤ maxLen) (m5 : n2.size ≤ maxLen) (m6 : k2.size ≤ maxLen) (m7 : h2.size ≤ maxLen)
    (hout : 65536 < n ∨ (n ≤ 65536 ∧ 65536 < f.size) ∨ (n ≤ 65536 ∧ f.size ≤ 65536 ∧ 65536 < n1.size) ∨ (n ≤ 65536 ∧ f.size ≤ 65536 ∧ n1.size ≤ 65536 ∧ 65536 < k1.size) ∨
      (n ≤ 65536 ∧ f.size ≤ 65536 ∧ n1.size ≤ 65536 ∧ k1.size ≤ 65536 ∧ 65536 < h1.size) ∨ (n ≤ 65536 ∧ f.size ≤ 65536 ∧ n1.size ≤ 65536 ∧ k1.size ≤ 65536 ∧ h1.size ≤ 65536 ∧ 65536 < n2.size) ∨
      (n ≤ 65536 ∧ f.size ≤ 65536 ∧ n1.size ≤ 65536 ∧ k1.size ≤ 65536 ∧ h1.size ≤ 65536 ∧ n2.size ≤ 65536 ∧ 65536 < k2.size) ∨
      (n ≤ 65536 ∧ f.size ≤ 65536 ∧ n1.size ≤ 65536 ∧ k1.size ≤ 65536 ∧ h1.size ≤ 65536 ∧ n2.size ≤ 65536 ∧ k2.size ≤ 65536 ∧ 65536 < h2.size)) :
    Calls Try.prog 4 #[.slice a0 n cap, .string f, .string n1, .string k1, .string h1, .string n2, .string k2, .string h2] w fun e w' => e = .returned (.bool true) ∧ Below w.heap.size w w' := by
  rcases hout with h | ⟨_, h⟩ | ⟨_, _, h⟩ | ⟨_, _, _, h⟩ | ⟨_, _, _, _, h⟩ | ⟨_, _, _, _, _, h⟩ | ⟨_, _, _, _, _, _, h⟩ | ⟨_, _, _, _, _, _, _, h⟩
  all_goals
    go_enter Try.func4, Try.ntmps4
    go_wp2_with fail
    refine (bytes2_any w a0 n cap f n1 k1 h1 n2 k2 h2 m0 m1 m2 m3 m4 m5 m6 m7).mono ?_
    rintro e w' ⟨⟨b, rfl⟩, rfl⟩
    unfold maxLen at m0 m1 m2 m3 m4 m5 m6 m7
    cases b
    all_goals
      go_wp2
      go_ret
      exact ⟨rfl, Below.refl _ _⟩

end Go.Proofs.Qxb6628204a
