import Derived.Test.Qxb6628283aRank
import Derived.Test.Qxb6628283aGate
import Derived.WalkLawsBesides
import Derived.Deep.LoopGhost
namespace Go.Proofs.Qxb6628283a
open Go.RowKit
set_option linter.unusedVariables false

theorem Try.info54 : (Try.prog.info? 54).map (fun i => (i.zero, i.size, i.bytes)) = some (some (.agg #[.slice none 0 0, .slice none 0 0, .slice none 0 0]), 3, 72) := by kernel_rfl
theorem Try.info3 : (Try.prog.info? 3).map (fun i => (i.zero, i.size, i.bytes)) = some (some (.int .i64 0), 1, 8) := by kernel_rfl

theorem Rk.shape {w : World} {B rb len : Nat} {gv : Value} {vs : List Value} {X : Nat → List Int} (h : Rk w B rb gv len vs X) : ∃ go gc, gv = .slice go len gc := by
  rcases h.row.2 with ⟨hv, h0⟩ | ⟨g, cap, cur, hv, _⟩
  · subst h0; exact ⟨none, 0, hv⟩
  · exact ⟨_, _, hv⟩

section
variable {P : Program}

theorem wpList_rk_push {w : World} {ops : Array Oper} {rest : List Oper} {o : Oper} {a : Act} {Q : Exit → Act → World → Prop} (hgd : o.guard = none) (sl x : Operand)
    (ho : o.op = .call { callee := .builtin .append, args := #[sl, x], argTypes := #[26, 26] })
    (ht : P.underlying 26 = some (.slice 54)) (hi : (P.info? 54).map (fun i => (i.zero, i.size, i.bytes)) = some (some (.agg #[.slice none 0 0, .slice none 0 0, .slice none 0 0]), 3, 72))
    {B rb len : Nat} {gv : Value} {vs : List Value} {X : Nat → List Int} (hst : Rk w B rb gv len vs X) (hX : ∀ k, 3 * len ≤ k → X k = [])
    (hs : a.eval sl = gv) (H : Nat) (hx : a.eval x = .slice (some ⟨H, 0, none⟩) 1 1) (hH : w.heap.size = H) (hlen : len ≤ 1000000)
    (h : ∀ g cap w1, w1.heap[rb]? = some (.cells #[gv] 28 (0, 0)) →
      Rk (w1.setCell ⟨rb, 0, none⟩ (.slice (some ⟨g, 0, none⟩) (len + 1) cap)) B rb (.slice (some ⟨g, 0, none⟩) (len + 1) cap) (len + 1) (vs ++ [.slice none 0 0, .slice none 0 0, .slice none 0 0]) X →
      Fr B rb w (w1.setCell ⟨rb, 0, none⟩ (.slice (some ⟨g, 0, none⟩) (len + 1) cap)) →
      wpList P ops Q rest (a.put o.dst (.slice (some ⟨g, 0, none⟩) (len + 1) cap)) w1) : wpList P ops Q (o :: rest) a (w.alloc (.cells #[.slice none 0 0, .slice none 0 0, .slice none 0 0] 54)) := by
  subst hH
  obtain ⟨i0, hi0, hz0, hz1, hz2⟩ := info_parts hi
  refine wpList_plain hgd fun K hK => ?_
  have hst1 := hst.alloc (.cells #[.slice none 0 0, .slice none 0 0, .slice none 0 0] 54)
  have hnews : ∀ j u, [Value.slice none 0 0, .slice none 0 0, .slice none 0 0][j]? = some u → (w.alloc (.cells #[.slice none 0 0, .slice none 0 0, .slice none 0 0] 54)).cell? ((⟨w.heap.size, 0, none⟩ : Addr).add j) = some u := by
    intro j u hj
    rw [Addr.add_lit, Nat.zero_add, cell_of_row _ w.heap.size j _ 54 (0, 0) (heap_alloc_new w _)]
    simpa using hj
  obtain ⟨v', w', hr, h2, h3, h5, h4⟩ := run_append_own_at (P := P) (w.alloc (.cells #[.slice none 0 0, .slice none 0 0, .slice none 0 0] 54)) B 26 o.type 54 i0 (.agg #[.slice none 0 0, .slice none 0 0, .slice none 0 0]) 3 72 ht hi0 hz0 hz1 hz2 rfl (by decide) gv len vs hst1.row
    ⟨w.heap.size, 0, none⟩ 1 1 [.slice none 0 0, .slice none 0 0, .slice none 0 0] rfl hnews (fun u hu => by simp at hu; subst hu; rfl) (by unfold maxLen; omega) (by omega) hst1.base
  obtain ⟨g, cap, rfl⟩ : ∃ g cap, v' = .slice (some ⟨g, 0, none⟩) (len + 1) cap := by
    rcases h2.2 with ⟨_, h0⟩ | ⟨g, cap, cur, hv, _⟩
    · omega
    · exact ⟨g, cap, hv⟩
  obtain ⟨q1, q2, q3⟩ := hst1.push h3 h2 hX
  unfold Oper.wp execOp
  simp only [ho, resolve, invoke, builtin, Sem.run_bind, Sem.run_pure, Result.andThen_ok, List.map_toArray, List.map_cons, List.map_nil, hs, hx, hr]
  exact hK _ _ (h g cap w' q1 q2 ((Fr.alloc B rb w _).trans q3))
end

/-- One item more, on the rows. -/
def stepX (X : Nat → List Int) (g : Nat) (e : Int) : Nat → List Int :=
  if e ∈ X (g * 3) then upd X (g * 3 + 1) ((X (g * 3 + 1)).set (lowOf e (X (g * 3))) ((X (g * 3 + 1)).getD (lowOf e (X (g * 3))) 0 + 1))
  else upd (upd (upd X (g * 3) (insAt e (X (g * 3)))) (g * 3 + 1) ((X (g * 3 + 1)).take (lowOf e (X (g * 3))) ++ 1 :: (X (g * 3 + 1)).drop (lowOf e (X (g * 3))))) (g * 3 + 2) (X (g * 3 + 2) ++ [e])

theorem own_shape {w : World} {B e n : Nat} {v : Value} {xs : List Value} (h : w.ownsRow B e 1 v n xs) : ∃ ao c, v = .slice ao n c := by
  rcases h.2 with ⟨hv, h0⟩ | ⟨g, cap, cur, hv, _⟩
  · subst h0; exact ⟨none, 0, hv⟩
  · exact ⟨_, _, hv⟩
theorem own_shape_pos {w : World} {B e n : Nat} {v : Value} {xs : List Value} (h : w.ownsRow B e 1 v n xs) (hn : 0 < n) : ∃ b c, v = .slice (some ⟨b, 0, none⟩) n c := by
  rcases h.2 with ⟨hv, h0⟩ | ⟨g, cap, cur, hv, _⟩
  · omega
  · exact ⟨_, _, hv⟩

set_option maxHeartbeats 1600000 in
set_option maxRecDepth 100000 in
theorem count_found (w : World) (B rb len g : Nat) (gv : Value) (vs : List Value) (X : Nat → List Int) (e : Int) (hst : Rk w B rb gv len vs X) (hX : ∀ k, 3 * len ≤ k → X k = []) (hg : g ≤ 65536) (hlen : len ≤ 65537)
    (hs : (X (g * 3)).Pairwise (· < ·)) (hl1 : (X (g * 3)).length ≤ 20000) (hl2 : (X (g * 3 + 1)).length = (X (g * 3)).length)
    (hc : 0 < (X (g * 3 + 1)).getD (lowOf e (X (g * 3))) 0 ∧ (X (g * 3 + 1)).getD (lowOf e (X (g * 3))) 0 ≤ 20000) (he : e ∈ X (g * 3)) :
    Calls Try.prog 11 #[.pointer (some ⟨rb, 0, none⟩), .int .i64 g, .int .i64 e, .int .i64 1] w fun en w' => en = .returned (.tuple #[]) ∧ ∃ gv' vs', Rk w' B rb gv' (max len (g + 1)) vs' (stepX X g e) ∧ Fr B rb w w' := by
  obtain ⟨go0, gc0, rfl⟩ := hst.shape
  go_enter Try.func11, Try.ntmps11
  go_wp2_with fail
  go_loopg [] (g + 1 - len) (fun k wr => ∃ (L : Nat) (go : Option Addr) (gc : Nat) (vs' : List Value), len ≤ L ∧ L ≤ max len (g + 1) ∧ g + 1 - L ≤ k ∧ Rk wr B rb (.slice go L gc) L vs' X ∧ Fr B rb w wr)
  case atStart => exact ⟨len, go0, gc0, vs, Nat.le_refl _, by omega, Nat.le_refl _, hst, Fr.refl _ _ _⟩
  case round =>
    obtain ⟨L, go, gc, vs', h1, h2, h3, hrk, hfr⟩ := hrel
    have cc := hrk.cell
    have ff := hrk.free
    by_cases hlt : L ≤ g
    · go_wp2_with (at_builtin; refine wpList_rk_push rfl (.tmp 22) (.tmp 24) rfl Try.underlying26 Try.info54 hrk (fun k hk => hX k (by omega)) rfl _ rfl (by simp) (by omega) ?_; intro g1 k1 w1 P1 S1 F1; have c1 := cell_of_one P1; have f1 := free_of_one P1; clear P1)
      go_roundg (g + 1 - (L + 1))
      case measure => omega
      case rel => exact ⟨L + 1, some ⟨g1, 0, none⟩, k1, _, by omega, by omega, Nat.le_refl _, S1, hfr.trans F1⟩
    · obtain ⟨gb, cap, cur, hgv, hBg, hgb, hc1, hc2, hc3⟩ := hrk.form (by omega)
      simp only [Value.slice.injEq] at hgv
      obtain ⟨rfl, _, rfl⟩ := hgv
      obtain ⟨M, hM⟩ : ∃ M, Hid (L = M ∧ max len (g + 1) = M) := ⟨L, rfl, by omega⟩
      obtain rfl : L = M := hM.out.1
      have ig : (g : Int) < (L : Int) := by omega
      obtain ⟨v0, hv0, ho0⟩ := hrk.at (g * 3) (by omega)
      obtain ⟨v1, hv1, ho1⟩ := hrk.at (g * 3 + 1) (by omega)
      have hlow := low_get e _ hs he
      obtain ⟨a0, c0, rfl⟩ := own_shape ho0
      obtain ⟨b1, c1, rfl⟩ := own_shape_pos ho1 (by omega)
      have s0 := (hrk.slot rfl (g * 3) (by omega)).1.trans hv0
      have s1 := (hrk.slot rfl (g * 3 + 1) (by omega)).1.trans hv1
      have hi : lowOf e (X (g * 3)) < (X (g * 3 + 1)).length := by omega
      obtain ⟨p1, p2, p3, p4⟩ := hrk.poke (z := (X (g * 3 + 1)).getD (lowOf e (X (g * 3))) 0 + 1) hv1 hi
      have hne1 : ¬ (b1 = gb) := fun e => by
        obtain ⟨_, _, c, hc⟩ := own_block ho1 (g := b1) rfl
        rw [e, hgb] at hc; simp at hc
      have hne2 : ¬ (gb = b1) := fun e => hne1 e.symm
      have HF : Hid (stepX X g e = upd X (g * 3 + 1) ((X (g * 3 + 1)).set (lowOf e (X (g * 3))) ((X (g * 3 + 1)).getD (lowOf e (X (g * 3))) 0 + 1))) := by show _ = _; unfold stepX; rw [if_pos he]
      generalize hi0 : lowOf e (X (g * 3)) = i at *
      generalize hz0 : (X (g * 3 + 1)).getD i 0 = z at *
      generalize hn1 : (X (g * 3 + 1)).length = n1 at *
      generalize hn0 : (X (g * 3)).length = n0 at *
      have HS := show Hid _ from And.intro ho0 hs
      have HE := show Hid (decide (e ∈ X (g * 3)) = true) from (show decide (e ∈ X (g * 3)) = true by simpa using he)
      have HI0 := show Hid _ from hi0
      clear hc1 hc2 hc3 hgb ho0 ho1 hs he hi0 hz0 hn0 hn1 hlow hv0 hv1
      go_wp2_with fail
      refine (search_any wr B n0 c0 a0 (X (g * 3)) e HS.out.1 HS.out.2 (by omega)).mono ?_
      rintro en w1 ⟨rfl, q, rfl⟩
      rw [HE.out, HI0.out]
      have ii : (i : Int) < (n1 : Int) := by omega
      have zz : (0 : Int) < z + 1 := by omega
      go_wp2
      refine bodyPost_ret (results_none rfl _ _ _) rfl ⟨rfl, .slice (some ⟨gb, 0, none⟩) L gc, vs', ?_, ?_⟩
      · rw [HF.out, hM.out.2]
        exact p3.drewN q
      · exact (hfr.trans p4).trans (Fr.drewN _ _ _ q)

end Go.Proofs.Qxb6628283a
