import Derived.Test.Qxb6628283aCount
namespace Go.Proofs.Qxb6628283a
open Go.RowKit
set_option linter.unusedVariables false

theorem heap_alloc_setCell (w : World) (o : Obj) (b p : Nat) (v : Value) (k : Nat) (hk : k < w.heap.size) : ((w.alloc o).setCell ⟨b, p, none⟩ v).heap[k]? = (w.setCell ⟨b, p, none⟩ v).heap[k]? := by
  by_cases hb : k = b
  · subst hb
    simp only [World.setCell, Array.getElem?_modify, if_true, Below.heap_alloc w o k hk]
  · rw [Below.heap_setCell _ _ _ _ hb, Below.heap_setCell _ _ _ _ hb, Below.heap_alloc w o k hk]

/-- Behind the first of the two inserts: slot k0's row has been rewritten, its slice V0 is not yet stored. -/
structure Mid (w0 w : World) (B rb : Nat) (gv : Value) (gb len : Nat) (vs : List Value) (X : Nat → List Int) (k0 : Nat) (V0 : Value) (x0 : List Int) : Prop where
  rk : Rk (w.setCell ⟨gb, k0, none⟩ V0) B rb gv len (vs.set k0 V0) (upd X k0 x0)
  cells : ∀ j, j < 3 * len → w.cell? ⟨gb, j, none⟩ = vs[j]?
  others : ∀ (j : Nat) (v : Value), j ≠ k0 → vs[j]? = some v → w.ownsRow B 3 1 v (X j).length ((X j).map (Value.int .i64))
  fr : Fr B rb w0 w
  size : w0.heap.size ≤ w.heap.size
  blk : ∃ cur, w.heap[gb]? = some (.cells cur 54 (0, 0))
  base : B ≤ w.heap.size
  above : B ≤ gb

theorem Rk.mid {w w1 : World} {B rb len gb cap k0 : Nat} {gv v0 V0 : Value} {vs : List Value} {X : Nat → List Int} {x0 : List Int} (h : Rk w B rb gv len vs X) (hgv : gv = .slice (some ⟨gb, 0, none⟩) len cap) (hk : k0 < 3 * len) (hv : vs[k0]? = some v0)
    (hg : w.grownBy w1 v0.ownBlock) (ho : w1.ownsRow B 3 1 V0 x0.length (x0.map (Value.int .i64))) (hat : ∀ g, V0.ownBlock = some g → v0.ownBlock = some g ∨ w.heap.size ≤ g) : Mid w w1 B rb gv gb len vs X k0 V0 x0 := by
  obtain ⟨q1, q2, q3, q4⟩ := h.put hgv hk hv hg ho hat
  have hvo := h.own k0 v0 hv
  obtain ⟨gb', cap', cur0, hv1, hBg, hgb, _⟩ := h.form (by omega)
  rw [hgv] at hv1
  simp at hv1
  obtain ⟨rfl, rfl⟩ := hv1
  have hne : some gb ≠ v0.ownBlock := fun e => by
    obtain ⟨_, _, c, hc⟩ := own_block hvo e.symm
    rw [hgb] at hc; simp at hc
  refine ⟨q3, fun j hj => ?_, fun j v hj hv' => ?_, ?_, hg.size, q1, Nat.le_trans h.base hg.size, hBg⟩
  · rw [World.cell?_of_block (a := ⟨gb, j, none⟩) (hg.block gb (lt_of_block hgb) hne)]
    exact (h.slot hgv j hj).1
  · refine owns_same (h.own j v hv') (fun g hgb' => hg.block g (own_block (h.own j v hv') hgb').2.1 (fun e => ?_))
    exact hj (h.sep j k0 v v0 g hv' hv hgb' e.symm)
  · refine Fr.grown hg (fun k hk' => ?_)
    obtain ⟨h1, _, c, hc⟩ := own_block hvo hk'
    exact ⟨h1, c, 3, (0, 0), hc, by decide, by decide⟩

theorem Mid.alloc {w0 w : World} {B rb gb len k0 : Nat} {gv V0 : Value} {vs : List Value} {X : Nat → List Int} {x0 : List Int} (h : Mid w0 w B rb gv gb len vs X k0 V0 x0) (o : Obj) : Mid w0 (w.alloc o) B rb gv gb len vs X k0 V0 x0 := by
  have hsz : ∀ {k : Nat} {ob : Obj}, (w.setCell ⟨gb, k0, none⟩ V0).heap[k]? = some ob → k < w.heap.size := fun {k ob} e => by have := lt_of_block e; simpa [World.setCell] using this
  obtain ⟨cur, hcur⟩ := h.blk
  refine ⟨h.rk.same (by simp [World.setCell]) (heap_alloc_setCell w o gb k0 V0 rb (hsz h.rk.rank)) (fun g hg => ?_) (fun k v g hv hg => ?_), fun j hj => ?_, fun j v hj hv => (h.others j v hj hv).alloc o, h.fr.trans (Fr.alloc _ _ _ o), ?_, ⟨cur, ?_⟩, ?_, h.above⟩
  · obtain ⟨_, _, c, hc⟩ := own_block h.rk.row hg
    exact heap_alloc_setCell w o gb k0 V0 g (hsz hc)
  · obtain ⟨_, _, c, hc⟩ := own_block (h.rk.own k v hv) hg
    exact heap_alloc_setCell w o gb k0 V0 g (hsz hc)
  · rw [World.cell?_alloc_past _ _ _ (lt_of_block hcur)]
    exact h.cells j hj
  · have := h.size; simp; omega
  · rw [Below.heap_alloc w o gb (lt_of_block hcur)]; exact hcur
  · have := h.base; simp; omega

theorem Mid.drew {w0 w : World} {B rb gb len k0 : Nat} {gv V0 : Value} {vs : List Value} {X : Nat → List Int} {x0 : List Int} (h : Mid w0 w B rb gv gb len vs X k0 V0 x0) : Mid w0 w.drew B rb gv gb len vs X k0 V0 x0 :=
  ⟨h.rk.drew, h.cells, h.others, h.fr.trans (Fr.drew _ _ _), h.size, h.blk, h.base, h.above⟩

/-- Behind the second insert, and both stores. -/
theorem Mid.done {w0 w w1 : World} {B rb gb cap len k0 k1 : Nat} {gv V0 v1 V1 : Value} {vs : List Value} {X : Nat → List Int} {x0 x1 : List Int} (h : Mid w0 w B rb gv gb len vs X k0 V0 x0) (hgv : gv = .slice (some ⟨gb, 0, none⟩) len cap)
    (hk0 : k0 < 3 * len) (hk1 : k1 < 3 * len) (hne : k1 ≠ k0) (hv : vs[k1]? = some v1) (hg : w.grownBy w1 v1.ownBlock) (ho : w1.ownsRow B 3 1 V1 x1.length (x1.map (Value.int .i64))) (hat : ∀ g, V1.ownBlock = some g → v1.ownBlock = some g ∨ w.heap.size ≤ g) :
    (∃ cur, w1.heap[gb]? = some (.cells cur 54 (0, 0))) ∧ (∀ j, j < 3 * len → w1.cell? ⟨gb, j, none⟩ = vs[j]?) ∧
    Rk ((w1.setCell ⟨gb, k0, none⟩ V0).setCell ⟨gb, k1, none⟩ V1) B rb gv len ((vs.set k0 V0).set k1 V1) (upd (upd X k0 x0) k1 x1) ∧ Fr B rb w0 ((w1.setCell ⟨gb, k0, none⟩ V0).setCell ⟨gb, k1, none⟩ V1) := by
  obtain ⟨cur, hcur⟩ := h.blk
  have hvo := h.others k1 v1 hne hv
  have hnb : some gb ≠ v1.ownBlock := fun e => by
    obtain ⟨_, _, c, hc⟩ := own_block hvo e.symm
    rw [hcur] at hc; simp at hc
  have hb1 : w1.heap[gb]? = some (.cells cur 54 (0, 0)) := (hg.block gb (lt_of_block hcur) hnb).trans hcur
  have hv' : (vs.set k0 V0)[k1]? = some v1 := by rw [List.getElem?_set, if_neg (fun e => hne e.symm)]; exact hv
  have hg' := grown_setCell hg gb k0 V0 (lt_of_block hcur) hnb
  have ho' : (w1.setCell ⟨gb, k0, none⟩ V0).ownsRow B 3 1 V1 x1.length (x1.map (Value.int .i64)) := owns_same ho (fun g hgb => Below.heap_setCell _ _ _ _ (fun e => by
    have e : g = gb := e
    obtain ⟨_, _, c, hc⟩ := own_block ho hgb
    rw [e, hb1] at hc; simp at hc))
  obtain ⟨q1, q2, q3, q4⟩ := h.rk.put hgv hk1 hv' hg' ho' (fun g e => by
    rcases hat g e with h1 | h1
    · exact .inl h1
    · right; simpa [World.setCell] using h1)
  refine ⟨⟨cur, hb1⟩, fun j hj => ?_, q3, (h.fr.trans ?_).trans (Fr.setCell (row_setCell hb1) (by decide) (by decide) (.inl h.above))⟩
  · rw [World.cell?_of_block (a := ⟨gb, j, none⟩) (hg.block gb (lt_of_block hcur) hnb)]
    exact h.cells j hj
  · refine (Fr.grown hg (fun k hk' => ?_)).trans (Fr.setCell hb1 (by decide) (by decide) (.inl h.above))
    obtain ⟨h1, _, c, hc⟩ := own_block hvo hk'
    exact ⟨h1, c, 3, (0, 0), hc, by decide, by decide⟩

/-- The first insert, wherever the one new number lies. -/
theorem ins_first {W : World} {B rb len gb cap k i vb n c : Nat} {ao : Option Addr} {gv : Value} {vs : List Value} {X : Nat → List Int} {x : Int} (h : Rk W B rb gv len vs X) (hgv : gv = .slice (some ⟨gb, 0, none⟩) len cap) (hk : k < 3 * len)
    (hv : vs[k]? = some (.slice ao n c)) (hn : (X k).length = n) (hb : n ≤ 16777216) (hi : i ≤ n) (hvb : W.heap[vb]? = some (.cells #[.int .i64 x] 3 (0, 0))) (hnew : ∀ g, (Value.slice ao n c).ownBlock = some g → g < vb) :
    Calls Try.prog 21 #[.slice ao n c, .int .i64 i, .slice (some ⟨vb, 0, none⟩) 1 1] W fun en w' => ∃ g c', en = .returned (.slice (some ⟨g, 0, none⟩) (n + 1) c') ∧ Mid W w' B rb gv gb len vs X k (.slice (some ⟨g, 0, none⟩) (n + 1) c') ((X k).take i ++ x :: (X k).drop i) ∧ W.grownBy w' (Value.slice ao n c).ownBlock := by
  have ho := h.own k _ hv
  rw [hn] at ho
  refine (insert_any W B n c i vb ao (X k) x ho hvb (fun e => by have := hnew vb e; omega) hi h.base hb).mono ?_
  rintro en w' ⟨g, c', rfl, h1, h2, h3⟩
  have hl : ((X k).take i ++ x :: (X k).drop i).length = n + 1 := by simp; omega
  refine ⟨g, c', rfl, h.mid hgv hk hv h2 (by rw [hl]; exact h1) (fun g' e => ?_), h2⟩
  simp [Value.ownBlock] at e
  subst e
  rcases h3 with h3 | h3
  · exact .inl h3
  · right; omega

/-- The second. -/
theorem ins_second {w0 W : World} {B rb len gb cap k0 k1 i vb n c : Nat} {ao : Option Addr} {gv V0 : Value} {vs : List Value} {X : Nat → List Int} {x0 : List Int} {x : Int} (h : Mid w0 W B rb gv gb len vs X k0 V0 x0) (hgv : gv = .slice (some ⟨gb, 0, none⟩) len cap)
    (hk0 : k0 < 3 * len) (hk1 : k1 < 3 * len) (hne : k1 ≠ k0)
    (hv : vs[k1]? = some (.slice ao n c)) (hn : (X k1).length = n) (hb : n ≤ 16777216) (hi : i ≤ n) (hvb : W.heap[vb]? = some (.cells #[.int .i64 x] 3 (0, 0))) (hnew : ∀ g, (Value.slice ao n c).ownBlock = some g → g < vb) :
    Calls Try.prog 21 #[.slice ao n c, .int .i64 i, .slice (some ⟨vb, 0, none⟩) 1 1] W fun en w' => ∃ g c', en = .returned (.slice (some ⟨g, 0, none⟩) (n + 1) c') ∧ (∃ cur, w'.heap[gb]? = some (.cells cur 54 (0, 0))) ∧ (∀ j, j < 3 * len → w'.cell? ⟨gb, j, none⟩ = vs[j]?) ∧
      Rk ((w'.setCell ⟨gb, k0, none⟩ V0).setCell ⟨gb, k1, none⟩ (.slice (some ⟨g, 0, none⟩) (n + 1) c')) B rb gv len ((vs.set k0 V0).set k1 (.slice (some ⟨g, 0, none⟩) (n + 1) c')) (upd (upd X k0 x0) k1 ((X k1).take i ++ x :: (X k1).drop i)) ∧
      Fr B rb w0 ((w'.setCell ⟨gb, k0, none⟩ V0).setCell ⟨gb, k1, none⟩ (.slice (some ⟨g, 0, none⟩) (n + 1) c')) := by
  have ho := h.others k1 _ hne hv
  rw [hn] at ho
  refine (insert_any W B n c i vb ao (X k1) x ho hvb (fun e => by have := hnew vb e; omega) hi h.base hb).mono ?_
  rintro en w' ⟨g, c', rfl, h1, h2, h3⟩
  have hl : ((X k1).take i ++ x :: (X k1).drop i).length = n + 1 := by simp; omega
  obtain ⟨q1, q2, q3, q4⟩ := h.done hgv hk0 hk1 hne hv h2 (by rw [hl]; exact h1) (fun g' e => by
    simp [Value.ownBlock] at e
    subst e
    rcases h3 with h3 | h3
    · exact .inl h3
    · right; omega)
  exact ⟨g, c', rfl, q1, q2, q3, q4⟩

section
variable {P : Program}
/-- 'rk.toggled = append(rk.toggled, epoch)': the append's step. -/
theorem wpList_rk_tog {w : World} {ops : Array Oper} {rest : List Oper} {o : Oper} {a : Act} {Q : Exit → Act → World → Prop} (hgd : o.guard = none) (sl x : Operand)
    (ho : o.op = .call { callee := .builtin .append, args := #[sl, x], argTypes := #[38, 38] })
    (ht : P.underlying 38 = some (.slice 3)) (hi : (P.info? 3).map (fun i => (i.zero, i.size, i.bytes)) = some (some (.int .i64 0), 1, 8))
    {B rb len gb cap0 k n : Nat} {gv tv : Value} {vs : List Value} {X : Nat → List Int} {e : Int} (hst : Rk w B rb gv len vs X) (hgv : gv = .slice (some ⟨gb, 0, none⟩) len cap0) (hk : k < 3 * len) (hv : vs[k]? = some tv) (hn : (X k).length = n)
    (hs : a.eval sl = tv) (H : Nat) (hx : a.eval x = .slice (some ⟨H, 0, none⟩) 1 1) (hH : w.heap.size = H) (hlen : n ≤ 1000000)
    (h : ∀ g cap w1, w1.cell? ⟨gb, k, none⟩ = some tv → w1.frozen? ⟨gb, k, none⟩ = false →
      Rk (w1.setCell ⟨gb, k, none⟩ (.slice (some ⟨g, 0, none⟩) (n + 1) cap)) B rb gv len (vs.set k (.slice (some ⟨g, 0, none⟩) (n + 1) cap)) (upd X k (X k ++ [e])) →
      Fr B rb w (w1.setCell ⟨gb, k, none⟩ (.slice (some ⟨g, 0, none⟩) (n + 1) cap)) →
      wpList P ops Q rest (a.put o.dst (.slice (some ⟨g, 0, none⟩) (n + 1) cap)) w1) : wpList P ops Q (o :: rest) a (w.alloc (.cells #[.int .i64 e] 3)) := by
  subst hH
  obtain ⟨i0, hi0, hz0, hz1, hz2⟩ := info_parts hi
  refine wpList_plain hgd fun K hK => ?_
  have hst1 := hst.alloc (.cells #[.int .i64 e] 3)
  have hown := hst1.own k tv hv
  rw [hn] at hown
  obtain ⟨v', w', hr, h2, h3, h5, h4⟩ := run_append_own_at (P := P) (w.alloc (.cells #[.int .i64 e] 3)) B 38 o.type 3 i0 (.int .i64 0) 1 8 ht hi0 hz0 hz1 hz2 rfl (by decide) tv n _ hown
    ⟨w.heap.size, 0, none⟩ 1 1 [.int .i64 e] rfl (cell_one_new _ _ _) (fun u hu => by simp at hu; subst hu; rfl) (by unfold maxLen; omega) (by omega) hst1.base
  obtain ⟨g, cap, rfl⟩ : ∃ g cap, v' = .slice (some ⟨g, 0, none⟩) (n + 1) cap := by
    rcases h2.2 with ⟨_, h0⟩ | ⟨g, cap, cur, hv, _⟩
    · omega
    · exact ⟨g, cap, hv⟩
  have el : (X k ++ [e]).length = n + 1 := by simp [hn]
  have em : (X k).map (Value.int .i64) ++ [.int .i64 e] = (X k ++ [e]).map (Value.int .i64) := by simp
  rw [em] at h2
  obtain ⟨⟨cur, q0⟩, q1, q2, q3⟩ := hst1.put hgv hk hv h3 (x' := X k ++ [e]) (by rw [el]; exact h2) (fun g' hg' => by
    rcases h4 with h4 | h4
    · exact .inl (h4 ▸ hg')
    · right; rw [h4] at hg'; injection hg' with e'; omega)
  unfold Oper.wp execOp
  simp only [ho, resolve, invoke, builtin, Sem.run_bind, Sem.run_pure, Result.andThen_ok, List.map_toArray, List.map_cons, List.map_nil, hs, hx, hr]
  exact hK _ _ (h g cap w' q1 (by simp [World.frozen?, q0]) q2 ((Fr.alloc B rb w _).trans q3))
end

theorem stepX_new (X : Nat → List Int) (g : Nat) (e : Int) (i : Nat) (he : e ∉ X (g * 3)) (hi : lowOf e (X (g * 3)) = i) :
    upd (upd (upd X (g * 3) ((X (g * 3)).take i ++ e :: (X (g * 3)).drop i)) (g * 3 + 1) ((X (g * 3 + 1)).take i ++ 1 :: (X (g * 3 + 1)).drop i)) (g * 3 + 2)
      ((upd (upd X (g * 3) ((X (g * 3)).take i ++ e :: (X (g * 3)).drop i)) (g * 3 + 1) ((X (g * 3 + 1)).take i ++ 1 :: (X (g * 3 + 1)).drop i)) (g * 3 + 2) ++ [e]) = stepX X g e := by
  rw [upd_other _ _ _ _ (by omega), upd_other _ _ _ _ (by omega)]
  unfold stepX
  rw [if_neg he, ← hi]
  rfl

end Go.Proofs.Qxb6628283a
