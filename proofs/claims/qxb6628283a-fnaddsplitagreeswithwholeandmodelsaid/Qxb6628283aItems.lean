import Derived.Test.Qxb6628283aCountNew
namespace Go.Proofs.Qxb6628283a
open Go.RowKit
set_option linter.unusedVariables false

def XOf (t : Nat) (its : List (Nat × Int)) (k : Nat) : List Int := if k % 3 = 0 then esOf (k / 3) its else if k % 3 = 1 then csOf t (k / 3) its else tsOf (k / 3) its
theorem XOf0 (t : Nat) (its : List (Nat × Int)) (g : Nat) : XOf t its (g * 3) = esOf g its := by
  unfold XOf; rw [if_pos (by omega)]; congr 1; omega
theorem XOf1 (t : Nat) (its : List (Nat × Int)) (g : Nat) : XOf t its (g * 3 + 1) = csOf t g its := by
  unfold XOf; rw [if_neg (by omega), if_pos (by omega)]; congr 1; omega
theorem XOf2 (t : Nat) (its : List (Nat × Int)) (g : Nat) : XOf t its (g * 3 + 2) = tsOf g its := by
  unfold XOf; rw [if_neg (by omega), if_neg (by omega)]; congr 1; omega

theorem three (k : Nat) : ∃ h, k = h * 3 ∨ k = h * 3 + 1 ∨ k = h * 3 + 2 := ⟨k / 3, by omega⟩

theorem stepX_its (its : List (Nat × Int)) (g : Nat) (e : Int) : stepX (XOf 1 its) g e = XOf 1 (its ++ [(g, e)]) := by
  funext k
  unfold stepX
  rw [XOf0, XOf1, XOf2]
  obtain ⟨h, hk⟩ := three k
  by_cases he : e ∈ esOf g its
  · rw [if_pos he]
    by_cases hg : g = h
    · subst hg
      rcases hk with rfl | rfl | rfl
      · rw [upd_other _ _ _ _ (by omega), XOf0, XOf0, es_found g e its he]
      · rw [upd_same, XOf1, (cs_found g e its he).1]
      · rw [upd_other _ _ _ _ (by omega), XOf2, XOf2, ts_found g e its he]
    · rcases hk with rfl | rfl | rfl
      · rw [upd_other _ _ _ _ (by omega), XOf0, XOf0, es_other h g e its hg]
      · rw [upd_other _ _ _ _ (by omega), XOf1, XOf1, cs_other h g e its hg]
      · rw [upd_other _ _ _ _ (by omega), XOf2, XOf2, ts_other h g e its hg]
  · rw [if_neg he]
    by_cases hg : g = h
    · subst hg
      rcases hk with rfl | rfl | rfl
      · rw [upd_other _ _ _ _ (by omega), upd_other _ _ _ _ (by omega), upd_same, XOf0, es_new g e its he]
      · rw [upd_other _ _ _ _ (by omega), upd_same, XOf1, cs_new g e its he]
      · rw [upd_same, XOf2, ts_new g e its he]
    · rcases hk with rfl | rfl | rfl
      · rw [upd_other _ _ _ _ (by omega), upd_other _ _ _ _ (by omega), upd_other _ _ _ _ (by omega), XOf0, XOf0, es_other h g e its hg]
      · rw [upd_other _ _ _ _ (by omega), upd_other _ _ _ _ (by omega), upd_other _ _ _ _ (by omega), XOf1, XOf1, cs_other h g e its hg]
      · rw [upd_other _ _ _ _ (by omega), upd_other _ _ _ _ (by omega), upd_other _ _ _ _ (by omega), XOf2, XOf2, ts_other h g e its hg]

theorem ts_len (g : Nat) (its : List (Nat × Int)) : (tsOf g its).length ≤ its.length := by
  refine snoc_induct (P := fun its => (tsOf g its).length ≤ its.length) (by simp [tsOf]) ?_ its
  intro l p ih
  rw [tsOf_snoc]
  unfold addTs
  split
  · split
    · simp; omega
    · simp; omega
  · simp; omega

/-- The Ranking after the items its. -/
def RkI (w : World) (B rb : Nat) (its : List (Nat × Int)) : Prop := ∃ gv vs, Rk w B rb gv (lenOf its) vs (XOf 1 its)

theorem RkI.alloc {w : World} {B rb : Nat} {its : List (Nat × Int)} (h : RkI w B rb its) (o : Obj) : RkI (w.alloc o) B rb its := by
  obtain ⟨gv, vs, h⟩ := h
  exact ⟨gv, vs, h.alloc o⟩

theorem X_beyond (t : Nat) (its : List (Nat × Int)) (k : Nat) (h : 3 * lenOf its ≤ k) : XOf t its k = [] := by
  obtain ⟨g, hk⟩ := three k
  rcases hk with rfl | rfl | rfl
  · rw [XOf0]; exact es_beyond g its (by omega)
  · rw [XOf1]; exact cs_beyond t g its (by omega)
  · rw [XOf2]; exact ts_beyond g its (by omega)

/-- (*Ranking).count of one item. -/
theorem count_its (w : World) (B rb g : Nat) (e : Int) (its : List (Nat × Int)) (h : RkI w B rb its) (hg : g ≤ 65536) (hlen : lenOf its ≤ 65537) (hl : its.length ≤ 16384) :
    Calls Try.prog 11 #[.pointer (some ⟨rb, 0, none⟩), .int .i64 g, .int .i64 e, .int .i64 1] w fun en w' => en = .returned (.tuple #[]) ∧ RkI w' B rb (its ++ [(g, e)]) ∧ Fr B rb w w' := by
  obtain ⟨gv, vs, hr⟩ := h
  have hes : (esOf g its).length ≤ its.length := by rw [len_es_ts]; exact ts_len g its
  have key : ∀ en w', (en = Ending.returned (.tuple #[]) ∧ ∃ gv' vs', Rk w' B rb gv' (max (lenOf its) (g + 1)) vs' (stepX (XOf 1 its) g e) ∧ Fr B rb w w') → en = .returned (.tuple #[]) ∧ RkI w' B rb (its ++ [(g, e)]) ∧ Fr B rb w w' := by
    rintro en w' ⟨h1, gv', vs', h2, h3⟩
    refine ⟨h1, ⟨gv', vs', ?_⟩, h3⟩
    rw [lenOf_snoc, ← stepX_its]
    exact h2
  by_cases he : e ∈ esOf g its
  · have hc := cs_found g e its he
    have hcl := cnt_le g e its
    refine (count_found w B rb (lenOf its) g gv vs (XOf 1 its) e hr (fun k hk => X_beyond 1 its k hk) hg hlen ?_ ?_ ?_ ?_ ?_).mono key
    · rw [XOf0]; exact es_sorted g its
    · rw [XOf0]; omega
    · rw [XOf0, XOf1, cs_length]
    · rw [XOf0, XOf1, hc.2.1]; omega
    · rw [XOf0]; exact he
  · refine (count_new w B rb (lenOf its) g gv vs (XOf 1 its) e hr (fun k hk => X_beyond 1 its k hk) hg hlen ?_ ?_ ?_ ?_ ?_).mono key
    · rw [XOf0]; exact es_sorted g its
    · rw [XOf0]; omega
    · rw [XOf0, XOf1, cs_length]
    · rw [XOf2]; have := ts_len g its; omega
    · rw [XOf0]; exact he

/-- One element of the law's argument, or of a piece. -/
structure Epr where
  at_ : Int
  by_ : Int
  ep : Int
  item : Bool

def itemsTo (ps : Nat → Epr) : Nat → List (Nat × Int)
  | 0 => []
  | k + 1 => itemsTo ps k ++ (if (ps k).item then [((ps k).by_.toNat, (ps k).ep)] else [])

theorem itemsTo_add (ps : Nat → Epr) (a b : Nat) : itemsTo ps (a + b) = itemsTo ps a ++ itemsTo (fun j => ps (a + j)) b := by
  induction b with
  | zero => simp [itemsTo]
  | succ b ih => rw [← Nat.add_assoc, itemsTo, ih, itemsTo, List.append_assoc]
theorem itemsTo_len (ps : Nat → Epr) (k : Nat) : (itemsTo ps k).length ≤ k := by
  induction k with
  | zero => simp [itemsTo]
  | succ k ih => rw [itemsTo]; split <;> simp <;> omega

def Dom (ps : Nat → Epr) (n : Nat) : Prop := ∀ j, j < n → (ps j).item = true → 0 ≤ (ps j).by_ ∧ (ps j).by_ ≤ 65536

theorem itemsTo_dom (ps : Nat → Epr) (n k : Nat) (hk : k ≤ n) (h : Dom ps n) : ∀ p ∈ itemsTo ps k, p.1 ≤ 65536 := by
  induction k with
  | zero => simp [itemsTo]
  | succ k ih =>
    intro p hp
    rw [itemsTo, List.mem_append] at hp
    rcases hp with hp | hp
    · exact ih (by omega) p hp
    · by_cases hi : (ps k).item = true
      · rw [if_pos hi, List.mem_singleton] at hp
        subst hp
        have := h k (by omega) hi
        show (ps k).by_.toNat ≤ 65536
        omega
      · rw [if_neg hi] at hp; cases hp

theorem lenOf_le (its : List (Nat × Int)) (M : Nat) (h : ∀ p ∈ its, p.1 ≤ M) : lenOf its ≤ M + 1 := by
  revert h
  refine snoc_induct (P := fun its => (∀ p ∈ its, p.1 ≤ M) → lenOf its ≤ M + 1) (by simp [lenOf]) ?_ its
  intro l p ih h
  rw [lenOf_snoc]
  have := ih (fun q hq => h q (by simp [hq]))
  have := h p (by simp)
  omega

/-- A piece in memory. -/
structure PieceAt (w : World) (pp eb n : Nat) (ps : Nat → Epr) : Prop where
  pc : w.heap[pp]? = some (.cells #[.slice none 0 0, .slice (some ⟨eb, 0, none⟩) n n, .slice none 0 0, .slice none 0 0, .int .i64 0, .int .i64 0, .int .i64 0] 43 (0, 0))
  row : ∃ cur, w.heap[eb]? = some (.cells cur 45 (0, 0)) ∧ ∀ j, j < n → cur[j * 4]? = some (.int .i64 (ps j).at_) ∧ cur[j * 4 + 1]? = some (.int .i64 (ps j).by_) ∧ cur[j * 4 + 2]? = some (.int .i64 (ps j).ep) ∧ cur[j * 4 + 3]? = some (.bool (ps j).item)

theorem PieceAt.fr {w w' : World} {B rb pp eb n : Nat} {ps : Nat → Epr} (h : PieceAt w pp eb n ps) (hf : Fr B rb w w') : PieceAt w' pp eb n ps := by
  obtain ⟨cur, h1, h2⟩ := h.row
  refine ⟨(hf.blk pp (lt_of_block h.pc) (.inr (.inr ⟨_, _, h.pc⟩))).trans h.pc, cur, (hf.blk eb (lt_of_block h1) (.inr (.inl ⟨_, _, h1⟩))).trans h1, h2⟩

theorem PieceAt.cells {w : World} {pp eb n : Nat} {ps : Nat → Epr} (h : PieceAt w pp eb n ps) (j : Nat) (hj : j < n) :
    w.cell? ⟨eb, j * 4, none⟩ = some (.int .i64 (ps j).at_) ∧ w.cell? ⟨eb, j * 4 + 1, none⟩ = some (.int .i64 (ps j).by_) ∧ w.cell? ⟨eb, j * 4 + 2, none⟩ = some (.int .i64 (ps j).ep) ∧ w.cell? ⟨eb, j * 4 + 3, none⟩ = some (.bool (ps j).item) := by
  obtain ⟨cur, h1, h2⟩ := h.row
  obtain ⟨q0, q1, q2, q3⟩ := h2 j hj
  exact ⟨by rw [cell_of_row w eb _ cur 45 (0, 0) h1, q0], by rw [cell_of_row w eb _ cur 45 (0, 0) h1, q1], by rw [cell_of_row w eb _ cur 45 (0, 0) h1, q2], by rw [cell_of_row w eb _ cur 45 (0, 0) h1, q3]⟩

end Go.Proofs.Qxb6628283a
