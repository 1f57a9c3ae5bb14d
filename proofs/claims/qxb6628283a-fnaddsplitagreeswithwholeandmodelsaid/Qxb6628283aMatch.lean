import Derived.Test.Qxb6628283aGet
namespace Go.Proofs.Qxb6628283a
open Go.RowKit
set_option linter.unusedVariables false
set_option linter.unusedSimpArgs false

theorem its_no (ps : Nat → Epr) (k : Nat) (h : (ps k).item = false) : itemsTo ps (k + 1) = itemsTo ps k := by rw [itemsTo, h]; simp
theorem its_yes (ps : Nat → Epr) (k : Nat) (h : (ps k).item = true) : itemsTo ps (k + 1) = itemsTo ps k ++ [((ps k).by_.toNat, (ps k).ep)] := by rw [itemsTo, h]; simp

/-- The first test of the loop for top. -/
theorem top_step (ps : Nat → Epr) (k g : Nat) (h : (ps k).item = true) (hg : (ps k).by_ = (g : Int)) :
    ((lenOf (itemsTo ps k) : Int) - 1 < g → ((g : Nat) : Int) = (lenOf (itemsTo ps (k + 1)) : Int) - 1) ∧ (¬ ((lenOf (itemsTo ps k) : Int) - 1 < g) → lenOf (itemsTo ps (k + 1)) = lenOf (itemsTo ps k)) := by
  rw [its_yes ps k h, lenOf_snoc, hg]
  simp only [Int.toNat_natCast]
  constructor <;> intro h <;> omega

theorem its_in (ps : Nat → Epr) (k n : Nat) (hk : k ≤ n) : ∃ r, itemsTo ps n = itemsTo ps k ++ r := by
  refine ⟨itemsTo (fun j => ps (k + j)) (n - k), ?_⟩
  rw [← itemsTo_add]; congr 1; omega
theorem its_at (ps : Nat → Epr) (k n : Nat) (hk : k < n) (h : (ps k).item = true) : ∃ r, itemsTo ps n = itemsTo ps k ++ ((ps k).by_.toNat, (ps k).ep) :: r := by
  obtain ⟨r, hr⟩ := its_in ps (k + 1) n (by omega)
  exact ⟨r, by rw [hr, its_yes ps k h]; simp⟩

/-- The numbers that nd and pos hold. -/
def ndOf (ps : Nat → Epr) (k g : Nat) : Value := .int .i64 ((tsOf g (itemsTo ps k)).length : Nat)

theorem nd_zero (ps : Nat → Epr) (g : Nat) : ndOf ps 0 g = .int .i64 0 := by simp [ndOf, itemsTo, tsOf]
theorem nd_no (ps : Nat → Epr) (k g : Nat) (h : (ps k).item = false) : ndOf ps k g = ndOf ps (k + 1) g := by unfold ndOf; rw [its_no ps k h]
theorem nd_old (ps : Nat → Epr) (k g g' : Nat) (e : Int) (h : (ps k).item = true) (hg : (ps k).by_ = (g : Int)) (he : (ps k).ep = e) (hin : (g, e) ∈ itemsTo ps k) : ndOf ps k g' = ndOf ps (k + 1) g' := by
  unfold ndOf
  rw [its_yes ps k h, hg, he, Int.toNat_natCast]
  by_cases hgg : g = g'
  · subst hgg; rw [ts_found g e _ ((mem_es _ _ _).2 hin)]
  · rw [ts_other g' g e _ hgg]
theorem nd_new (ps : Nat → Epr) (k g g' : Nat) (e : Int) (h : (ps k).item = true) (hg : (ps k).by_ = (g : Int)) (he : (ps k).ep = e) (hin : (g, e) ∉ itemsTo ps k) :
    (if g' = g then Value.int .i64 ((tsOf g (itemsTo ps k)).length + 1 : Int) else ndOf ps k g') = ndOf ps (k + 1) g' := by
  unfold ndOf
  rw [its_yes ps k h, hg, he, Int.toNat_natCast]
  by_cases hgg : g = g'
  · subst hgg; rw [if_pos rfl, ts_new g e _ (fun h => hin ((mem_es _ _ _).1 h))]; simp
  · rw [if_neg (fun h => hgg h.symm), ts_other g' g e _ hgg]

/-- The inner loop's two numbers. -/
theorem inner_no (ps : Nat → Epr) (j k g : Nat) (e : Int) (h : ¬ ((ps j).item = true ∧ (ps j).by_ = (g : Int) ∧ (ps j).ep = e)) (hd : (ps j).item = true → 0 ≤ (ps j).by_) :
    cnt g e (itemsTo ps (j + 1)) = cnt g e (itemsTo ps j) ∧ ((g, e) ∈ itemsTo ps (min (j + 1) k) ↔ (g, e) ∈ itemsTo ps (min j k)) := by
  have key : ∀ (m : List (Nat × Int)), (ps j).item = true → ((ps j).by_.toNat, (ps j).ep) ≠ (g, e) := by
    intro m hi hh
    simp only [Prod.mk.injEq] at hh
    have := hd hi
    exact h ⟨hi, by omega, hh.2⟩
  constructor
  · cases hi : (ps j).item with
    | false => rw [its_no ps j hi]
    | true =>
      rw [its_yes ps j hi, cnt_append, cnt_one, if_neg (fun hh => key [] hi (by rw [hh.1, hh.2]))]; rfl
  · by_cases hjk : j < k
    · rw [Nat.min_eq_left (by omega), Nat.min_eq_left (by omega)]
      cases hi : (ps j).item with
      | false => rw [its_no ps j hi]
      | true =>
        rw [its_yes ps j hi, List.mem_append, List.mem_singleton]
        exact ⟨fun h => h.resolve_right (fun hh => key [] hi hh.symm), .inl⟩
    · rw [Nat.min_eq_right (by omega), Nat.min_eq_right (by omega)]
theorem inner_yes (ps : Nat → Epr) (j g : Nat) (e : Int) (h : (ps j).item = true) (hg : (ps j).by_ = (g : Int)) (he : (ps j).ep = e) :
    cnt g e (itemsTo ps (j + 1)) = cnt g e (itemsTo ps j) + 1 ∧ (g, e) ∈ itemsTo ps (j + 1) := by
  rw [its_yes ps j h, hg, he, Int.toNat_natCast]
  refine ⟨by rw [cnt_append, cnt_one, if_pos ⟨rfl, rfl⟩], by simp⟩

/-- Where a sorted row holds x it is found at lowOf, and not before. -/
theorem low_first (x : Int) (l : List Int) (h : l.Pairwise (· < ·)) (hx : x ∈ l) : ∀ j, j < lowOf x l → l.getD j 0 ≠ x := by
  intro j hj
  have h1 := low_get x l h hx
  have h2 := List.pairwise_iff_getElem.1 h j (lowOf x l) (by omega) h1.1 hj
  have e1 : l.getD j 0 = l[j]'(by omega) := by simp [List.getD, show j < l.length by omega]
  have e2 : l.getD (lowOf x l) 0 = l[lowOf x l]'h1.1 := by simp [List.getD, h1.1]
  rw [e2] at h1
  rw [e1]
  omega

end Go.Proofs.Qxb6628283a
