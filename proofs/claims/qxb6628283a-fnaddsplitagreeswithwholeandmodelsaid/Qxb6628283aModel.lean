/- The plain layer: what a Ranking holds after a list of items. No program, no world. -/
namespace Go.Proofs.Qxb6628283a
set_option linter.unusedVariables false

def addTs (g : Nat) (acc : List Int) (p : Nat × Int) : List Int := if p.1 = g then (if p.2 ∈ acc then acc else acc ++ [p.2]) else acc
def tsOf (g : Nat) (its : List (Nat × Int)) : List Int := its.foldl (addTs g) []
def lowOf (x : Int) (l : List Int) : Nat := l.countP (fun y => decide (y < x))
def insAt (x : Int) (l : List Int) : List Int := l.take (lowOf x l) ++ x :: l.drop (lowOf x l)
def addEs (g : Nat) (acc : List Int) (p : Nat × Int) : List Int := if p.1 = g then (if p.2 ∈ acc then acc else insAt p.2 acc) else acc
def esOf (g : Nat) (its : List (Nat × Int)) : List Int := its.foldl (addEs g) []
def cnt (g : Nat) (e : Int) (its : List (Nat × Int)) : Nat := its.countP (fun p => decide (p.1 = g ∧ p.2 = e))
def lenOf (its : List (Nat × Int)) : Nat := its.foldl (fun m p => max m (p.1 + 1)) 0

theorem tsOf_snoc (g : Nat) (its : List (Nat × Int)) (p : Nat × Int) : tsOf g (its ++ [p]) = addTs g (tsOf g its) p := by simp [tsOf]
theorem esOf_snoc (g : Nat) (its : List (Nat × Int)) (p : Nat × Int) : esOf g (its ++ [p]) = addEs g (esOf g its) p := by simp [esOf]
theorem lenOf_snoc (its : List (Nat × Int)) (p : Nat × Int) : lenOf (its ++ [p]) = max (lenOf its) (p.1 + 1) := by simp [lenOf]
theorem cnt_append (g : Nat) (e : Int) (a b : List (Nat × Int)) : cnt g e (a ++ b) = cnt g e a + cnt g e b := by simp [cnt, List.countP_append]
theorem cnt_one (g g' : Nat) (e e' : Int) : cnt g e [(g', e')] = if g' = g ∧ e' = e then 1 else 0 := by
  simp only [cnt, List.countP_cons, List.countP_nil, Nat.zero_add]
  by_cases h : g' = g ∧ e' = e <;> simp [h]

theorem snoc_induct {α : Type} {P : List α → Prop} (h0 : P []) (h1 : ∀ l a, P l → P (l ++ [a])) : ∀ l, P l := by
  intro l
  have : ∀ n (l : List α), l.length = n → P l := by
    intro n
    induction n with
    | zero => intro l hl; rw [List.eq_nil_of_length_eq_zero hl]; exact h0
    | succ n ih =>
      intro l hl
      have hne : l ≠ [] := by intro h; rw [h] at hl; simp at hl
      rw [← List.dropLast_concat_getLast hne]
      exact h1 _ _ (ih _ (by simp [hl]))
  exact this _ l rfl

theorem mem_insAt (x y : Int) (l : List Int) : y ∈ insAt x l ↔ y = x ∨ y ∈ l := by
  unfold insAt
  rw [List.mem_append, List.mem_cons]
  constructor
  · rintro (h | h | h)
    · exact .inr (List.mem_of_mem_take h)
    · exact .inl h
    · exact .inr (List.mem_of_mem_drop h)
  · rintro (h | h)
    · exact .inr (.inl h)
    · rw [← List.take_append_drop (lowOf x l) l, List.mem_append] at h
      rcases h with h | h
      · exact .inl h
      · exact .inr (.inr h)

theorem insAt_length (x : Int) (l : List Int) : (insAt x l).length = l.length + 1 := by
  unfold insAt
  have : lowOf x l ≤ l.length := List.countP_le_length
  simp [List.length_take, List.length_drop]
  omega

theorem mem_ts (g : Nat) (e : Int) (its : List (Nat × Int)) : e ∈ tsOf g its ↔ (g, e) ∈ its := by
  refine snoc_induct (P := fun its => e ∈ tsOf g its ↔ (g, e) ∈ its) (by simp [tsOf]) ?_ its
  intro l p ih
  rw [tsOf_snoc, List.mem_append, ← ih, List.mem_singleton]
  obtain ⟨g', e'⟩ := p
  simp only [addTs, Prod.mk.injEq]
  by_cases hg : g' = g
  · rw [if_pos hg]
    by_cases he : e' ∈ tsOf g l
    · rw [if_pos he]
      constructor
      · exact .inl
      · rintro (h | ⟨_, rfl⟩)
        · exact h
        · exact he
    · rw [if_neg he, List.mem_append, List.mem_singleton]
      constructor
      · rintro (h | h)
        · exact .inl h
        · exact .inr ⟨hg.symm, h⟩
      · rintro (h | ⟨_, h⟩)
        · exact .inl h
        · exact .inr h
  · rw [if_neg hg]
    constructor
    · exact .inl
    · rintro (h | ⟨h, _⟩)
      · exact h
      · exact absurd h.symm hg

theorem mem_es (g : Nat) (e : Int) (its : List (Nat × Int)) : e ∈ esOf g its ↔ (g, e) ∈ its := by
  refine snoc_induct (P := fun its => e ∈ esOf g its ↔ (g, e) ∈ its) (by simp [esOf]) ?_ its
  intro l p ih
  rw [esOf_snoc, List.mem_append, ← ih, List.mem_singleton]
  obtain ⟨g', e'⟩ := p
  simp only [addEs, Prod.mk.injEq]
  by_cases hg : g' = g
  · rw [if_pos hg]
    by_cases he : e' ∈ esOf g l
    · rw [if_pos he]
      constructor
      · exact .inl
      · rintro (h | ⟨_, rfl⟩)
        · exact h
        · exact he
    · rw [if_neg he, mem_insAt]
      constructor
      · rintro (h | h)
        · exact .inr ⟨hg.symm, h⟩
        · exact .inl h
      · rintro (h | ⟨_, h⟩)
        · exact .inr h
        · exact .inl h
  · rw [if_neg hg]
    constructor
    · exact .inl
    · rintro (h | ⟨h, _⟩)
      · exact h
      · exact absurd h.symm hg

theorem len_es_ts (g : Nat) (its : List (Nat × Int)) : (esOf g its).length = (tsOf g its).length := by
  refine snoc_induct (P := fun its => (esOf g its).length = (tsOf g its).length) (by simp [esOf, tsOf]) ?_ its
  intro l p ih
  rw [esOf_snoc, tsOf_snoc]
  have hm : p.2 ∈ esOf g l ↔ p.2 ∈ tsOf g l := by rw [mem_es, mem_ts]
  unfold addEs addTs
  by_cases hg : p.1 = g
  · rw [if_pos hg, if_pos hg]
    by_cases he : p.2 ∈ esOf g l
    · rw [if_pos he, if_pos (hm.1 he)]; exact ih
    · rw [if_neg he, if_neg (fun h => he (hm.2 h)), insAt_length]; simp [ih]
  · rw [if_neg hg, if_neg hg]; exact ih

/-- In a list that rises, what is less than x stands ahead of place 'lowOf x l'. -/
theorem low_take (x : Int) : ∀ (l : List Int), l.Pairwise (· < ·) → (∀ y ∈ l.take (lowOf x l), y < x) ∧ ∀ y ∈ l.drop (lowOf x l), x ≤ y
  | [], _ => by simp
  | a :: l, h => by
    have ⟨h1, h2⟩ := List.pairwise_cons.1 h
    have ih := low_take x l h2
    by_cases ha : a < x
    · have e : lowOf x (a :: l) = lowOf x l + 1 := by simp [lowOf, ha]
      rw [e, List.take_succ_cons, List.drop_succ_cons]
      refine ⟨fun y hy => ?_, ih.2⟩
      rcases List.mem_cons.1 hy with rfl | hy
      · exact ha
      · exact ih.1 y hy
    · have e : lowOf x (a :: l) = 0 := by
        unfold lowOf
        rw [List.countP_eq_zero]
        intro y hy
        rcases List.mem_cons.1 hy with rfl | hy
        · simpa using ha
        · have := h1 y hy
          simp; omega
      rw [e]
      refine ⟨by simp, fun y hy => ?_⟩
      rcases List.mem_cons.1 hy with rfl | hy
      · omega
      · have := h1 y hy; omega

theorem insAt_sorted (x : Int) (l : List Int) (h : l.Pairwise (· < ·)) (hx : x ∉ l) : (insAt x l).Pairwise (· < ·) := by
  have ⟨h1, h2⟩ := low_take x l h
  unfold insAt
  rw [List.pairwise_append, List.pairwise_cons]
  refine ⟨h.sublist (List.take_sublist _ _), ⟨fun y hy => ?_, h.sublist (List.drop_sublist _ _)⟩, fun y hy z hz => ?_⟩
  · have := h2 y hy
    have hne : y ≠ x := fun e => hx (e ▸ List.mem_of_mem_drop hy)
    omega
  · have hy' := h1 y hy
    rcases List.mem_cons.1 hz with rfl | hz
    · exact hy'
    · have := h2 z hz; omega

theorem es_sorted (g : Nat) (its : List (Nat × Int)) : (esOf g its).Pairwise (· < ·) := by
  refine snoc_induct (P := fun its => (esOf g its).Pairwise (· < ·)) (by simp [esOf]) ?_ its
  intro l p ih
  rw [esOf_snoc]
  unfold addEs
  split
  · split
    · exact ih
    · exact insAt_sorted _ _ ih ‹_›
  · exact ih

theorem low_get (x : Int) (l : List Int) (h : l.Pairwise (· < ·)) (hx : x ∈ l) : lowOf x l < l.length ∧ l.getD (lowOf x l) 0 = x := by
  have ⟨h1, h2⟩ := low_take x l h
  have hle : lowOf x l ≤ l.length := List.countP_le_length
  have hd : x ∈ l.drop (lowOf x l) := by
    have hm := hx
    rw [← List.take_append_drop (lowOf x l) l, List.mem_append] at hm
    rcases hm with hm | hm
    · exact absurd (h1 x hm) (by omega)
    · exact hm
  have hlt : lowOf x l < l.length := by
    rcases Nat.lt_or_ge (lowOf x l) l.length with h | h
    · exact h
    · rw [List.drop_eq_nil_of_le h] at hd; cases hd
  refine ⟨hlt, ?_⟩
  rw [List.drop_eq_getElem_cons hlt] at hd h2
  have hp : (l.drop (lowOf x l)).Pairwise (· < ·) := h.sublist (List.drop_sublist _ _)
  rw [List.drop_eq_getElem_cons hlt, List.pairwise_cons] at hp
  have e : l.getD (lowOf x l) 0 = l[lowOf x l] := by simp [List.getD, List.getElem?_eq_getElem hlt]
  rw [e]
  rcases List.mem_cons.1 hd with h | h
  · exact h.symm
  · have h3 := hp.1 x h
    have h4 := h2 l[lowOf x l] (List.mem_cons_self ..)
    omega

/-- The counts. -/
def csOf (t : Nat) (g : Nat) (its : List (Nat × Int)) : List Int := (esOf g its).map fun e => ((t * cnt g e its : Nat) : Int)

theorem cnt_pos (g : Nat) (e : Int) (its : List (Nat × Int)) (h : (g, e) ∈ its) : 0 < cnt g e its := by
  unfold cnt
  rw [List.countP_pos_iff]
  exact ⟨_, h, by simp⟩
theorem cnt_zero (g : Nat) (e : Int) (its : List (Nat × Int)) (h : (g, e) ∉ its) : cnt g e its = 0 := by
  unfold cnt
  rw [List.countP_eq_zero]
  intro p hp hq
  simp at hq
  exact h (by rw [← hq.1, ← hq.2]; exact hp)
theorem cnt_le (g : Nat) (e : Int) (its : List (Nat × Int)) : cnt g e its ≤ its.length := List.countP_le_length

/-! One item more -/
theorem es_other (g g' : Nat) (e : Int) (its : List (Nat × Int)) (h : g' ≠ g) : esOf g (its ++ [(g', e)]) = esOf g its := by
  rw [esOf_snoc]; simp [addEs, h]
theorem ts_other (g g' : Nat) (e : Int) (its : List (Nat × Int)) (h : g' ≠ g) : tsOf g (its ++ [(g', e)]) = tsOf g its := by
  rw [tsOf_snoc]; simp [addTs, h]
theorem cs_other (g g' : Nat) (e : Int) (its : List (Nat × Int)) (h : g' ≠ g) : csOf 1 g (its ++ [(g', e)]) = csOf 1 g its := by
  unfold csOf
  rw [es_other g g' e its h]
  apply List.map_congr_left
  intro x _
  rw [cnt_append, cnt_one, if_neg (fun hh => h hh.1), Nat.add_zero]
theorem es_found (g : Nat) (e : Int) (its : List (Nat × Int)) (h : e ∈ esOf g its) : esOf g (its ++ [(g, e)]) = esOf g its := by
  rw [esOf_snoc]; simp [addEs, h]
theorem ts_found (g : Nat) (e : Int) (its : List (Nat × Int)) (h : e ∈ esOf g its) : tsOf g (its ++ [(g, e)]) = tsOf g its := by
  have : e ∈ tsOf g its := by rw [mem_ts]; rwa [mem_es] at h
  rw [tsOf_snoc]; simp [addTs, this]
theorem es_new (g : Nat) (e : Int) (its : List (Nat × Int)) (h : e ∉ esOf g its) : esOf g (its ++ [(g, e)]) = insAt e (esOf g its) := by
  rw [esOf_snoc]; simp [addEs, h]
theorem ts_new (g : Nat) (e : Int) (its : List (Nat × Int)) (h : e ∉ esOf g its) : tsOf g (its ++ [(g, e)]) = tsOf g its ++ [e] := by
  have : e ∉ tsOf g its := by rw [mem_ts]; rwa [mem_es] at h
  rw [tsOf_snoc]; simp [addTs, this]
theorem cs_new (g : Nat) (e : Int) (its : List (Nat × Int)) (h : e ∉ esOf g its) :
    csOf 1 g (its ++ [(g, e)]) = (csOf 1 g its).take (lowOf e (esOf g its)) ++ 1 :: (csOf 1 g its).drop (lowOf e (esOf g its)) := by
  have h0 : cnt g e its = 0 := cnt_zero g e its (by rwa [mem_es] at h)
  unfold csOf
  rw [es_new g e its h]
  unfold insAt
  rw [List.map_append, List.map_cons, ← List.map_take, ← List.map_drop]
  have hx : ∀ x, x ∈ esOf g its → ((1 * cnt g x (its ++ [(g, e)]) : Nat) : Int) = ((1 * cnt g x its : Nat) : Int) := by
    intro x hx
    have hn : ¬ (g = g ∧ e = x) := fun hh => h (by rw [hh.2]; exact hx)
    rw [cnt_append, cnt_one, if_neg hn, Nat.add_zero]
  congr 1
  · exact List.map_congr_left fun x hx' => hx x (List.mem_of_mem_take hx')
  · congr 1
    · rw [cnt_append, cnt_one, if_pos ⟨rfl, rfl⟩, h0]; rfl
    · exact List.map_congr_left fun x hx' => hx x (List.mem_of_mem_drop hx')
theorem cs_length (t g : Nat) (its : List (Nat × Int)) : (csOf t g its).length = (esOf g its).length := by simp [csOf]
theorem cs_getD (t g : Nat) (its : List (Nat × Int)) (k : Nat) (h : k < (esOf g its).length) : (csOf t g its).getD k 0 = ((t * cnt g ((esOf g its).getD k 0) its : Nat) : Int) := by
  simp [csOf, List.getD, List.getElem?_eq_getElem h]
theorem cs_found (g : Nat) (e : Int) (its : List (Nat × Int)) (h : e ∈ esOf g its) :
    csOf 1 g (its ++ [(g, e)]) = (csOf 1 g its).set (lowOf e (esOf g its)) ((csOf 1 g its).getD (lowOf e (esOf g its)) 0 + 1) ∧
    (csOf 1 g its).getD (lowOf e (esOf g its)) 0 = (cnt g e its : Int) ∧ 0 < cnt g e its := by
  have hs := es_sorted g its
  have ⟨h1, h2⟩ := low_get e _ hs h
  have hc : (csOf 1 g its).getD (lowOf e (esOf g its)) 0 = (cnt g e its : Int) := by rw [cs_getD 1 g its _ h1, h2, Nat.one_mul]
  refine ⟨?_, hc, cnt_pos g e its (by rwa [mem_es] at h)⟩
  rw [hc]
  apply List.ext_getElem
  · simp only [cs_length, List.length_set, es_found g e its h]
  · intro k hk1 hk2
    have hk : k < (esOf g its).length := by rw [cs_length, es_found g e its h] at hk1; exact hk1
    rw [List.getElem_set]
    have e1 : (csOf 1 g (its ++ [(g, e)]))[k] = ((cnt g ((esOf g its)[k]) (its ++ [(g, e)]) : Nat) : Int) := by
      simp only [csOf, List.getElem_map, es_found g e its h, Nat.one_mul]
    rw [e1, cnt_append, cnt_one]
    by_cases hkk : lowOf e (esOf g its) = k
    · subst hkk
      have e2 : (esOf g its)[lowOf e (esOf g its)] = e := by simpa [List.getD, List.getElem?_eq_getElem h1] using h2
      rw [if_pos rfl, e2, if_pos ⟨rfl, rfl⟩]; simp
    · rw [if_neg hkk]
      have hne : e ≠ (esOf g its)[k] := by
        intro he
        have e2 : (esOf g its)[lowOf e (esOf g its)] = e := by simpa [List.getD, List.getElem?_eq_getElem h1] using h2
        have hp := List.pairwise_iff_getElem.1 hs
        rcases Nat.lt_or_gt_of_ne hkk with hl | hl
        · have := hp _ _ h1 hk hl; omega
        · have := hp _ _ hk h1 hl; omega
      rw [if_neg (fun hh => hne hh.2)]
      simp [csOf]

/-! No item of a goroutine beyond the length -/
theorem lenOf_mem (its : List (Nat × Int)) : ∀ p ∈ its, p.1 < lenOf its := by
  refine snoc_induct (P := fun its => ∀ p ∈ its, p.1 < lenOf its) (by simp) ?_ its
  intro l a ih p hp
  rw [lenOf_snoc]
  rcases List.mem_append.1 hp with h | h
  · have := ih p h; omega
  · rw [List.mem_singleton.1 h]; omega
theorem es_beyond (g : Nat) (its : List (Nat × Int)) (h : lenOf its ≤ g) : esOf g its = [] := by
  cases he : esOf g its with
  | nil => rfl
  | cons x l =>
    have : x ∈ esOf g its := by rw [he]; exact List.mem_cons_self ..
    rw [mem_es] at this
    have := lenOf_mem its _ this
    omega
theorem ts_beyond (g : Nat) (its : List (Nat × Int)) (h : lenOf its ≤ g) : tsOf g its = [] :=
  List.eq_nil_of_length_eq_zero (by rw [← len_es_ts, es_beyond g its h]; rfl)
theorem cs_beyond (t g : Nat) (its : List (Nat × Int)) (h : lenOf its ≤ g) : csOf t g its = [] := by unfold csOf; rw [es_beyond g its h]; rfl

/-! A list twice -/
theorem es_again (g : Nat) (a b : List (Nat × Int)) (h : ∀ p ∈ b, p ∈ a) : esOf g (a ++ b) = esOf g a := by
  revert h
  refine snoc_induct (P := fun b => (∀ p ∈ b, p ∈ a) → esOf g (a ++ b) = esOf g a) (by simp) ?_ b
  intro l p ih h
  rw [← List.append_assoc, esOf_snoc, ih (fun q hq => h q (by simp [hq]))]
  unfold addEs
  by_cases hg : p.1 = g
  · have hp := h p (by simp)
    have : p.2 ∈ esOf g a := by rw [mem_es, ← hg]; exact hp
    rw [if_pos hg, if_pos this]
  · rw [if_neg hg]
theorem ts_again (g : Nat) (a b : List (Nat × Int)) (h : ∀ p ∈ b, p ∈ a) : tsOf g (a ++ b) = tsOf g a := by
  revert h
  refine snoc_induct (P := fun b => (∀ p ∈ b, p ∈ a) → tsOf g (a ++ b) = tsOf g a) (by simp) ?_ b
  intro l p ih h
  rw [← List.append_assoc, tsOf_snoc, ih (fun q hq => h q (by simp [hq]))]
  unfold addTs
  by_cases hg : p.1 = g
  · have hp := h p (by simp)
    have : p.2 ∈ tsOf g a := by rw [mem_ts, ← hg]; exact hp
    rw [if_pos hg, if_pos this]
  · rw [if_neg hg]
theorem len_again (a b : List (Nat × Int)) (h : ∀ p ∈ b, p ∈ a) : lenOf (a ++ b) = lenOf a := by
  revert h
  refine snoc_induct (P := fun b => (∀ p ∈ b, p ∈ a) → lenOf (a ++ b) = lenOf a) (by simp) ?_ b
  intro l p ih h
  rw [← List.append_assoc, lenOf_snoc, ih (fun q hq => h q (by simp [hq]))]
  have := lenOf_mem a p (h p (by simp))
  omega
theorem cs_twice (g : Nat) (a : List (Nat × Int)) : csOf 1 g (a ++ a) = csOf 2 g a := by
  unfold csOf
  rw [es_again g a a (fun _ h => h)]
  apply List.map_congr_left
  intro x _
  rw [cnt_append]
  congr 1
  omega

/-- The epochs in the order of their first coming: a part of the list gives a part of it. -/
theorem ts_prefix (g : Nat) (a b : List (Nat × Int)) : ∃ r, tsOf g (a ++ b) = tsOf g a ++ r := by
  refine snoc_induct (P := fun b => ∃ r, tsOf g (a ++ b) = tsOf g a ++ r) ⟨[], by simp⟩ ?_ b
  rintro l p ⟨r, ih⟩
  rw [← List.append_assoc, tsOf_snoc, ih]
  unfold addTs
  split
  · split
    · exact ⟨r, rfl⟩
    · exact ⟨r ++ [p.2], by simp⟩
  · exact ⟨r, rfl⟩
theorem ts_next (g : Nat) (e : Int) (a b : List (Nat × Int)) (h : e ∉ tsOf g a) : (tsOf g a).length < (tsOf g (a ++ (g, e) :: b)).length ∧ (tsOf g (a ++ (g, e) :: b)).getD (tsOf g a).length 0 = e := by
  have e1 : a ++ (g, e) :: b = (a ++ [(g, e)]) ++ b := by simp
  obtain ⟨r, hr⟩ := ts_prefix g (a ++ [(g, e)]) b
  have e2 : tsOf g (a ++ [(g, e)]) = tsOf g a ++ [e] := by rw [tsOf_snoc]; simp [addTs, h]
  rw [e1, hr, e2]
  refine ⟨by simp, ?_⟩
  rw [List.append_assoc, List.getD_eq_getElem?_getD, List.getElem?_append_right (Nat.le_refl _)]
  simp

end Go.Proofs.Qxb6628283a
