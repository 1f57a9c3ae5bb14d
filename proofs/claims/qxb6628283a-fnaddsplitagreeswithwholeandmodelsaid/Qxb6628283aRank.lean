import Derived.Test.Qxb6628283aRowOps
namespace Go.Proofs.Qxb6628283a
open Go.RowKit
set_option linter.unusedVariables false

theorem owns_same {w w' : World} {base e size n : Nat} {v : Value} {xs : List Value} (h : w.ownsRow base e size v n xs)
    (hb : ∀ g, v.ownBlock = some g → w'.heap[g]? = w.heap[g]?) : w'.ownsRow base e size v n xs := by
  refine ⟨h.1, ?_⟩
  rcases h.2 with hn | ⟨g, cap, cur, rfl, hbg, hgg, rest⟩
  · exact .inl hn
  · exact .inr ⟨g, cap, cur, rfl, hbg, (hb g rfl).trans hgg, rest⟩

/-- The block of an owned row: where it lies, and its type. -/
theorem own_block {w : World} {B e size n : Nat} {v : Value} {xs : List Value} (h : w.ownsRow B e size v n xs) {g : Nat} (hg : v.ownBlock = some g) : B ≤ g ∧ g < w.heap.size ∧ ∃ cur, w.heap[g]? = some (.cells cur e (0, 0)) := by
  rcases h.2 with ⟨rfl, _⟩ | ⟨g', cap, cur, rfl, hB, hgg, _⟩
  · simp [Value.ownBlock] at hg
  · simp [Value.ownBlock] at hg
    subst hg
    exact ⟨hB, lt_of_block hgg, cur, hgg⟩

/-- Blocks that a work on the Ranking at rb leaves alone: those below B but rb itself, and a piece's. -/
def Kept (w : World) (B rb k : Nat) : Prop := (k < B ∧ k ≠ rb) ∨ (∃ cs fr, w.heap[k]? = some (.cells cs 45 fr)) ∨ (∃ cs fr, w.heap[k]? = some (.cells cs 43 fr))

structure Fr (B rb : Nat) (w w' : World) : Prop where
  os : w'.os = w.os
  tape : w'.tape = w.tape
  output : w'.output = w.output
  size : w.heap.size ≤ w'.heap.size
  blk : ∀ k, k < w.heap.size → Kept w B rb k → w'.heap[k]? = w.heap[k]?

theorem Fr.refl (B rb : Nat) (w : World) : Fr B rb w w := ⟨rfl, rfl, rfl, Nat.le_refl _, fun _ _ _ => rfl⟩
theorem Fr.trans {B rb : Nat} {a b c : World} (h : Fr B rb a b) (k : Fr B rb b c) : Fr B rb a c := by
  refine ⟨k.os.trans h.os, k.tape.trans h.tape, k.output.trans h.output, Nat.le_trans h.size k.size, fun i hi hk => ?_⟩
  have h1 := h.blk i hi hk
  refine (k.blk i (Nat.lt_of_lt_of_le hi h.size) ?_).trans h1
  rcases hk with hk | hk | hk
  · exact .inl hk
  · exact .inr (.inl (by rw [h1]; exact hk))
  · exact .inr (.inr (by rw [h1]; exact hk))
theorem Fr.alloc (B rb : Nat) (w : World) (o : Obj) : Fr B rb w (w.alloc o) := ⟨rfl, rfl, rfl, by simp, fun k hk _ => Below.heap_alloc w o k hk⟩
theorem Fr.drewN (B rb : Nat) (w : World) (q : Nat) : Fr B rb w (w.drewN q) := ⟨rfl, rfl, rfl, Nat.le_refl _, fun _ _ _ => rfl⟩
theorem Fr.drew (B rb : Nat) (w : World) : Fr B rb w w.drew := ⟨rfl, rfl, rfl, Nat.le_refl _, fun _ _ _ => rfl⟩
theorem Fr.grown {B rb : Nat} {w w' : World} {row : Option Nat} (hg : w.grownBy w' row) (hr : ∀ k, row = some k → B ≤ k ∧ ∃ cs e fr, w.heap[k]? = some (.cells cs e fr) ∧ e ≠ 45 ∧ e ≠ 43) : Fr B rb w w' := by
  refine ⟨hg.os, hg.tape, hg.output, hg.size, fun k hk hK => hg.block k hk (fun e => ?_)⟩
  obtain ⟨h1, cs, e', fr, h2, h3, h4⟩ := hr k e.symm
  rcases hK with hK | ⟨c, f, hK⟩ | ⟨c, f, hK⟩
  · omega
  · rw [h2] at hK; simp at hK; exact h3 hK.2.1
  · rw [h2] at hK; simp at hK; exact h4 hK.2.1
theorem Fr.setCell {B rb : Nat} {w : World} {b o : Nat} {v : Value} {cs : Array Value} {e : TypeId} {fr : Nat × Nat} (hb : w.heap[b]? = some (.cells cs e fr)) (h1 : e ≠ 45) (h2 : e ≠ 43) (hB : B ≤ b ∨ b = rb) : Fr B rb w (w.setCell ⟨b, o, none⟩ v) := by
  refine ⟨rfl, rfl, rfl, by simp [World.setCell], fun k hk hK => Below.heap_setCell _ _ _ _ (fun e' => ?_)⟩
  have e' : k = b := e'
  subst e'
  rcases hK with hK | ⟨c, f, hK⟩ | ⟨c, f, hK⟩
  · rcases hB with h | h
    · omega
    · exact hK.2 h
  · rw [hb] at hK; simp at hK; exact h1 hK.2.1
  · rw [hb] at hK; simp at hK; exact h2 hK.2.1

/-- THE RANKING IN MEMORY. -/
structure Rk (w : World) (B rb : Nat) (gv : Value) (len : Nat) (vs : List Value) (X : Nat → List Int) : Prop where
  rank : w.heap[rb]? = some (.cells #[gv] 28 (0, 0))
  row : w.ownsRow B 54 3 gv len vs
  own : ∀ (k : Nat) (v : Value), vs[k]? = some v → w.ownsRow B 3 1 v (X k).length ((X k).map (Value.int .i64))
  sep : ∀ (k k' : Nat) (v v' : Value) (g : Nat), vs[k]? = some v → vs[k']? = some v' → v.ownBlock = some g → v'.ownBlock = some g → k = k'
  base : B ≤ w.heap.size

section
variable {w : World} {B rb len : Nat} {gv : Value} {vs : List Value} {X : Nat → List Int}

theorem Rk.vlen (h : Rk w B rb gv len vs X) : vs.length = 3 * len := by have := h.row.1; omega

/-- All that the Ranking reaches is as it was: it is a Ranking still. -/
theorem Rk.same {w' : World} (h : Rk w B rb gv len vs X) (hs : w.heap.size ≤ w'.heap.size) (h0 : w'.heap[rb]? = w.heap[rb]?) (h1 : ∀ g, gv.ownBlock = some g → w'.heap[g]? = w.heap[g]?)
    (h2 : ∀ (k : Nat) (v : Value) (g : Nat), vs[k]? = some v → v.ownBlock = some g → w'.heap[g]? = w.heap[g]?) : Rk w' B rb gv len vs X :=
  ⟨h0.trans h.rank, owns_same h.row h1, fun k v hv => owns_same (h.own k v hv) (fun g hg => h2 k v g hv hg), h.sep, Nat.le_trans h.base hs⟩

theorem Rk.alloc (h : Rk w B rb gv len vs X) (o : Obj) : Rk (w.alloc o) B rb gv len vs X :=
  h.same (by simp) (Below.heap_alloc w o rb (lt_of_block h.rank)) (fun g hg => Below.heap_alloc w o g (own_block h.row hg).2.1) (fun k v g hv hg => Below.heap_alloc w o g (own_block (h.own k v hv) hg).2.1)
theorem Rk.drewN (h : Rk w B rb gv len vs X) (q : Nat) : Rk (w.drewN q) B rb gv len vs X := h.same (Nat.le_refl _) rfl (fun _ _ => rfl) (fun _ _ _ _ _ => rfl)
theorem Rk.drew (h : Rk w B rb gv len vs X) : Rk w.drew B rb gv len vs X := h.same (Nat.le_refl _) rfl (fun _ _ => rfl) (fun _ _ _ _ _ => rfl)

theorem Rk.cell (h : Rk w B rb gv len vs X) : w.cell? ⟨rb, 0, none⟩ = some gv := cell_of_one h.rank
theorem Rk.free (h : Rk w B rb gv len vs X) : w.frozen? ⟨rb, 0, none⟩ = false := free_of_one h.rank

/-- The goroutines' row, where there is one. -/
theorem Rk.form (h : Rk w B rb gv len vs X) (hl : 0 < len) : ∃ gb cap cur, gv = .slice (some ⟨gb, 0, none⟩) len cap ∧ B ≤ gb ∧ w.heap[gb]? = some (.cells cur 54 (0, 0)) ∧ len ≤ cap ∧ cur.size = cap * 3 ∧ ∀ k, k < 3 * len → cur[k]? = vs[k]? := by
  rcases h.row.2 with ⟨_, h0⟩ | ⟨gb, cap, cur, hv, hB, hg, h1, h2, h3, h4⟩
  · omega
  · refine ⟨gb, cap, cur, hv, hB, hg, h1, h3, fun k hk => ?_⟩
    rw [← h4, List.getElem?_take, if_pos (by omega)]
    simp

theorem Rk.slot (h : Rk w B rb gv len vs X) {gb cap : Nat} (hv : gv = .slice (some ⟨gb, 0, none⟩) len cap) (k : Nat) (hk : k < 3 * len) : w.cell? ⟨gb, k, none⟩ = vs[k]? ∧ w.frozen? ⟨gb, k, none⟩ = false := by
  obtain ⟨gb', cap', cur, hv', _, hg, _, _, hc⟩ := h.form (by omega)
  rw [hv] at hv'
  simp at hv'
  obtain ⟨rfl, rfl⟩ := hv'
  exact ⟨by rw [cell_of_row w gb k cur 54 (0, 0) hg, hc k hk], by simp [World.frozen?, hg]⟩

theorem Rk.at (h : Rk w B rb gv len vs X) (k : Nat) (hk : k < 3 * len) : ∃ v, vs[k]? = some v ∧ w.ownsRow B 3 1 v (X k).length ((X k).map (Value.int .i64)) := by
  have hl := h.vlen
  exact ⟨vs[k], List.getElem?_eq_getElem (by omega), h.own k _ (List.getElem?_eq_getElem (by omega))⟩

/-- 'r.goroutines = append(r.goroutines, ranked{})'. -/
theorem Rk.push (h : Rk w B rb gv len vs X) {w1 : World} {v' : Value} (hg : w.grownBy w1 gv.ownBlock) (ho : w1.ownsRow B 54 3 v' (len + 1) (vs ++ [.slice none 0 0, .slice none 0 0, .slice none 0 0]))
    (hX : ∀ k, 3 * len ≤ k → X k = []) :
    w1.heap[rb]? = some (.cells #[gv] 28 (0, 0)) ∧ Rk (w1.setCell ⟨rb, 0, none⟩ v') B rb v' (len + 1) (vs ++ [.slice none 0 0, .slice none 0 0, .slice none 0 0]) X ∧ Fr B rb w (w1.setCell ⟨rb, 0, none⟩ v') := by
  have hrb : gv.ownBlock ≠ some rb := fun e => by
    obtain ⟨_, _, cur, hc⟩ := own_block h.row e
    rw [h.rank] at hc; simp at hc
  have hr1 : w1.heap[rb]? = some (.cells #[gv] 28 (0, 0)) := (hg.block rb (lt_of_block h.rank) (fun e => hrb e.symm)).trans h.rank
  have hl := h.vlen
  have hsz := hg.size
  refine ⟨hr1, ⟨one_setCell hr1, ?_, ?_, ?_, ?_⟩, (Fr.grown hg ?_).trans (Fr.setCell hr1 (by decide) (by decide) (.inr rfl))⟩
  · refine owns_same ho (fun g hgb => Below.heap_setCell _ _ _ _ (fun e => ?_))
    have e : g = rb := e
    obtain ⟨_, _, cur, hc⟩ := own_block ho hgb
    rw [e, hr1] at hc; simp at hc
  · intro k v hv
    by_cases hk : k < 3 * len
    · rw [List.getElem?_append_left (by omega)] at hv
      refine owns_same (h.own k v hv) (fun g hgb => ?_)
      obtain ⟨_, hlt, cur, hc⟩ := own_block (h.own k v hv) hgb
      have hne : g ≠ rb := fun e => by rw [e, h.rank] at hc; simp at hc
      have hne2 : some g ≠ gv.ownBlock := fun e => by
        obtain ⟨_, _, cur2, hc2⟩ := own_block h.row e.symm
        rw [hc] at hc2; simp at hc2
      rw [Below.heap_setCell _ _ _ _ hne]
      exact hg.block g hlt hne2
    · rw [List.getElem?_append_right (by omega)] at hv
      have hv0 : v = .slice none 0 0 := by
        have := List.mem_of_getElem? hv
        simp at this
        exact this
      rw [hX k (by omega), hv0]
      exact World.ownsRow_nil _ _ _ _
  · intro k k' v v' g hv hv' hg1 hg2
    have hin : ∀ (k : Nat) (v : Value), (vs ++ [.slice none 0 0, .slice none 0 0, .slice none 0 0])[k]? = some v → v.ownBlock = some g → vs[k]? = some v := by
      intro k v hv hgb
      by_cases hk : k < 3 * len
      · rwa [List.getElem?_append_left (by omega)] at hv
      · rw [List.getElem?_append_right (by omega)] at hv
        have := List.mem_of_getElem? hv
        simp at this
        rw [this] at hgb
        simp [Value.ownBlock] at hgb
    exact h.sep k k' v v' g (hin k v hv hg1) (hin k' v' hv' hg2) hg1 hg2
  · have := h.base; simp [World.setCell]; omega
  · intro k hk
    obtain ⟨h1, _, cur, hc⟩ := own_block h.row hk
    exact ⟨h1, cur, 54, (0, 0), hc, by decide, by decide⟩

def upd (X : Nat → List Int) (k : Nat) (x : List Int) : Nat → List Int := fun j => if j = k then x else X j
theorem upd_same (X : Nat → List Int) (k : Nat) (x : List Int) : upd X k x k = x := by simp [upd]
theorem upd_other (X : Nat → List Int) (k j : Nat) (x : List Int) (h : j ≠ k) : upd X k x j = X j := by simp [upd, h]

/-- A row of the Ranking rewritten (in place or elsewhere), its slice stored into slot k. -/
theorem Rk.put (h : Rk w B rb gv len vs X) {gb cap : Nat} (hgv : gv = .slice (some ⟨gb, 0, none⟩) len cap) {w1 : World} {k : Nat} {v v' : Value} {x' : List Int} (hk : k < 3 * len) (hv : vs[k]? = some v)
    (hg : w.grownBy w1 v.ownBlock) (ho : w1.ownsRow B 3 1 v' x'.length (x'.map (Value.int .i64))) (hat : ∀ g, v'.ownBlock = some g → v.ownBlock = some g ∨ w.heap.size ≤ g) :
    (∃ cur, w1.heap[gb]? = some (.cells cur 54 (0, 0))) ∧ w1.cell? ⟨gb, k, none⟩ = some v ∧ Rk (w1.setCell ⟨gb, k, none⟩ v') B rb gv len (vs.set k v') (upd X k x') ∧ Fr B rb w (w1.setCell ⟨gb, k, none⟩ v') := by
  obtain ⟨gb', cap', cur, hv1, hBg, hgb, hc1, hc2, hc3⟩ := h.form (by omega)
  rw [hgv] at hv1
  simp at hv1
  obtain ⟨rfl, rfl⟩ := hv1
  have hl := h.vlen
  have hvo := h.own k v hv
  -- the row's block is none of the others
  have hty : ∀ g, v.ownBlock = some g → g ≠ rb ∧ g ≠ gb := fun g e => by
    obtain ⟨_, _, c, hc⟩ := own_block hvo e
    exact ⟨fun e => by rw [e, h.rank] at hc; simp at hc, fun e => by rw [e, hgb] at hc; simp at hc⟩
  have hr1 : w1.heap[rb]? = some (.cells #[gv] 28 (0, 0)) := (hg.block rb (lt_of_block h.rank) (fun e => (hty rb e.symm).1 rfl)).trans h.rank
  have hg1 : w1.heap[gb]? = some (.cells cur 54 (0, 0)) := (hg.block gb (lt_of_block hgb) (fun e => (hty gb e.symm).2 rfl)).trans hgb
  have hrg : rb ≠ gb := fun e => by rw [← e, h.rank] at hgb; simp at hgb
  have hsz := hg.size
  have hcell : w1.cell? ⟨gb, k, none⟩ = some v := by rw [cell_of_row w1 gb k cur 54 (0, 0) hg1, hc3 k hk, hv]
  have hks : k < cur.size := by omega
  refine ⟨⟨cur, hg1⟩, hcell, ⟨?_, ?_, ?_, ?_, ?_⟩, (Fr.grown hg ?_).trans (Fr.setCell hg1 (by decide) (by decide) (.inl hBg))⟩
  · rw [Below.heap_setCell _ _ _ _ hrg]; exact hr1
  · rw [hgv]
    refine ⟨by simp; omega, .inr ⟨gb, cap, cur.setIfInBounds k v', rfl, hBg, row_setCell hg1, hc1, ?_, by simpa using hc2, ?_⟩⟩
    · rcases h.row.2 with ⟨_, h0⟩ | ⟨g2, c2, cu2, e2, _, _, _, hm, _⟩
      · omega
      · rw [hgv] at e2; simp at e2; omega
    · apply List.ext_getElem?
      intro j
      rw [List.getElem?_take]
      by_cases hj : j < len * 3
      · rw [if_pos hj, Array.getElem?_toList, Array.getElem?_setIfInBounds, List.getElem?_set]
        by_cases hjk : k = j
        · subst hjk
          rw [if_pos rfl, if_pos rfl, if_pos hks, if_pos (by omega)]
        · rw [if_neg hjk, if_neg hjk]
          exact hc3 j (by omega)
      · rw [if_neg hj, List.getElem?_eq_none (by simp; omega)]
  · intro j u hu
    rw [List.getElem?_set] at hu
    by_cases hjk : k = j
    · subst hjk
      rw [if_pos rfl, if_pos (by omega)] at hu
      cases hu
      rw [upd_same]
      refine owns_same ho (fun g hgb' => Below.heap_setCell _ _ _ _ (fun e => ?_))
      have e : g = gb := e
      obtain ⟨_, _, c, hc⟩ := own_block ho hgb'
      rw [e, hg1] at hc; simp at hc
    · rw [if_neg hjk] at hu
      rw [upd_other _ _ _ _ (fun e => hjk e.symm)]
      have huo := h.own j u hu
      refine owns_same huo (fun g hgb' => ?_)
      obtain ⟨_, hlt, c, hc⟩ := own_block huo hgb'
      have hne : g ≠ gb := fun e => by rw [e, hgb] at hc; simp at hc
      rw [Below.heap_setCell _ _ _ _ hne]
      exact hg.block g hlt (fun e => hjk (h.sep k j v u g hv hu e.symm hgb'))
  · intro j j' u u' g hu hu' e1 e2
    rw [List.getElem?_set] at hu hu'
    have old : ∀ (j : Nat) (u : Value), vs[j]? = some u → u.ownBlock = some g → g < w.heap.size := fun j u hu e => (own_block (h.own j u hu) e).2.1
    by_cases hjk : k = j <;> by_cases hjk' : k = j'
    · omega
    · rw [if_pos hjk, if_pos (by omega)] at hu
      rw [if_neg hjk'] at hu'
      cases hu
      rcases hat g e1 with h3 | h3
      · exact absurd (h.sep k j' v u' g hv hu' h3 e2) hjk'
      · have := old j' u' hu' e2; omega
    · rw [if_neg hjk] at hu
      rw [if_pos hjk', if_pos (by omega)] at hu'
      cases hu'
      rcases hat g e2 with h3 | h3
      · exact absurd (h.sep k j v u g hv hu h3 e1) hjk
      · have := old j u hu e1; omega
    · rw [if_neg hjk] at hu
      rw [if_neg hjk'] at hu'
      exact h.sep j j' u u' g hu hu' e1 e2
  · have := h.base; simp [World.setCell]; omega
  · intro g e
    obtain ⟨h1, _, c, hc⟩ := own_block hvo e
    exact ⟨h1, c, 3, (0, 0), hc, by decide, by decide⟩

/-- A number of a row rewritten in place. -/
theorem Rk.poke (h : Rk w B rb gv len vs X) {k b n c i : Nat} {z : Int} (hv : vs[k]? = some (.slice (some ⟨b, 0, none⟩) n c)) (hi : i < n) :
    w.cell? ⟨b, i, none⟩ = some (.int .i64 ((X k).getD i 0)) ∧ w.frozen? ⟨b, i, none⟩ = false ∧ Rk (w.setCell ⟨b, i, none⟩ (.int .i64 z)) B rb gv len vs (upd X k ((X k).set i z)) ∧ Fr B rb w (w.setCell ⟨b, i, none⟩ (.int .i64 z)) := by
  have ho := h.own k _ hv
  have hl : (X k).length = n := by
    rcases ho.2 with ⟨e, h0⟩ | ⟨g, cap, cur, e, _⟩
    · cases e
    · simp at e; exact e.2.1.symm
  rw [hl] at ho
  obtain ⟨hB, hlt, cur, hc⟩ := own_block ho (g := b) rfl
  have hcell := own_cell ho i hi
  have hrb : b ≠ rb := fun e => by rw [e, h.rank] at hc; simp at hc
  refine ⟨?_, by simp [World.frozen?, hc], ⟨?_, ?_, ?_, h.sep, ?_⟩, Fr.setCell hc (by decide) (by decide) (.inl hB)⟩
  · rw [hcell]; simp [List.getD, List.getElem?_eq_getElem (show i < (X k).length by omega)]
  · rw [Below.heap_setCell _ _ _ _ (Ne.symm hrb)]; exact h.rank
  · refine owns_same h.row (fun g hg => Below.heap_setCell _ _ _ _ (fun e => ?_))
    have e : g = b := e
    obtain ⟨_, _, c2, hc2⟩ := own_block h.row hg
    rw [e, hc] at hc2; simp at hc2
  · intro j u hu
    by_cases hjk : j = k
    · subst hjk
      rw [hv] at hu
      cases hu
      rw [upd_same]
      have hcm : c ≤ maxLen ∧ n ≤ c ∧ cur.size = c := by
        rcases ho.2 with ⟨e, _⟩ | ⟨g, cap, cur', e, _, hg, h1, h2, h3, _⟩
        · cases e
        · simp at e
          obtain ⟨rfl, rfl⟩ := e
          rw [hc] at hg
          simp at hg
          subst hg
          exact ⟨h2, h1, by simpa using h3⟩
      have hl2 : ((X j).set i z).length = n := by simp [hl]
      rw [hl2]
      refine own_of_cells hB (row_setCell hc) (by simp; omega) hcm.2.1 hcm.1 (by simp [hl]) ?_
      intro t ht
      rw [cell_of_row _ b t _ 3 (0, 0) (row_setCell hc), Array.getElem?_setIfInBounds, List.getElem?_map, List.getElem?_set]
      by_cases hti : i = t
      · subst hti
        rw [if_pos rfl, if_pos rfl, if_pos (by omega), if_pos (by omega)]; rfl
      · rw [if_neg hti, if_neg hti, ← cell_of_row w b t cur 3 (0, 0) hc, own_cell ho t ht, List.getElem?_map]
    · rw [upd_other _ _ _ _ hjk]
      refine owns_same (h.own j u hu) (fun g hg => Below.heap_setCell _ _ _ _ (fun e => ?_))
      have e : g = b := e
      subst e
      exact hjk (h.sep j k u _ g hu hv hg rfl)
  · have := h.base; simp [World.setCell]; omega

theorem grown_setCell {w w' : World} {row : Option Nat} (h : w.grownBy w' row) (b o : Nat) (v : Value) (hb : b < w.heap.size) (hne : some b ≠ row) : (w.setCell ⟨b, o, none⟩ v).grownBy (w'.setCell ⟨b, o, none⟩ v) row := by
  refine ⟨h.os, h.tape, h.output, by have := h.size; simp [World.setCell]; omega, fun k hk hkr => ?_⟩
  have hk' : k < w.heap.size := by simpa [World.setCell] using hk
  by_cases hkb : k = b
  · subst hkb
    simp only [World.setCell, Array.getElem?_modify, if_true, h.block k hk' hkr]
  · rw [Below.heap_setCell _ _ _ _ hkb, Below.heap_setCell _ _ _ _ hkb]
    exact h.block k hk' hkr

theorem setCell_comm (w : World) (b o1 o2 : Nat) (x y : Value) (h : o1 ≠ o2) : (w.setCell ⟨b, o1, none⟩ x).setCell ⟨b, o2, none⟩ y = (w.setCell ⟨b, o2, none⟩ y).setCell ⟨b, o1, none⟩ x := by
  have hh : ((w.setCell ⟨b, o1, none⟩ x).setCell ⟨b, o2, none⟩ y).heap = ((w.setCell ⟨b, o2, none⟩ y).setCell ⟨b, o1, none⟩ x).heap := by
    apply Array.ext
    · simp [World.setCell]
    · intro i h1 h2
      simp only [World.setCell, Array.getElem_modify]
      by_cases hb : b = i
      · subst hb
        simp only [if_true]
        generalize w.heap[b]'(by simpa [World.setCell] using h1) = ob
        cases ob <;> first | rfl | simp [Array.setIfInBounds_comm _ _ h]
      · simp [hb]
  have e1 : (w.setCell ⟨b, o1, none⟩ x).setCell ⟨b, o2, none⟩ y = { w with heap := ((w.setCell ⟨b, o1, none⟩ x).setCell ⟨b, o2, none⟩ y).heap } := rfl
  have e2 : (w.setCell ⟨b, o2, none⟩ y).setCell ⟨b, o1, none⟩ x = { w with heap := ((w.setCell ⟨b, o2, none⟩ y).setCell ⟨b, o1, none⟩ x).heap } := rfl
  rw [e1, e2, hh]

end
end Go.Proofs.Qxb6628283a
