import Derived.WalkKit
import Derived.WalkSpells
import Derived.Lib.AppendStr
import Derived.Maps.AppendAt
import Derived.Laws.CopyOwn
namespace Go.Proofs.Qxb6628204a
open Go.RowKit Go.Lib
set_option linter.unusedVariables false

/-- What is owned in w is owned in w' if its own block is as it was. -/
theorem owns_same {w w' : World} {base e size n : Nat} {v : Value} {xs : List Value} (h : w.ownsRow base e size v n xs)
    (hb : ∀ g, v.ownBlock = some g → w'.heap[g]? = w.heap[g]?) : w'.ownsRow base e size v n xs := by
  refine ⟨h.1, ?_⟩
  rcases h.2 with hn | ⟨g, cap, cur, rfl, hbg, hgg, rest⟩
  · exact .inl hn
  · exact .inr ⟨g, cap, cur, rfl, hbg, (hb g rfl).trans hgg, rest⟩

theorem owns_mono {w : World} {base base' e size n : Nat} {v : Value} {xs : List Value} (h : w.ownsRow base e size v n xs)
    (hb : base' ≤ base) : w.ownsRow base' e size v n xs := by
  refine ⟨h.1, ?_⟩
  rcases h.2 with hn | ⟨g, cap, cur, hv, hbg, rest⟩
  · exact .inl hn
  · exact .inr ⟨g, cap, cur, hv, Nat.le_trans hb hbg, rest⟩

/-- Appending a string's bytes: where the new slice lies. -/
theorem run_append_str_at {P : Program} (w : World) (base : Nat) (t u ty e : TypeId) (i : TypeInfo) (ht : P.underlying t = some (.slice e)) (hu : P.underlying u = some .string)
    (hi : P.info? e = some i) (hz : i.zero = some (.int .u8 0)) (hsize : i.size = 1) (hby : i.bytes = 1)
    (v : Value) (n : Nat) (xs : List Value) (hown : w.ownsRow base e 1 v n xs) (s : ByteArray)
    (hpos : 0 < n + s.size) (hbytes : n + s.size ≤ 140737488355328) (hbase : base ≤ w.heap.size) :
    ∃ g cap w', (Builtin.append_ #[t, u] ty #[v, .string s]).run P w = .ok (.slice (some ⟨g, 0, none⟩) (n + s.size) cap) w' ∧
      w'.ownsRow base e 1 (.slice (some ⟨g, 0, none⟩) (n + s.size) cap) (n + s.size) (xs ++ strCells s) ∧ w.grownBy w' v.ownBlock ∧
      (v.ownBlock = some g ∨ g = w.heap.size) := by
  obtain ⟨v', w', hr, h1, h2, h3⟩ := run_append_own_string (P := P) w base t u ty e i ht hu hi hz hsize hby v n xs hown s (by unfold maxLen; omega) hbytes hbase
  have key : ∃ g cap, v' = .slice (some ⟨g, 0, none⟩) (n + s.size) cap ∧ (v.ownBlock = some g ∨ g = w.heap.size) := by
    rcases hown.2 with ⟨rfl, rfl⟩ | ⟨g, cap, cur, rfl, hbg, hgg, hnc, hcm, hcs, htake⟩
    · have hr2 := run_append_nil_string (P := P) w t u ty e i _ ht hu hi hz s (by omega) (by omega) (by rw [hby]; omega)
      rw [hr] at hr2
      injection hr2 with e1 e2
      subst e1
      exact ⟨_, _, by rw [Nat.zero_add], .inr rfl⟩
    · by_cases hroom : n + s.size ≤ cap
      · have hr2 := run_append_room_string (P := P) w t u ty e i ht hu hi hsize g n cap cur hgg s hroom (by omega)
        rw [hr] at hr2
        injection hr2 with e1 e2
        subst e1
        exact ⟨_, _, rfl, .inl rfl⟩
      · have holds : ∀ j u, xs[j]? = some u → w.cell? ((⟨g, 0, none⟩ : Addr).add j) = some u := hown.cells (g := g) rfl
        have hr2 := run_append_grow_string (P := P) w t u ty e i _ ht hu hi hz ⟨g, 0, none⟩ n cap xs (by rw [hsize]; exact hown.1) holds s (by omega) (by omega) (growslice_fits (by omega) (by rw [hby]; omega))
        rw [hr] at hr2
        injection hr2 with e1 e2
        subst e1
        exact ⟨_, _, rfl, .inr rfl⟩
  obtain ⟨g, cap, rfl, hat⟩ := key
  exact ⟨g, cap, w', hr, h1, h2, hat⟩

/-- A page in the middle of its writing: its block holds the text 'tv' (which owns the cells xs) and the family; but for the page and the row that the text had at the start nothing of W0 has turned. -/
structure St (W0 : World) (pb B : Nat) (row0 : Option Nat) (w : World) (tv : Value) (n : Nat) (xs : List Value) (nm : ByteArray) : Prop where
  page : w.heap[pb]? = some (.cells #[tv, .string nm] 36 (0, 0))
  own : w.ownsRow B 5 1 tv n xs
  lies : ∀ g, tv.ownBlock = some g → row0 = some g ∨ W0.heap.size ≤ g
  os : w.os = W0.os
  tape : w.tape = W0.tape
  output : w.output = W0.output
  size : W0.heap.size ≤ w.heap.size
  base : B ≤ W0.heap.size
  blk : ∀ k, k < W0.heap.size → k ≠ pb → some k ≠ row0 → w.heap[k]? = W0.heap[k]?

theorem St.lt {W0 w : World} {pb B n : Nat} {row0 : Option Nat} {tv : Value} {xs : List Value} {nm : ByteArray} (h : St W0 pb B row0 w tv n xs nm) : pb < w.heap.size := lt_of_block h.page

theorem St.alloc {W0 w : World} {pb B n : Nat} {row0 : Option Nat} {tv : Value} {xs : List Value} {nm : ByteArray} (h : St W0 pb B row0 w tv n xs nm) (o : Obj) :
    St W0 pb B row0 (w.alloc o) tv n xs nm :=
  ⟨(Below.heap_alloc w o pb h.lt).trans h.page, h.own.alloc o, h.lies, h.os, h.tape, h.output, by simp; have := h.size; omega, h.base,
    fun k hk h1 h2 => (Below.heap_alloc w o k (by have := h.size; omega)).trans (h.blk k hk h1 h2)⟩

theorem page_setCell0 {w : World} {b : Nat} {x y u : Value} {t : TypeId} (h : w.heap[b]? = some (.cells #[x, y] t (0, 0))) : (w.setCell ⟨b, 0, none⟩ u).heap[b]? = some (.cells #[u, y] t (0, 0)) := by
  have hlt := lt_of_block h
  have h' : w.heap[b] = .cells #[x, y] t (0, 0) := by simpa [Array.getElem?_eq_getElem hlt] using h
  show (w.heap.modify b _)[b]? = _
  rw [Array.getElem?_eq_getElem (by simpa using hlt), Array.getElem_modify_self, h']
  rfl

theorem page_setCell1 {w : World} {b : Nat} {x y u : Value} {t : TypeId} (h : w.heap[b]? = some (.cells #[x, y] t (0, 0))) : (w.setCell ⟨b, 1, none⟩ u).heap[b]? = some (.cells #[x, u] t (0, 0)) := by
  have hlt := lt_of_block h
  have h' : w.heap[b] = .cells #[x, y] t (0, 0) := by simpa [Array.getElem?_eq_getElem hlt] using h
  show (w.heap.modify b _)[b]? = _
  rw [Array.getElem?_eq_getElem (by simpa using hlt), Array.getElem_modify_self, h']
  rfl

theorem page_cell0 {w : World} {b : Nat} {x y : Value} {t : TypeId} (h : w.heap[b]? = some (.cells #[x, y] t (0, 0))) : w.cell? ⟨b, 0, none⟩ = some x := by simp [World.cell?, h]
theorem page_cell1 {w : World} {b : Nat} {x y : Value} {t : TypeId} (h : w.heap[b]? = some (.cells #[x, y] t (0, 0))) : w.cell? ⟨b, 1, none⟩ = some y := by simp [World.cell?, h]
theorem page_frozen {w : World} {b k : Nat} {x y : Value} {t : TypeId} (h : w.heap[b]? = some (.cells #[x, y] t (0, 0))) : w.frozen? ⟨b, k, none⟩ = false := by simp [World.frozen?, h]

/-- The page's block is none of the text's row: their element types differ. -/
theorem St.apart {W0 w : World} {pb B n : Nat} {row0 : Option Nat} {tv : Value} {xs : List Value} {nm : ByteArray} (h : St W0 pb B row0 w tv n xs nm) : tv.ownBlock ≠ some pb := by
  intro he
  rcases h.own.2 with ⟨rfl, _⟩ | ⟨g, cap, cur, rfl, _, hgg, _⟩
  · simp [Value.ownBlock] at he
  · simp [Value.ownBlock] at he
    subst he
    have := h.page
    rw [hgg] at this
    simp at this

theorem St.step {W0 w w1 : World} {pb B n n' : Nat} {row0 : Option Nat} {tv v' : Value} {xs xs' : List Value} {nm : ByteArray} (h : St W0 pb B row0 w tv n xs nm)
    (hg : w.grownBy w1 tv.ownBlock) (hown : w1.ownsRow B 5 1 v' n' xs') (hat : ∀ g, v'.ownBlock = some g → tv.ownBlock = some g ∨ g = w.heap.size) :
    w1.heap[pb]? = some (.cells #[tv, .string nm] 36 (0, 0)) ∧ St W0 pb B row0 (w1.setCell ⟨pb, 0, none⟩ v') v' n' xs' nm := by
  have hpg : w1.heap[pb]? = some (.cells #[tv, .string nm] 36 (0, 0)) := (hg.block pb h.lt (fun e => h.apart e.symm)).trans h.page
  refine ⟨hpg, page_setCell0 hpg, ?_, ?_, hg.os.trans h.os, hg.tape.trans h.tape, hg.output.trans h.output, ?_, h.base, ?_⟩
  · refine ownsRow_setCell_other hown ?_ _
    intro he
    rcases hown.2 with ⟨rfl, _⟩ | ⟨g, cap, cur, rfl, _, hgg, _⟩
    · simp [Value.ownBlock] at he
    · simp [Value.ownBlock] at he
      subst he
      rw [hgg] at hpg
      simp at hpg
  · intro g hgb
    rcases hat g hgb with h1 | h1
    · exact h.lies g h1
    · right; have := h.size; omega
  · have := h.size; have := hg.size; simp [World.setCell]; omega
  · intro k hk h1 h2
    rw [Below.heap_setCell _ _ _ _ h1]
    refine (hg.block k (by have := h.size; omega) ?_).trans (h.blk k hk h1 h2)
    intro e
    rcases h.lies k e.symm with h3 | h3
    · exact h2 h3.symm
    · omega

section
variable {P : Program}

/-- 'p.text = append(p.text, s...)', s a string: the append's step. -/
theorem wpList_pg_str {w : World} {ops : Array Oper} {rest : List Oper} {o : Oper} {a : Act} {Q : Exit → Act → World → Prop} (hgd : o.guard = none) (sl x : Operand)
    (ho : o.op = .call { callee := .builtin .append, args := #[sl, x], argTypes := #[22, 9] })
    (ht : P.underlying 22 = some (.slice 5)) (hu : P.underlying 9 = some .string) (hi : (P.info? 5).map (fun i => (i.zero, i.size, i.bytes)) = some (some (.int .u8 0), 1, 1))
    {W0 : World} {pb B n : Nat} {row0 : Option Nat} {tv : Value} {xs : List Value} {nm : ByteArray} (hst : St W0 pb B row0 w tv n xs nm)
    (hs : a.eval sl = tv) (s : ByteArray) (hx : a.eval x = .string s) (N : Nat) (hN : n + s.size = N) (hpos : 0 < N) (hlen : N ≤ 140737488355328)
    (h : ∀ g cap w1, w1.heap[pb]? = some (.cells #[tv, .string nm] 36 (0, 0)) →
      St W0 pb B row0 (w1.setCell ⟨pb, 0, none⟩ (.slice (some ⟨g, 0, none⟩) N cap)) (.slice (some ⟨g, 0, none⟩) N cap) N (xs ++ strCells s) nm →
      wpList P ops Q rest (a.put o.dst (.slice (some ⟨g, 0, none⟩) N cap)) w1) : wpList P ops Q (o :: rest) a w := by
  subst hN
  obtain ⟨i0, hi0, hz0, hz1, hz2⟩ := info_parts hi
  refine wpList_plain hgd fun K hK => ?_
  obtain ⟨g, cap, w', hr, h2, h3, h4⟩ := run_append_str_at (P := P) w B 22 9 o.type 5 i0 ht hu hi0 hz0 hz1 hz2 tv n xs hst.own s hpos hlen (Nat.le_trans hst.base hst.size)
  obtain ⟨hp, hst'⟩ := hst.step h3 h2 (fun k hk => by simp [Value.ownBlock] at hk; subst hk; exact h4)
  unfold Oper.wp execOp
  simp only [ho, resolve, invoke, builtin, Sem.run_bind, Sem.run_pure, Result.andThen_ok, List.map_toArray, List.map_cons, List.map_nil, hs, hx, hr]
  exact hK _ _ (h g cap w' hp hst')

/-- 'p.text = append(p.text, c)', c a byte: the append's step. -/
theorem wpList_pg_byte {w : World} {ops : Array Oper} {rest : List Oper} {o : Oper} {a : Act} {Q : Exit → Act → World → Prop} (hgd : o.guard = none) (sl x : Operand)
    (ho : o.op = .call { callee := .builtin .append, args := #[sl, x], argTypes := #[22, 22] })
    (ht : P.underlying 22 = some (.slice 5)) (hi : (P.info? 5).map (fun i => (i.zero, i.size, i.bytes)) = some (some (.int .u8 0), 1, 1))
    {W0 : World} {pb B n : Nat} {row0 : Option Nat} {tv : Value} {xs : List Value} {nm : ByteArray} (hst : St W0 pb B row0 w tv n xs nm) (c : Int)
    (hs : a.eval sl = tv) (H : Nat) (hx : a.eval x = .slice (some ⟨H, 0, none⟩) 1 1) (hH : w.heap.size = H) (N : Nat) (hN : n + 1 = N) (hlen : N ≤ 140737488355328)
    (h : ∀ g cap w1, w1.heap[pb]? = some (.cells #[tv, .string nm] 36 (0, 0)) →
      St W0 pb B row0 (w1.setCell ⟨pb, 0, none⟩ (.slice (some ⟨g, 0, none⟩) N cap)) (.slice (some ⟨g, 0, none⟩) N cap) N (xs ++ [.int .u8 c]) nm →
      wpList P ops Q rest (a.put o.dst (.slice (some ⟨g, 0, none⟩) N cap)) w1) : wpList P ops Q (o :: rest) a (w.alloc (.cells #[.int .u8 c] 5)) := by
  subst hN
  subst hH
  obtain ⟨i0, hi0, hz0, hz1, hz2⟩ := info_parts hi
  refine wpList_plain hgd fun K hK => ?_
  have hst1 := hst.alloc (.cells #[.int .u8 c] 5)
  obtain ⟨v', w', hr, h2, h3, h5, h4⟩ := run_append_own_at (P := P) (w.alloc (.cells #[.int .u8 c] 5)) B 22 o.type 5 i0 (.int .u8 0) 1 1 ht hi0 hz0 hz1 hz2 rfl (by decide) tv n xs hst1.own
    ⟨w.heap.size, 0, none⟩ 1 1 [.int .u8 c] rfl (cell_one_new _ _ _) (fun u hu => by simp at hu; subst hu; rfl) (by unfold maxLen; omega) (by omega) (Nat.le_trans hst1.base hst1.size)
  obtain ⟨g, cap, rfl⟩ : ∃ g cap, v' = .slice (some ⟨g, 0, none⟩) (n + 1) cap := by
    rcases h2.2 with ⟨_, h0⟩ | ⟨g, cap, cur, hv, _⟩
    · omega
    · exact ⟨g, cap, hv⟩
  obtain ⟨hp, hst'⟩ := hst1.step h3 h2 (fun k hk => by
    rcases h4 with h4 | h4
    · exact .inl (h4 ▸ hk)
    · right; rw [h4] at hk; simpa using hk.symm)
  unfold Oper.wp execOp
  simp only [ho, resolve, invoke, builtin, Sem.run_bind, Sem.run_pure, Result.andThen_ok, List.map_toArray, List.map_cons, List.map_nil, hs, hx, hr]
  exact hK _ _ (h g cap w' hp hst')
end

end Go.Proofs.Qxb6628204a
