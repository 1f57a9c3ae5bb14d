import Derived.Test.Qxb6628283aRows
import Derived.Test.Qxb6628283aShelf
import Derived.Test.Qxb6628283aModel
import Derived.WalkKit
import Derived.WalkSpells
import Derived.Maps.AppendAt
namespace Go.Proofs.Qxb6628283a
open Go.RowKit
set_option linter.unusedVariables false

theorem row_setCell {w : World} {b o : Nat} {v : Value} {cur : Array Value} {e : TypeId} {fr : Nat × Nat} (h : w.heap[b]? = some (.cells cur e fr)) : (w.setCell ⟨b, o, none⟩ v).heap[b]? = some (.cells (cur.setIfInBounds o v) e fr) := by
  have hlt := lt_of_block h
  have h' : w.heap[b] = .cells cur e fr := by simpa [Array.getElem?_eq_getElem hlt] using h
  show (w.heap.modify b _)[b]? = _
  rw [Array.getElem?_eq_getElem (by simpa using hlt), Array.getElem_modify_self, h']
  rfl

theorem row_setCells (b : Nat) (e : TypeId) (fr : Nat × Nat) : ∀ (vs : List Value) (o : Nat) (w : World) (cur : Array Value), w.heap[b]? = some (.cells cur e fr) → ∃ cur', (w.setCells b o vs).heap[b]? = some (.cells cur' e fr) ∧ cur'.size = cur.size
  | [], _, w, cur, h => ⟨cur, h, rfl⟩
  | v :: r, o, w, cur, h => by
    obtain ⟨cur', h1, h2⟩ := row_setCells b e fr r (o + 1) (w.setCell ⟨b, o, none⟩ v) _ (row_setCell h)
    exact ⟨cur', h1, by rw [h2]; simp⟩

theorem other_setCells (b : Nat) (k : Nat) (hk : k ≠ b) : ∀ (vs : List Value) (o : Nat) (w : World), (w.setCells b o vs).heap[k]? = w.heap[k]?
  | [], _, w => rfl
  | v :: r, o, w => by
    rw [World.setCells, other_setCells b k hk r]
    exact Below.heap_setCell _ _ _ _ hk

theorem frame_setCells (b : Nat) : ∀ (vs : List Value) (o : Nat) (w : World), (w.setCells b o vs).os = w.os ∧ (w.setCells b o vs).tape = w.tape ∧ (w.setCells b o vs).output = w.output ∧ (w.setCells b o vs).heap.size = w.heap.size
  | [], _, w => ⟨rfl, rfl, rfl, rfl⟩
  | v :: r, o, w => by
    obtain ⟨h1, h2, h3, h4⟩ := frame_setCells b r (o + 1) (w.setCell ⟨b, o, none⟩ v)
    rw [World.setCells]
    exact ⟨h1, h2, h3, by rw [h4]; simp [World.setCell]⟩

/-- A row is owned if its first cells are known. -/
theorem own_of_cells {w : World} {B e g n cap : Nat} {cur : Array Value} {xs : List Value} (hB : B ≤ g) (hg : w.heap[g]? = some (.cells cur e (0, 0))) (hs : cur.size = cap) (hn : n ≤ cap) (hm : cap ≤ maxLen) (hl : xs.length = n)
    (hc : ∀ j, j < n → w.cell? ⟨g, j, none⟩ = xs[j]?) : w.ownsRow B e 1 (.slice (some ⟨g, 0, none⟩) n cap) n xs := by
  refine ⟨by rw [hl, Nat.mul_one], .inr ⟨g, cap, cur, rfl, hB, hg, hn, hm, by rw [hs, Nat.mul_one], ?_⟩⟩
  rw [Nat.mul_one]
  apply List.ext_getElem?
  intro j
  rw [List.getElem?_take]
  by_cases hj : j < n
  · rw [if_pos hj]
    have := hc j hj
    rw [cell_of_row w g j cur e (0, 0) hg] at this
    rw [← this]
    simp
  · rw [if_neg hj, List.getElem?_eq_none (by omega)]

theorem own_cell {w : World} {B e g n c : Nat} {xs : List Value} (h : w.ownsRow B e 1 (.slice (some ⟨g, 0, none⟩) n c) n xs) (j : Nat) (hj : j < n) : w.cell? ⟨g, j, none⟩ = xs[j]? := by
  have hl : xs.length = n := by simpa using h.1
  have := h.cells (g := g) rfl j xs[j] (by rw [List.getElem?_eq_getElem])
  rw [Addr.add_lit, Nat.zero_add] at this
  rw [this, List.getElem?_eq_getElem]

/-- slices.BinarySearch over a row that is owned and rises. -/
theorem search_any (w : World) (B n c : Nat) (ao : Option Addr) (zs : List Int) (x : Int) (hown : w.ownsRow B 3 1 (.slice ao n c) n (zs.map (Value.int .i64))) (hs : zs.Pairwise (· < ·)) (hb : n ≤ 16777216) :
    Calls Try.prog 19 #[.slice ao n c, .int .i64 x] w fun e w' => e = .returned (.tuple #[.int .i64 (lowOf x zs : Nat), .bool (decide (x ∈ zs))]) ∧ ∃ q, w' = w.drewN q := by
  have hl : zs.length = n := by simpa using hown.1
  rcases hown.2 with ⟨hv, h0⟩ | ⟨g, cap, cur, hv, hBg, hg, hnc, hcm, hcs, htk⟩
  · simp at hv
    obtain ⟨rfl, rfl, rfl⟩ := hv
    obtain rfl : zs = [] := List.eq_nil_of_length_eq_zero hl
    have h : Calls Try.prog 19 #[.slice none 0 0, .int .i64 x] w fun e w' => e = .returned (.tuple #[.int .i64 0, .bool false]) ∧ w' = w := Any.slices_BinarySearch_int_empty Try.lays25 none 0 x w
    refine h.mono ?_
    rintro e w' ⟨rfl, rfl⟩
    exact ⟨by simp [lowOf], 0, rfl⟩
  · simp at hv
    obtain ⟨rfl, rfl⟩ := hv
    have h : Calls Try.prog 19 #[.slice (some ⟨g, 0, none⟩) n c, .int .i64 x] w fun e w' => e = .returned (.tuple #[.int .i64 ((zs.take n).countP (· < x) : Nat), .bool ((zs.take n).contains x)]) ∧ ∃ q, w' = w.drewN q :=
      Any.slices_BinarySearch_int Try.lays25 g 0 n c zs x w (by omega) (by omega) (fun j hj => by
        rw [Nat.zero_add, own_cell hown j (by omega)]
        simp [List.getElem?_eq_getElem hj, List.getD]) (by
        rw [List.take_of_length_le (by omega)]
        exact hs.imp (fun h => Int.le_of_lt h))
    refine h.mono ?_
    rintro e w' ⟨rfl, hq⟩
    rw [List.take_of_length_le (by omega)]
    exact ⟨by simp [lowOf, List.contains_eq_mem], hq⟩

theorem ins_get (cs : List Value) (i : Nat) (v : Value) (n : Nat) (hl : cs.length = n) (hi : i ≤ n) (j : Nat) (hj : j < n + 1) :
    (cs.take i ++ v :: cs.drop i)[j]? = if j < i then cs[j]? else if j = i then some v else cs[j - 1]? := by
  by_cases h1 : j < i
  · rw [if_pos h1, List.getElem?_append_left (by simp; omega), List.getElem?_take, if_pos h1]
  · rw [if_neg h1, List.getElem?_append_right (by simp; omega)]
    have hlen : (cs.take i).length = i := by simp; omega
    rw [hlen]
    by_cases h2 : j = i
    · subst h2; simp
    · rw [if_neg h2]
      obtain ⟨m, hm⟩ : ∃ m, j - i = m + 1 := ⟨j - i - 1, by omega⟩
      rw [hm, List.getElem?_cons_succ, List.getElem?_drop]
      congr 1; omega

/-- slices.Insert of one number into a row that is owned. -/
theorem insert_any (w : World) (B n c i vb : Nat) (ao : Option Addr) (zs : List Int) (x : Int) (hown : w.ownsRow B 3 1 (.slice ao n c) n (zs.map (Value.int .i64)))
    (hv : w.heap[vb]? = some (.cells #[.int .i64 x] 3 (0, 0))) (hne : (Value.slice ao n c).ownBlock ≠ some vb) (hi : i ≤ n) (hB : B ≤ w.heap.size) (hb : n ≤ 16777216) :
    Calls Try.prog 21 #[.slice ao n c, .int .i64 i, .slice (some ⟨vb, 0, none⟩) 1 1] w fun e w' => ∃ g c', e = .returned (.slice (some ⟨g, 0, none⟩) (n + 1) c') ∧
      w'.ownsRow B 3 1 (.slice (some ⟨g, 0, none⟩) (n + 1) c') (n + 1) ((zs.take i ++ x :: zs.drop i).map (Value.int .i64)) ∧ w.grownBy w' (Value.slice ao n c).ownBlock ∧
      ((Value.slice ao n c).ownBlock = some g ∨ g = w.heap.size) := by
  have hl : (zs.map (Value.int .i64)).length = n := by simpa using hown.1
  have hzl : zs.length = n := by simpa using hl
  have emap : (zs.take i ++ x :: zs.drop i).map (Value.int .i64) = (zs.map (Value.int .i64)).take i ++ Value.int .i64 x :: (zs.map (Value.int .i64)).drop i := by
    rw [List.map_append, List.map_cons, List.map_take, List.map_drop]
  have h1c : ∀ v ∈ zs.map (Value.int .i64), v.oneCell' = true := by intro v hv; simp at hv; obtain ⟨z, _, rfl⟩ := hv; rfl
  rw [emap]
  generalize zs.map (Value.int .i64) = cs at *
  have hvs : ∀ j v, [Value.int .i64 x][j]? = some v → w.cell? ⟨vb, 0 + j, none⟩ = some v := by
    intro j v hj
    match j, hj with
    | 0, hj => simp at hj; subst hj; simp [World.cell?, hv]
    | (j + 1), hj => simp at hj
  have h1v : ∀ v ∈ [Value.int .i64 x], v.oneCell' = true := by intro v hv; simp at hv; subst hv; rfl
  have hlen : (cs.take i ++ Value.int .i64 x :: cs.drop i).length = n + 1 := by simp; omega
  rcases hown.2 with ⟨hvv, h0⟩ | ⟨g, cap, cur, hvv, hBg, hg, hnc, hcm, hcs, htk⟩
  · simp at hvv
    obtain ⟨rfl, rfl, rfl⟩ := hvv
    obtain rfl : cs = [] := List.eq_nil_of_length_eq_zero hl
    obtain rfl : i = 0 := by omega
    have h : Calls Try.prog 21 #[.slice none 0 0, .int .i64 (0 : Nat), .slice (some ⟨vb, 0, none⟩) 1 1] w fun e w' =>
      e = .returned (.slice (some ⟨w.heap.size, 0, none⟩) (0 + 1) (grownCap w (0 + 1) 0 3)) ∧
      w' = w.drew.alloc (.cells (([] ++ [Value.int .i64 x]).toArray ++ Builtin.zeroCells (Value.int .i64 0).cells (grownCap w (0 + 1) 0 3 - (0 + 1))) 3) :=
      Any2.slices_Insert_int_end_grow Try.lays21 none 0 0 vb 0 1 1 [] [.int .i64 x] w (by omega) (by omega) (by omega) (by omega) rfl rfl (fun _ => rfl) (fun a h => by cases h) hvs h1v
    refine h.mono ?_
    rintro e w' ⟨rfl, rfl⟩
    have hge := grownCap_ge w (0 + 1) 0 3
    have hmx := grownCap_le_maxLen w (0 + 1) 0 3 (by unfold maxLen; omega)
    clear h
    generalize grownCap w (0 + 1) 0 3 = G at *
    refine ⟨_, _, rfl, own_of_cells (g := w.heap.size) hB (heap_alloc_new w.drew _) ?_ hge hmx hlen ?_, ⟨rfl, rfl, rfl, by simp, fun k hk _ => Below.heap_alloc w.drew _ k hk⟩, .inr rfl⟩
    · simp [size_zeroCells, Value.cells]; omega
    · intro j hj
      obtain rfl : j = 0 := by omega
      rw [cell_of_row _ w.heap.size 0 _ 3 (0, 0) (heap_alloc_new w.drew _), Array.getElem?_append_left (by simp)]
      simp
  · simp at hvv
    obtain ⟨rfl, rfl⟩ := hvv
    have hcell : ∀ j v, cs[j]? = some v → w.cell? ⟨g, 0 + j, none⟩ = some v := by
      intro j v hj
      have hjn : j < n := by have := (List.getElem?_eq_some_iff.1 hj).1; omega
      rw [Nat.zero_add, own_cell hown j hjn, hj]
    have hsome : ∀ j, j < c → (w.cell? ⟨g, 0 + j, none⟩).isSome = true := by
      intro j hj
      rw [Nat.zero_add, cell_of_row w g j cur 3 (0, 0) hg, Array.getElem?_eq_getElem (by omega)]; rfl
    have hfz : ∀ j, w.frozen? ⟨g, 0 + j, none⟩ = false := by intro j; simp [World.frozen?, hg]
    have hgv : vb ≠ g := by intro e; subst e; exact hne rfl
    have hlt := lt_of_block hg
    by_cases hroom : n + 1 ≤ c
    · by_cases hin : i = n
      · subst hin
        have h : Calls Try.prog 21 #[.slice (some ⟨g, 0, none⟩) i c, .int .i64 i, .slice (some ⟨vb, 0, none⟩) 1 1] w fun e w' => e = .returned (.slice (some ⟨g, 0, none⟩) (i + 1) c) ∧ w' = w.setCells g (0 + i) [.int .i64 x] :=
          Any2.slices_Insert_int_end_room Try.lays21 g 0 i c vb 0 1 1 [.int .i64 x] w (by omega) hroom (by unfold maxLen at hcm; omega) rfl (fun j hj => by rw [Nat.add_assoc]; exact hsome _ (by omega)) (fun j hj => by rw [Nat.add_assoc]; exact hfz _) hvs h1v
        refine h.mono ?_
        rintro e w' ⟨rfl, rfl⟩
        obtain ⟨cur', hc1, hc2⟩ := row_setCells g 3 (0, 0) [.int .i64 x] (0 + i) w cur hg
        obtain ⟨f1, f2, f3, f4⟩ := frame_setCells g [.int .i64 x] (0 + i) w
        refine ⟨g, c, rfl, own_of_cells hBg hc1 (by omega) hroom hcm hlen ?_, ⟨f1, f2, f3, by omega, fun k hk hne' => other_setCells g k (fun e => hne' (by rw [e]; rfl)) _ _ _⟩, .inl rfl⟩
        intro j hj
        rw [ins_get cs i _ i hl (Nat.le_refl _) j hj]
        by_cases h1 : j < i
        · rw [if_pos h1, World.cell?_setCells_out g _ _ _ _ (fun _ _ => .inl (by show j < 0 + i; omega)), own_cell hown j h1]
        · obtain rfl : j = i := by omega
          rw [if_neg (by omega), if_pos rfl]
          have := World.cell?_setCells_in g [.int .i64 x] (0 + j) w (fun k hk => by
            obtain rfl : k = 0 := by simpa using hk
            exact hsome _ (by omega)) 0 (by simp)
          simpa using this
      · have h : Calls Try.prog 21 #[.slice (some ⟨g, 0, none⟩) n c, .int .i64 i, .slice (some ⟨vb, 0, none⟩) 1 1] w fun e w' => e = .returned (.slice (some ⟨g, 0, none⟩) (n + 1) c) ∧ w' = (w.drew.setCells g (0 + (i + 1)) (cs.drop i)).setCells g (0 + i) [.int .i64 x] :=
          Any2.slices_Insert_int_shift Try.lays21 g 0 n c i vb 0 1 1 cs [.int .i64 x] w (by omega) (by omega) hroom (by unfold maxLen at hcm; omega) hgv hl rfl hcell (fun j hj => hsome j (by omega)) (fun j hj => hfz j) hvs h1c h1v
            3 3 1 c (by simp [World.shape?, hv]) (by simp [World.shape?, hg]; omega) (by omega) (by simp [World.frozen?, hv]) (by simp [World.frozen?, hv])
        refine h.mono ?_
        rintro e w' ⟨rfl, rfl⟩
        obtain ⟨cur1, hc1, hc2⟩ := row_setCells g 3 (0, 0) (cs.drop i) (0 + (i + 1)) w.drew cur hg
        obtain ⟨cur', hd1, hd2⟩ := row_setCells g 3 (0, 0) [.int .i64 x] (0 + i) _ cur1 hc1
        obtain ⟨f1, f2, f3, f4⟩ := frame_setCells g (cs.drop i) (0 + (i + 1)) w.drew
        obtain ⟨k1, k2, k3, k4⟩ := frame_setCells g [.int .i64 x] (0 + i) (w.drew.setCells g (0 + (i + 1)) (cs.drop i))
        refine ⟨g, c, rfl, own_of_cells hBg hd1 (by omega) hroom hcm hlen ?_, ⟨k1.trans f1, k2.trans f2, k3.trans f3, by rw [k4, f4]; exact Nat.le_refl _, fun k hk hne' => ?_⟩, .inl rfl⟩
        · have hsome1 : ∀ j, j < c → ((w.drew.setCells g (0 + (i + 1)) (cs.drop i)).cell? ⟨g, j, none⟩).isSome = true := by
            intro j hj
            rw [cell_of_row _ g j cur1 3 (0, 0) hc1, Array.getElem?_eq_getElem (by omega)]; rfl
          intro j hj
          rw [ins_get cs i _ n hl hi j hj]
          by_cases h1 : j < i
          · rw [if_pos h1, World.cell?_setCells_out g _ _ _ _ (fun _ _ => .inl (by show j < 0 + i; omega)), World.cell?_setCells_out g _ _ _ _ (fun _ _ => .inl (by show j < 0 + (i + 1); omega))]
            exact own_cell hown j (by omega)
          · rw [if_neg h1]
            by_cases h2 : j = i
            · subst h2
              rw [if_pos rfl]
              have := World.cell?_setCells_in g [.int .i64 x] (0 + j) (w.drew.setCells g (0 + (j + 1)) (cs.drop j)) (fun k hk => by
                obtain rfl : k = 0 := by simpa using hk
                rw [show 0 + j + 0 = j by omega]
                exact hsome1 j (by omega)) 0 (by simp)
              simpa using this
            · rw [if_neg h2, World.cell?_setCells_out g _ _ _ _ (fun _ _ => .inr (by show 0 + i + 1 ≤ j; omega))]
              have hd : (cs.drop i).length = n - i := by simp; omega
              have := World.cell?_setCells_in g (cs.drop i) (0 + (i + 1)) w.drew (fun k hk => by
                have := hsome (i + 1 + k) (by omega)
                rwa [show 0 + (i + 1 + k) = 0 + (i + 1) + k by omega] at this) (j - (i + 1)) (by omega)
              rw [show 0 + (i + 1) + (j - (i + 1)) = j by omega] at this
              rw [this, List.getElem_drop, List.getElem?_eq_getElem (by omega)]
              congr 2; omega
        · have hkg : k ≠ g := fun e => hne' (by rw [e]; rfl)
          rw [other_setCells g k hkg, other_setCells g k hkg]
          rfl
    · by_cases hin : i = n
      · subst hin
        have h : Calls Try.prog 21 #[.slice (some ⟨g, 0, none⟩) i c, .int .i64 i, .slice (some ⟨vb, 0, none⟩) 1 1] w fun e w' =>
          e = .returned (.slice (some ⟨w.heap.size, 0, none⟩) (i + 1) (grownCap w (i + 1) c 3)) ∧
          w' = w.drew.alloc (.cells ((cs ++ [Value.int .i64 x]).toArray ++ Builtin.zeroCells (Value.int .i64 0).cells (grownCap w (i + 1) c 3 - (i + 1))) 3) :=
          Any2.slices_Insert_int_end_grow Try.lays21 (some ⟨g, 0, none⟩) i c vb 0 1 1 cs [.int .i64 x] w (by omega) hnc (by omega) (by omega) hl rfl (fun h => by cases h) (fun a ha j v hj => by
            cases ha
            rw [Addr.add_lit]
            exact hcell j v hj) hvs h1v
        refine h.mono ?_
        rintro e w' ⟨rfl, rfl⟩
        have hge := grownCap_ge w (i + 1) c 3
        refine ⟨_, _, rfl, own_of_cells (g := w.heap.size) hB (heap_alloc_new w.drew _) ?_ hge (grownCap_le_maxLen w (i + 1) c 3 (by unfold maxLen; omega)) hlen ?_, ⟨rfl, rfl, rfl, by simp, fun k hk _ => Below.heap_alloc w.drew _ k hk⟩, .inr rfl⟩
        · simp [size_zeroCells, Value.cells]; omega
        · intro j hj
          rw [cell_of_row _ w.heap.size j _ 3 (0, 0) (heap_alloc_new w.drew _), Array.getElem?_append_left (by simp; omega), List.getElem?_toArray]
          rw [List.take_of_length_le (by omega), List.drop_eq_nil_of_le (by omega)]
      · have h : Calls Try.prog 21 #[.slice (some ⟨g, 0, none⟩) n c, .int .i64 i, .slice (some ⟨vb, 0, none⟩) 1 1] w fun e w' =>
          e = .returned (.slice (some ⟨w.heap.size, 0, none⟩) (n + 1) (grownCap w (n + 1) c 3)) ∧
          w' = (((w.alloc (.cells ((cs.take i).toArray ++ Builtin.zeroCells (Value.int .i64 0).cells (n + 1 - i) ++ Builtin.zeroCells (Value.int .i64 0).cells (grownCap w (n + 1) c 3 - (n + 1))) 3)).drew.setCells w.heap.size i [.int .i64 x]).drew).setCells w.heap.size (i + 1) (cs.drop i) :=
          Any2.slices_Insert_int_grow Try.lays21 g 0 n c i vb 0 1 1 cs [.int .i64 x] w (by omega) (by omega) hnc (by omega) (by omega) hl rfl hcell hvs h1c h1v
        refine h.mono ?_
        rintro e w' ⟨rfl, rfl⟩
        have hge := grownCap_ge w (n + 1) c 3
        have hmx := grownCap_le_maxLen w (n + 1) c 3 (by unfold maxLen; omega)
        generalize grownCap w (n + 1) c 3 = G at *
        obtain ⟨ROW, hROW⟩ : ∃ ROW : Array Value, ROW = (cs.take i).toArray ++ Builtin.zeroCells (Value.int .i64 0).cells (n + 1 - i) ++ Builtin.zeroCells (Value.int .i64 0).cells (G - (n + 1)) := ⟨_, rfl⟩
        have hRs : ROW.size = G := by rw [hROW]; simp [size_zeroCells, Value.cells]; omega
        have hRt : ∀ j, j < i → ROW[j]? = cs[j]? := by
          intro j hj
          rw [hROW, Array.append_assoc, Array.getElem?_append_left (by simp; omega), List.getElem?_toArray, List.getElem?_take, if_pos hj]
        rw [← hROW]
        have ha : (w.alloc (.cells ROW 3)).drew.heap[w.heap.size]? = some (.cells ROW 3 (0, 0)) := heap_alloc_new w _
        obtain ⟨cur1, hc1, hc2⟩ := row_setCells w.heap.size 3 (0, 0) [.int .i64 x] i _ ROW ha
        obtain ⟨cur', hd1, hd2⟩ := row_setCells w.heap.size 3 (0, 0) (cs.drop i) (i + 1) ((w.alloc (.cells ROW 3)).drew.setCells w.heap.size i [.int .i64 x]).drew cur1 hc1
        obtain ⟨f1, f2, f3, f4⟩ := frame_setCells w.heap.size [.int .i64 x] i (w.alloc (.cells ROW 3)).drew
        obtain ⟨k1, k2, k3, k4⟩ := frame_setCells w.heap.size (cs.drop i) (i + 1) ((w.alloc (.cells ROW 3)).drew.setCells w.heap.size i [.int .i64 x]).drew
        refine ⟨_, _, rfl, own_of_cells (g := w.heap.size) hB hd1 (by omega) hge hmx hlen ?_, ⟨k1.trans f1, k2.trans f2, k3.trans f3, ?_, fun k hk hne' => ?_⟩, .inr rfl⟩
        · have hd : (cs.drop i).length = n - i := by simp; omega
          intro j hj
          rw [ins_get cs i _ n hl hi j hj]
          by_cases h1 : j < i
          · rw [if_pos h1, World.cell?_setCells_out w.heap.size _ _ _ _ (fun _ _ => .inl (by show j < i + 1; omega))]
            show ((w.alloc (.cells ROW 3)).drew.setCells w.heap.size i [.int .i64 x]).cell? _ = _
            rw [World.cell?_setCells_out w.heap.size _ _ _ _ (fun _ _ => .inl (by show j < i; omega)), cell_of_row _ w.heap.size j ROW 3 (0, 0) ha]
            exact hRt j h1
          · rw [if_neg h1]
            by_cases h2 : j = i
            · subst h2
              rw [if_pos rfl, World.cell?_setCells_out w.heap.size _ _ _ _ (fun _ _ => .inl (by show j < j + 1; omega))]
              have := World.cell?_setCells_in w.heap.size [.int .i64 x] j (w.alloc (.cells ROW 3)).drew (fun k hk => by
                obtain rfl : k = 0 := by simpa using hk
                rw [cell_of_row _ w.heap.size _ ROW 3 (0, 0) ha, Array.getElem?_eq_getElem (by omega)]; rfl) 0 (by simp)
              exact this
            · rw [if_neg h2]
              have := World.cell?_setCells_in w.heap.size (cs.drop i) (i + 1) ((w.alloc (.cells ROW 3)).drew.setCells w.heap.size i [.int .i64 x]).drew (fun k hk => by
                show (((w.alloc (.cells ROW 3)).drew.setCells w.heap.size i [.int .i64 x]).cell? ⟨w.heap.size, i + 1 + k, none⟩).isSome = true
                rw [cell_of_row _ w.heap.size _ cur1 3 (0, 0) hc1, Array.getElem?_eq_getElem (by omega)]; rfl) (j - (i + 1)) (by omega)
              rw [show i + 1 + (j - (i + 1)) = j by omega] at this
              rw [this, List.getElem_drop, List.getElem?_eq_getElem (by omega)]
              congr 2; omega
        · rw [k4]
          show _ ≤ ((w.alloc (.cells ROW 3)).drew.setCells w.heap.size i [.int .i64 x]).heap.size
          rw [f4]; simp
        · rw [other_setCells w.heap.size k (by omega)]
          show ((w.alloc (.cells ROW 3)).drew.setCells w.heap.size i [.int .i64 x]).heap[k]? = _
          rw [other_setCells w.heap.size k (by omega)]
          exact Below.heap_alloc w _ k hk

end Go.Proofs.Qxb6628283a
