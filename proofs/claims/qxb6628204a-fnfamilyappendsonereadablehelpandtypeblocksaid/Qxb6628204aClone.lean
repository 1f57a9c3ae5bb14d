import Derived.Test.Qxb6628204aFam
namespace Go.Proofs.Qxb6628204a
open Go.RowKit Go.Lib
set_option linter.unusedVariables false

theorem splice_whole {α : Type} (L cs : List α) (h : cs.length = L.length) : splice L 0 cs = cs := by
  unfold splice
  simp [h]

theorem made_len (n : Nat) : (madeCells (Value.int .u8 0).cells (n * 1)).toList.length = n := by
  simp [madeCells]

set_option maxHeartbeats 400000 in
theorem clone_some (w : World) (x : Addr) (n cap : Nat) (zs : List Int) (hz : zs.length = n) (hn : n ≤ 16777216)
    (hc : ∀ i, i < n → w.cell? (x.add i) = some (.int .u8 (zs.getD i 0))) :
    Calls Try.prog 7 #[.slice (some x) n cap] w fun e w' => e = .returned (.slice (some ⟨w.heap.size, 0, none⟩) n n) ∧
      w'.ownsRow w.heap.size 5 1 (.slice (some ⟨w.heap.size, 0, none⟩) n n) n (zs.map (Value.int .u8)) ∧ Below w.heap.size w w' := by
  have q := fun (w : World) (a : Option Addr) (n c : Nat) => run_eql_slice_nil (P := Try.prog) w 22 5 a n c 0 0 Try.underlying22
  obtain ⟨i0, hi, hz0, hz1, hz2⟩ := info_parts Try.info5
  have hsz : (Try.prog.info? 5).map (·.size) = some 1 := by rw [hi]; simp [hz1]
  obtain ⟨cs, hcs⟩ : ∃ cs, Hid (cs = zs.map (Value.int .u8)) := ⟨_, rfl⟩
  have hlen : cs.length = n := by rw [hcs.out]; simp [hz]
  have h1 : ∀ v ∈ cs, v.oneCell' = true := by rw [hcs.out]; intro v hv; simp at hv; obtain ⟨z, _, rfl⟩ := hv; rfl
  have hsrc : ∀ j v, cs[j]? = some v → w.cell? (x.add j) = some v := by
    intro j v hj
    rw [hcs.out] at hj
    have hjn : j < n := by have := (List.getElem?_eq_some_iff.1 hj).1; simpa [hz] using this
    rw [hc j hjn, ← hj]
    simp [List.getD, hz, hjn]
  have hx : ∀ j, j < n → x.block < w.heap.size := fun j hj => World.block_lt_of_cell? _ _ (hc j hj) |> fun h => by
    have e : (x.add j).block = x.block := by unfold Addr.add; split <;> rfl
    rwa [e] at h
  go_enter Try.func7, Try.ntmps7
  go_wp2_with (at_make; refine wpList_make_full _ rfl (.tmp 7) (.tmp 7) 22 rfl w.heap.size 5 i0 (.int .u8 0) 1 Try.underlying22 hi hz0 hz1 _ _ _ _ n rfl rfl rfl rfl ?b2 ?b3 ?b4 ?next)
  case b2 => rw [hz2]; omega
  case b3 => unfold maxLen; omega
  case b4 => exact Nat.le_refl _
  case next =>
    intro w1 hown hgrow
    have hb1 : Below w.heap.size w w1 := (Below.refl _ _).grown hgrow (Nat.le_refl _) (fun k h => by cases h)
    obtain ⟨cur, hcur, hcl⟩ : ∃ cur : List Value, w1.heap[w.heap.size]? = some (.cells cur.toArray 5 (0, 0)) ∧ cur.length = n := by
      rcases hown.2 with ⟨h0, _⟩ | ⟨g, cap, cur, hv, _, hgg, _, _, hcz, _⟩
      · cases h0
      · simp at hv
        obtain ⟨rfl, rfl⟩ := hv
        exact ⟨cur.toList, hgg, by simpa using hcz⟩
    have HC := hcur
    clear hown hgrow hcur
    have D1 : Hid (cs.length = Nat.min n n) := by show _ = _; rw [hlen]; simp
    have D2 : Hid (0 < cs.length → (some (⟨w.heap.size, 0, none⟩ : Addr)) = some ⟨w.heap.size, 0, none⟩ ∧ ∃ ad, some x = some ad ∧ ∀ j v, cs[j]? = some v → w1.cell? (ad.add j) = some v) := by
      intro hp
      refine ⟨rfl, x, rfl, fun j v hj => ?_⟩
      have h := hsrc j v hj
      exact (hb1.cell (p := x.add j) (World.block_lt_of_cell? _ _ h)).trans h
    have D3 : 0 + cs.length ≤ cur.length := by omega
    go_wp2_with (refine wpList_copy_splice rfl (.tmp 9) (.tmp 10) 22 22 rfl 5 Try.underlying22 hsz (some ⟨w.heap.size, 0, none⟩) (some x) n n n cap rfl rfl w.heap.size 0 cur 5 HC cs D1.out D2.out D3 h1 w.heap.size w hb1 (Nat.le_refl _) ?d4)
    case d4 =>
      intro w2 HG hb2
      have hg2 := HG.out
      rw [splice_whole _ _ (by omega), hcs.out] at hg2
      have own2 : w2.ownsRow w.heap.size 5 1 (.slice (some ⟨w.heap.size, 0, none⟩) n n) n (zs.map (Value.int .u8)) :=
        ⟨by simp [hz], .inr ⟨w.heap.size, n, _, rfl, Nat.le_refl _, hg2, Nat.le_refl _, by unfold maxLen; omega, by simp [hz], by rw [Nat.mul_one]; exact List.take_of_length_le (by simp [hz])⟩⟩
      clear HG hg2
      go_wp2
      go_ret
      exact ⟨rfl, own2, hb2⟩

end Go.Proofs.Qxb6628204a
