import Derived.Test.Qxb6628283aItems
namespace Go.Proofs.Qxb6628283a
open Go.RowKit
set_option linter.unusedVariables false

set_option maxHeartbeats 1600000 in
set_option maxRecDepth 100000 in
theorem add_any (w : World) (B rb pp eb n : Nat) (ps : Nat → Epr) (its : List (Nat × Int)) (hR : RkI w B rb its) (hP : PieceAt w pp eb n ps) (hD : Dom ps n) (hn : n ≤ 4096) (hl : its.length ≤ 8192) (hi : ∀ p ∈ its, p.1 ≤ 65536) :
    Calls Try.prog 6 #[.pointer (some ⟨rb, 0, none⟩), .pointer (some ⟨pp, 0, none⟩)] w fun en w' => en = .returned (.tuple #[]) ∧ RkI w' B rb (its ++ itemsTo ps n) ∧ Fr B rb w w' := by
  have cp : w.cell? ⟨pp, 1, none⟩ = some (.slice (some ⟨eb, 0, none⟩) n n) := by simp [World.cell?, hP.pc]
  go_enter Try.func6, Try.ntmps6
  go_wp2_with fail
  go_loopw [11] (fun i wr => ∃ k : Nat, k ≤ n ∧ i = .int .i64 k ∧ RkI wr B rb (its ++ itemsTo ps k) ∧ Fr B rb w wr) (fun i _ => n - (intOf i).toNat)
  case atStart => exact ⟨0, Nat.zero_le _, rfl, by simpa [itemsTo] using hR, Fr.refl _ _ _⟩
  case round =>
    obtain ⟨k, hk, rfl, hrk, hfr⟩ := hrel
    by_cases hlt : k < n
    · obtain ⟨q0, q1, q2, q3⟩ := (hP.fr hfr).cells k hlt
      have hdk := hD k hlt
      have HI : Hid (itemsTo ps (k + 1) = itemsTo ps k ++ (if (ps k).item then [((ps k).by_.toNat, (ps k).ep)] else [])) := rfl
      have hlen : (its ++ itemsTo ps k).length ≤ 16384 := by have := itemsTo_len ps k; simp; omega
      have hle : lenOf (its ++ itemsTo ps k) ≤ 65537 := lenOf_le _ 65536 (fun p hp => by
        rcases List.mem_append.1 hp with h | h
        · exact hi p h
        · exact itemsTo_dom ps n k hk hD p h)
      generalize ps k = E at *
      obtain ⟨ea, eby, ee, eit⟩ := E
      dsimp only at *
      cases eit with
      | false =>
        go_wp2_with fail
        go_roundw
        case rel =>
          refine ⟨k + 1, by omega, by go_num, ?_, hfr.trans (Fr.alloc _ _ _ _)⟩
          rw [HI.out]
          simpa using hrk.alloc _
        case measure => simp [intOf]; omega
      | true =>
        obtain ⟨g, rfl⟩ := Int.eq_ofNat_of_zero_le (hdk rfl).1
        have hgl : g ≤ 65536 := by have := (hdk rfl).2; omega
        clear hdk
        go_wp2_with fail
        refine (count_its _ B rb g ee _ (hrk.alloc _) hgl hle hlen).mono ?_
        rintro en w1 ⟨rfl, hr1, hf1⟩
        go_wp2
        go_roundw
        case rel =>
          refine ⟨k + 1, by omega, by go_num, ?_, (hfr.trans (Fr.alloc _ _ _ _)).trans hf1⟩
          rw [HI.out]
          simpa using hr1
        case measure => simp [intOf]; omega
    · obtain rfl : n = k := by omega
      go_wp2_with fail
      go_end0
      exact ⟨rfl, hrk, hfr⟩

end Go.Proofs.Qxb6628283a
