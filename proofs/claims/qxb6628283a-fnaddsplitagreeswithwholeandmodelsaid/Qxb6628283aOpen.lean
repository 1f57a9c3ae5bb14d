import Derived.Test.Qxb6628283aPieceOf
import Derived.Deep.Slices
import Derived.Lib.SmallJoins
namespace Go.Proofs.Qxb6628283a
open Go.RowKit Go.Deep Go.Joins
set_option linter.unusedVariables false

theorem Try.cells25 : Try.prog.cellsOf 25 = 4 := by kernel_rfl
theorem Try.cells3 : Try.prog.cellsOf 3 = 1 := by kernel_rfl
theorem Try.cells4 : Try.prog.cellsOf 4 = 1 := by kernel_rfl

section
variable {H : Type} {enc : TypeId × Value → H}

theorem add_pos (y : Addr) (c : Nat) (h : c ≠ 0) : y.add c = ⟨y.block, y.off + c, none⟩ := by unfold Addr.add; rw [if_neg h]
theorem add_zero (y : Addr) : y.add 0 = y := by unfold Addr.add; rw [if_pos rfl]

/-- The argument opened. -/
theorem open_eps {W : World} {base : Nat} {sp : Nat → Bool} {held : Bool} {fuel : Nat} {cs : List Value} {x : DataW H × List MemPlace} (h : DataW.trod enc Try.prog W base sp held fuel 22 cs = some x) :
    ∃ ao len cap ps, cs = [.slice ao len cap] ∧ len ≤ maxLen ∧ EpsAt W ao len ps ∧ (0 < cap → ao ≠ none) ∧ len ≤ cap ∧ cap ≤ maxLen := by
  rcases open_slice Try.underlying22 h with ⟨hc, _⟩ | ⟨a, len, cap, m, n, D, Pl, hc, hb, hl, hm, hmm, hx, hall⟩
  · exact ⟨none, 0, 0, fun _ => ⟨0, 0, 0, false⟩, hc, Nat.zero_le _, .inl rfl, by omega, Nat.le_refl _, Nat.zero_le _⟩
  · have hlm : len ≤ m := by rw [hmm]; split <;> omega
    have each : ∀ j, j < len → ∃ q : Epr, W.cell? (a.add (j * 4)) = some (.int .i64 q.at_) ∧ W.cell? ⟨(a.add (j * 4)).block, (a.add (j * 4)).off + 1, none⟩ = some (.int .i64 q.by_) ∧ W.cell? ⟨(a.add (j * 4)).block, (a.add (j * 4)).off + 2, none⟩ = some (.int .i64 q.ep) ∧ W.cell? ⟨(a.add (j * 4)).block, (a.add (j * 4)).off + 3, none⟩ = some (.bool q.item) := by
      intro j hj
      obtain ⟨cs', h1, h2⟩ := hall j (by omega)
      rw [Try.cells25] at h1
      obtain ⟨_, hlen, hcell⟩ := World.cells?_some h1
      obtain ⟨y0, y1, y2, y3, k, hxy, _, u0, u1, u2, u3⟩ := trod_struct4 Try.underlying25 h2
      match cs', hlen with
      | [v0, v1, v2, v3], _ =>
        simp only [Try.cells3, Try.cells4, List.drop, List.take] at u0 u1 u2 u3
        obtain ⟨q0, e0, _⟩ := DataW.trod_int Try.underlying3 u0
        obtain ⟨q1, e1, _⟩ := DataW.trod_int Try.underlying3 u1
        obtain ⟨q2, e2, _⟩ := DataW.trod_int Try.underlying3 u2
        obtain ⟨q3, e3, _⟩ := DataW.trod_bool Try.underlying4 u3
        simp only [List.cons.injEq, and_true] at e0 e1 e2 e3
        subst e0; subst e1; subst e2; subst e3
        have c0 := hcell 0 (by omega)
        have c1 := hcell 1 (by omega)
        have c2 := hcell 2 (by omega)
        have c3 := hcell 3 (by omega)
        rw [add_zero] at c0
        rw [add_pos _ 1 (by omega)] at c1
        rw [add_pos _ 2 (by omega)] at c2
        rw [add_pos _ 3 (by omega)] at c3
        exact ⟨⟨q0, q1, q2, q3⟩, by simpa using c0, by simpa using c1, by simpa using c2, by simpa using c3⟩
    refine ⟨some a, len, cap, fun j => if hj : j < len then Classical.choose (each j hj) else ⟨0, 0, 0, false⟩, hc, by omega, .inr ⟨a, rfl, fun j hj => ?_⟩, (fun _ h => by cases h), hl, hm⟩
    simp only [dif_pos hj]
    exact Classical.choose_spec (each j hj)

end
end Go.Proofs.Qxb6628283a
