import Derived.Test.Qxb6628962aZmove
import Derived.Lib.SmallJoins
namespace Go.Proofs.Qxb6628962a
open Go.RowKit Go.Deep Go.Joins Go.ChangeShapes Go.WideShapes
set_option linter.unusedVariables false

theorem Try.cells23 : Try.prog.cellsOf 23 = 4 := by kernel_rfl
theorem Try.cells25 : Try.prog.cellsOf 25 = 3 := by kernel_rfl
theorem Try.cells29 : Try.prog.cellsOf 29 = 4 := by kernel_rfl
theorem Try.cells2 : Try.prog.cellsOf 2 = 1 := by kernel_rfl
theorem Try.cells4 : Try.prog.cellsOf 4 = 1 := by kernel_rfl

section
variable {H : Type} {enc : TypeId × Value → H}

theorem open_floor {W : World} {r : Reach} {b0 : Nat} {sp : Nat → Bool} {held : Bool} {v : Value} {d : DataW H} {p : List MemPlace} (hv : Value.okWide Try.prog W r b0 23 v) (h : DataW.Trod enc Try.prog W 0 sp held 23 v d p) :
    ∃ f : Flr, v = .agg #[.int .i64 f.seq, .int .i64 f.cand, .string f.xid, .int .i64 f.high] ∧ f.xid.size ≤ maxLen := by
  obtain ⟨v0, v1, v2, v3, y0, y1, y2, y3, n, rfl, _, _, h0, h1, h2, h3⟩ := open_agg4 Try.underlying23 (by kernel_rfl) Try.cells23 hv h
  obtain ⟨q0, e0, _⟩ := DataW.trod_int Try.underlying2 h0
  obtain ⟨q1, e1, _⟩ := DataW.trod_int Try.underlying2 h1
  obtain ⟨q2, e2, _, hs⟩ := DataW.trod_string Try.underlying9 h2
  obtain ⟨q3, e3, _⟩ := DataW.trod_int Try.underlying2 h3
  simp only [List.cons.injEq, and_true] at e0 e1 e2 e3
  subst e0; subst e1; subst e2; subst e3
  exact ⟨⟨q0, q1, q2, q3⟩, rfl, hs⟩

theorem open_look {W : World} {r : Reach} {b0 : Nat} {sp : Nat → Bool} {held : Bool} {v : Value} {d : DataW H} {p : List MemPlace} (hv : Value.okWide Try.prog W r b0 25 v) (h : DataW.Trod enc Try.prog W 0 sp held 25 v d p) :
    ∃ sq sc sx, v = .agg #[.int .i64 sq, .int .i64 sc, .string sx] ∧ sx.size ≤ maxLen := by
  obtain ⟨v0, v1, v2, y0, y1, y2, n, rfl, _, _, h0, h1, h2⟩ := open_agg3 Try.underlying25 (by kernel_rfl) Try.cells25 hv h
  obtain ⟨q0, e0, _⟩ := DataW.trod_int Try.underlying2 h0
  obtain ⟨q1, e1, _⟩ := DataW.trod_int Try.underlying2 h1
  obtain ⟨q2, e2, _, hs⟩ := DataW.trod_string Try.underlying9 h2
  simp only [List.cons.injEq, and_true] at e0 e1 e2
  subst e0; subst e1; subst e2
  exact ⟨q0, q1, q2, rfl, hs⟩

theorem open_found {W : World} {r : Reach} {b0 : Nat} {sp : Nat → Bool} {held : Bool} {v : Value} {d : DataW H} {p : List MemPlace} (hv : Value.okWide Try.prog W r b0 29 v) (h : DataW.Trod enc Try.prog W 0 sp held 29 v d p) :
    ∃ po pl gd xi st lo, v = .agg #[.pointer po, .pointer pl, .bool gd, .string xi] ∧ xi.size ≤ maxLen ∧ PB0 W po st ∧ PI0 W pl lo := by
  obtain ⟨v0, v1, v2, v3, y0, y1, y2, y3, n, rfl, _, _, h0, h1, h2, h3⟩ := open_agg4 Try.underlying29 (by kernel_rfl) Try.cells29 hv h
  obtain ⟨q2, e2, _⟩ := DataW.trod_bool Try.underlying4 h2
  obtain ⟨q3, e3, _, hs⟩ := DataW.trod_string Try.underlying9 h3
  simp only [List.cons.injEq, and_true] at e2 e3
  subst e2; subst e3
  have hP : ∃ po st, v0 = .pointer po ∧ PB0 W po st := by
    rcases DataW.trod_pointer Try.underlying26 h0 with ⟨e, _⟩ | ⟨a, cs', y, m, _, e, _, hc, ht⟩
    · simp only [List.cons.injEq, and_true] at e
      exact ⟨none, none, e, .inl ⟨rfl, rfl⟩⟩
    · simp only [List.cons.injEq, and_true] at e
      obtain ⟨b, eb, _⟩ := DataW.trod_bool Try.underlying4 ht
      rw [Try.cells4] at hc
      obtain ⟨_, _, hcell⟩ := World.cells?_some hc
      have c0 := hcell 0 (by omega)
      refine ⟨some a, some b, e, .inr ⟨a, b, rfl, rfl, ?_⟩⟩
      rw [eb] at c0
      simpa [Addr.add] using c0
  have hQ : ∃ pl lo, v1 = .pointer pl ∧ PI0 W pl lo := by
    rcases DataW.trod_pointer Try.underlying27 h1 with ⟨e, _⟩ | ⟨a, cs', y, m, _, e, _, hc, ht⟩
    · simp only [List.cons.injEq, and_true] at e
      exact ⟨none, none, e, .inl ⟨rfl, rfl⟩⟩
    · simp only [List.cons.injEq, and_true] at e
      obtain ⟨b, eb, _⟩ := DataW.trod_int Try.underlying2 ht
      rw [Try.cells2] at hc
      obtain ⟨_, _, hcell⟩ := World.cells?_some hc
      have c0 := hcell 0 (by omega)
      refine ⟨some a, some b, e, .inr ⟨a, b, rfl, rfl, ?_⟩⟩
      rw [eb] at c0
      simpa [Addr.add] using c0
  obtain ⟨po, st, rfl, hp⟩ := hP
  obtain ⟨pl, lo, rfl, hq⟩ := hQ
  exact ⟨po, pl, q2, q3, st, lo, rfl, hs, hp, hq⟩

end
end Go.Proofs.Qxb6628962a
