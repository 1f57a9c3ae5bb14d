import Derived.Test.Qxb6628962aFloor
namespace Go.Proofs.Qxb6628962a
open Go.RowKit Go.MuLone
set_option linter.unusedVariables false
set_option linter.unusedSimpArgs false

/-- A pointer to a bool, a pointer to an int64: nil, or to a cell that is none of the floor's. -/
def PB (w : World) (fb : Nat) (p : Option Addr) (v : Option Bool) : Prop := (p = none ∧ v = none) ∨ ∃ a b, p = some a ∧ v = some b ∧ w.cell? a = some (.bool b) ∧ a.block ≠ fb
def PI (w : World) (fb : Nat) (p : Option Addr) (v : Option Int) : Prop := (p = none ∧ v = none) ∨ ∃ a b, p = some a ∧ v = some b ∧ w.cell? a = some (.int .i64 b) ∧ a.block ≠ fb

theorem PB.fm {w w' : World} {fb : Nat} {p : Option Addr} {v : Option Bool} (h : PB w fb p v) (hf : Fm fb w w') : PB w' fb p v := by
  rcases h with h | ⟨a, b, h1, h2, h3, h4⟩
  · exact .inl h
  · exact .inr ⟨a, b, h1, h2, hf.cell h4 h3, h4⟩
theorem PI.fm {w w' : World} {fb : Nat} {p : Option Addr} {v : Option Int} (h : PI w fb p v) (hf : Fm fb w w') : PI w' fb p v := by
  rcases h with h | ⟨a, b, h1, h2, h3, h4⟩
  · exact .inl h
  · exact .inr ⟨a, b, h1, h2, hf.cell h4 h3, h4⟩

/-- The two boxes of move's parameters, behind the Lock. -/
structure Boxed (w : World) (fb bx : Nat) (sq sc : Int) (sx : ByteArray) (po pl : Option Addr) (gd : Bool) (xi : ByteArray) : Prop where
  ne0 : fb ≠ bx
  ne1 : fb ≠ bx + 1
  s1 : w.cell? ⟨bx, 1, none⟩ = some (.int .i64 sc)
  s2 : w.cell? ⟨bx, 2, none⟩ = some (.string sx)
  d0 : w.cell? ⟨bx + 1, 0, none⟩ = some (.pointer po)
  d1 : w.cell? ⟨bx + 1, 1, none⟩ = some (.pointer pl)
  d2 : w.cell? ⟨bx + 1, 2, none⟩ = some (.bool gd)
  d3 : w.cell? ⟨bx + 1, 3, none⟩ = some (.string xi)

theorem cell_at {w : World} {b : Nat} {cs : Array Value} {e : TypeId} {fr : Nat × Nat} (h : w.heap[b]? = some (.cells cs e fr)) (i : Nat) : w.cell? ⟨b, i, none⟩ = cs[i]? := by simp [World.cell?, h]

theorem boxed (w : World) (fb : Nat) (hfb : fb < w.heap.size) (sq sc : Int) (sx : ByteArray) (po pl : Option Addr) (gd : Bool) (xi : ByteArray) :
    Boxed ((w.alloc (.cells #[.int .i64 sq, .int .i64 sc, .string sx] 49)).alloc (.cells #[.pointer po, .pointer pl, .bool gd, .string xi] 51)) fb w.heap.size sq sc sx po pl gd xi := by
  have h0 : ((w.alloc (.cells #[.int .i64 sq, .int .i64 sc, .string sx] 49)).alloc (.cells #[.pointer po, .pointer pl, .bool gd, .string xi] 51)).heap[w.heap.size]? = some (.cells #[.int .i64 sq, .int .i64 sc, .string sx] 49 (0, 0)) :=
    (Below.heap_alloc _ _ _ (by simp)).trans (heap_alloc_new w _)
  have h1 : ((w.alloc (.cells #[.int .i64 sq, .int .i64 sc, .string sx] 49)).alloc (.cells #[.pointer po, .pointer pl, .bool gd, .string xi] 51)).heap[w.heap.size + 1]? = some (.cells #[.pointer po, .pointer pl, .bool gd, .string xi] 51 (0, 0)) := by
    have := heap_alloc_new (w.alloc (.cells #[.int .i64 sq, .int .i64 sc, .string sx] 49)) (.cells #[.pointer po, .pointer pl, .bool gd, .string xi] 51)
    simpa using this
  exact ⟨by omega, by omega, (cell_at h0 1).trans rfl, (cell_at h0 2).trans rfl, (cell_at h1 0).trans rfl, (cell_at h1 1).trans rfl, (cell_at h1 2).trans rfl, (cell_at h1 3).trans rfl⟩

theorem Boxed.fm {w w' : World} {fb bx : Nat} {sq sc : Int} {sx : ByteArray} {po pl : Option Addr} {gd : Bool} {xi : ByteArray} (h : Boxed w fb bx sq sc sx po pl gd xi) (hf : Fm fb w w') : Boxed w' fb bx sq sc sx po pl gd xi :=
  have n0 : ∀ o, (⟨bx, o, none⟩ : Addr).block ≠ fb := fun o => Ne.symm h.ne0
  have n1 : ∀ o, (⟨bx + 1, o, none⟩ : Addr).block ≠ fb := fun o => Ne.symm h.ne1
  ⟨h.ne0, h.ne1, hf.cell (n0 _) h.s1, hf.cell (n0 _) h.s2, hf.cell (n1 _) h.d0, hf.cell (n1 _) h.d1, hf.cell (n1 _) h.d2, hf.cell (n1 _) h.d3⟩

theorem str_ne {a b : ByteArray} (h : ¬ a = b) : (a.toList == b.toList) = false := by
  cases hb : (a.toList == b.toList) with
  | false => rfl
  | true =>
    have := eq_of_beq hb
    rw [ByteArray.toList_eq, ByteArray.toList_eq] at this
    exact absurd (ByteArray.ext (Array.ext' this)) h
theorem str_eq (a : ByteArray) : (a.toList == a.toList) = true := by simp

/-- move's end: the lock is given back. -/
theorem close_move (w W : World) (fb : Nat) (f' g : Flr) (tmps : Array Value) (h : FlrAt W fb 1 f') (he : f' = g) (m : Fm fb w W) :
    Leaves Try.prog Try.f11 tmps (fun e w' => e = .returned (.tuple #[]) ∧ FlrAt w' fb 0 g ∧ Fm fb w w') [{ target := .fn (.func 13) #[], args := #[.pointer (some ⟨fb, 0, none⟩)] }] .returning W := by
  subst he
  refine leaves_cons (f := 13) (args := #[.pointer (some ⟨fb, 0, none⟩)]) (by simp) (by simp [go_sem]) ?_
  refine (unlock_deferred Try.muLib ⟨fb, 0, none⟩ .returning _ h.cells.1 (h.free 0)).mono ?_
  rintro e u' w'' ⟨rfl, rfl, rfl⟩
  exact ⟨_, results_none rfl _ _ _, rfl, h.lock, m.trans (Fm.setCell _ _ _ _)⟩

theorem max_run (ts : Array TypeId) (ty : TypeId) (x y z : Int) (h : max x y = z) (w : World) : (Builtin.max_ ts ty #[.int .i64 x, .int .i64 y]).run Try.prog w = .ok (.int .i64 z) w := by
  rw [run_max_int2, ← h]
  congr 2
  simp only [Int.max_def]
  split <;> split <;> omega
theorem min_run (ts : Array TypeId) (ty : TypeId) (x y z : Int) (h : min x y = z) (w : World) : (Builtin.min_ ts ty #[.int .i64 x, .int .i64 y]).run Try.prog w = .ok (.int .i64 z) w := by
  rw [run_min_int2, ← h]
  congr 2
  simp only [Int.min_def]
  split <;> split <;> omega

end Go.Proofs.Qxb6628962a
