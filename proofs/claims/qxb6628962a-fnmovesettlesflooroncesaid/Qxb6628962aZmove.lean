import Derived.Test.Qxb6628962aMove
import Derived.Test.Qxb6628962aSmall
import Derived.Test.Qxb6628962aBytes
namespace Go.Proofs.Qxb6628962a
open Go.RowKit Go.MuLone
set_option linter.unusedVariables false
set_option linter.unusedSimpArgs false

set_option maxHeartbeats 1600000 in
set_option maxRecDepth 100000 in
theorem zmove_any (w : World) (fb : Nat) (f : Flr) (hF : FlrAt w fb 0 f) (sq sc : Int) (sx : ByteArray) (po pl : Option Addr) (st : Option Bool) (lo : Option Int) (gd : Bool) (xi : ByteArray) (t : Int) (hpo : PB w fb po st) (hpl : PI w fb pl lo) :
    Calls Try.prog 7 #[.pointer (some ⟨fb, 0, none⟩), .int .i64 sq, .int .i64 sc, .string sx, .pointer po, .pointer pl, .bool gd, .string xi, .int .i64 t] w fun e w' =>
      e = .returned (.tuple #[]) ∧ FlrAt w' fb 0 (mv f sc sx st lo gd xi t) ∧ Fm fb w w' := by
  have HF : Hid (FlrAt w fb 0 f) := hF
  have HP : Hid (PB w fb po st) := hpo
  have HQ : Hid (PI w fb pl lo) := hpl
  clear hF hpo hpl
  go_enter Try.func7, Try.ntmps7
  go_wp2_with fail
  refine (move_any w fb f HF.out sq sc sx po pl st lo gd xi t HP.out HQ.out).mono ?_
  rintro e w1 ⟨rfl, h1, h2⟩
  have H1 : Hid _ := h1
  clear h1
  go_wp2_with fail
  go_end0
  exact ⟨rfl, H1.out, h2⟩

/-- The law's pointers. -/
def PB0 (w : World) (p : Option Addr) (v : Option Bool) : Prop := (p = none ∧ v = none) ∨ ∃ a b, p = some a ∧ v = some b ∧ w.cell? a = some (.bool b)
def PI0 (w : World) (p : Option Addr) (v : Option Int) : Prop := (p = none ∧ v = none) ∨ ∃ a b, p = some a ∧ v = some b ∧ w.cell? a = some (.int .i64 b)

theorem lt_of_cell {w : World} {x : Addr} {v : Value} (h : w.cell? x = some v) : x.block < w.heap.size := by
  unfold World.cell? at h
  by_cases hb : x.block < w.heap.size
  · exact hb
  · rw [Array.getElem?_eq_none (by omega)] at h
    simp at h
theorem PB0.to {w w' : World} {fb : Nat} {p : Option Addr} {v : Option Bool} (h : PB0 w p v) (hb : Below w.heap.size w w') (hf : w.heap.size ≤ fb) : PB w' fb p v := by
  rcases h with h | ⟨a, b, h1, h2, h3⟩
  · exact .inl h
  · have := lt_of_cell h3
    exact .inr ⟨a, b, h1, h2, (hb.cell this).trans h3, by omega⟩
theorem PI0.to {w w' : World} {fb : Nat} {p : Option Addr} {v : Option Int} (h : PI0 w p v) (hb : Below w.heap.size w w') (hf : w.heap.size ≤ fb) : PI w' fb p v := by
  rcases h with h | ⟨a, b, h1, h2, h3⟩
  · exact .inl h
  · have := lt_of_cell h3
    exact .inr ⟨a, b, h1, h2, (hb.cell this).trans h3, by omega⟩

/-- The three boxes of a law's parameters. -/
structure Box3 (w : World) (bx : Nat) (f : Flr) (sq sc : Int) (sx : ByteArray) (po pl : Option Addr) (gd : Bool) (xi : ByteArray) : Prop where
  a0 : w.cell? ⟨bx, 0, none⟩ = some (.int .i64 f.seq)
  a1 : w.cell? ⟨bx, 1, none⟩ = some (.int .i64 f.cand)
  a2 : w.cell? ⟨bx, 2, none⟩ = some (.string f.xid)
  a3 : w.cell? ⟨bx, 3, none⟩ = some (.int .i64 f.high)
  s0 : w.cell? ⟨bx + 1, 0, none⟩ = some (.int .i64 sq)
  s1 : w.cell? ⟨bx + 1, 1, none⟩ = some (.int .i64 sc)
  s2 : w.cell? ⟨bx + 1, 2, none⟩ = some (.string sx)
  d0 : w.cell? ⟨bx + 1 + 1, 0, none⟩ = some (.pointer po)
  d1 : w.cell? ⟨bx + 1 + 1, 1, none⟩ = some (.pointer pl)
  d2 : w.cell? ⟨bx + 1 + 1, 2, none⟩ = some (.bool gd)
  d3 : w.cell? ⟨bx + 1 + 1, 3, none⟩ = some (.string xi)

theorem Box3.below {w w' : World} {bx B : Nat} {f : Flr} {sq sc : Int} {sx : ByteArray} {po pl : Option Addr} {gd : Bool} {xi : ByteArray} (h : Box3 w bx f sq sc sx po pl gd xi) (hb : Below B w w') (hB : bx + 3 ≤ B) : Box3 w' bx f sq sc sx po pl gd xi :=
  have n0 : ∀ o, (⟨bx, o, none⟩ : Addr).block < B := fun o => show bx < B by omega
  have n1 : ∀ o, (⟨bx + 1, o, none⟩ : Addr).block < B := fun o => show bx + 1 < B by omega
  have n2 : ∀ o, (⟨bx + 1 + 1, o, none⟩ : Addr).block < B := fun o => show bx + 1 + 1 < B by omega
  ⟨(hb.cell (n0 _)).trans h.a0, (hb.cell (n0 _)).trans h.a1, (hb.cell (n0 _)).trans h.a2, (hb.cell (n0 _)).trans h.a3, (hb.cell (n1 _)).trans h.s0, (hb.cell (n1 _)).trans h.s1, (hb.cell (n1 _)).trans h.s2,
    (hb.cell (n2 _)).trans h.d0, (hb.cell (n2 _)).trans h.d1, (hb.cell (n2 _)).trans h.d2, (hb.cell (n2 _)).trans h.d3⟩

theorem box3 (w : World) (f : Flr) (sq sc : Int) (sx : ByteArray) (po pl : Option Addr) (gd : Bool) (xi : ByteArray) :
    Box3 (((w.alloc (.cells #[.int .i64 f.seq, .int .i64 f.cand, .string f.xid, .int .i64 f.high] 23)).alloc (.cells #[.int .i64 sq, .int .i64 sc, .string sx] 25)).alloc (.cells #[.pointer po, .pointer pl, .bool gd, .string xi] 29)) w.heap.size f sq sc sx po pl gd xi := by
  have h0 := (Below.heap_alloc ((w.alloc (.cells #[.int .i64 f.seq, .int .i64 f.cand, .string f.xid, .int .i64 f.high] 23)).alloc (.cells #[.int .i64 sq, .int .i64 sc, .string sx] 25)) (.cells #[.pointer po, .pointer pl, .bool gd, .string xi] 29) w.heap.size (by simp; omega)).trans
    ((Below.heap_alloc (w.alloc (.cells #[.int .i64 f.seq, .int .i64 f.cand, .string f.xid, .int .i64 f.high] 23)) (.cells #[.int .i64 sq, .int .i64 sc, .string sx] 25) w.heap.size (by simp)).trans (heap_alloc_new w (.cells #[.int .i64 f.seq, .int .i64 f.cand, .string f.xid, .int .i64 f.high] 23)))
  have e1 : (w.alloc (.cells #[.int .i64 f.seq, .int .i64 f.cand, .string f.xid, .int .i64 f.high] 23)).heap.size = w.heap.size + 1 := by simp
  have e2 : ((w.alloc (.cells #[.int .i64 f.seq, .int .i64 f.cand, .string f.xid, .int .i64 f.high] 23)).alloc (.cells #[.int .i64 sq, .int .i64 sc, .string sx] 25)).heap.size = w.heap.size + 1 + 1 := by simp
  have h1 := heap_alloc_new (w.alloc (.cells #[.int .i64 f.seq, .int .i64 f.cand, .string f.xid, .int .i64 f.high] 23)) (.cells #[.int .i64 sq, .int .i64 sc, .string sx] 25)
  rw [e1] at h1
  have h1 := (Below.heap_alloc ((w.alloc (.cells #[.int .i64 f.seq, .int .i64 f.cand, .string f.xid, .int .i64 f.high] 23)).alloc (.cells #[.int .i64 sq, .int .i64 sc, .string sx] 25)) (.cells #[.pointer po, .pointer pl, .bool gd, .string xi] 29) (w.heap.size + 1) (by rw [e2]; omega)).trans h1
  have h2 := heap_alloc_new ((w.alloc (.cells #[.int .i64 f.seq, .int .i64 f.cand, .string f.xid, .int .i64 f.high] 23)).alloc (.cells #[.int .i64 sq, .int .i64 sc, .string sx] 25)) (.cells #[.pointer po, .pointer pl, .bool gd, .string xi] 29)
  rw [e2] at h2
  exact ⟨(cell_at h0 0).trans rfl, (cell_at h0 1).trans rfl, (cell_at h0 2).trans rfl, (cell_at h0 3).trans rfl, (cell_at h1 0).trans rfl, (cell_at h1 1).trans rfl, (cell_at h1 2).trans rfl, (cell_at h2 0).trans rfl, (cell_at h2 1).trans rfl, (cell_at h2 2).trans rfl, (cell_at h2 3).trans rfl⟩

/-- Two moves that differ in what was taken alone. -/
theorem mv_two (f : Flr) (sc : Int) (sx : ByteArray) (st : Option Bool) (lo : Option Int) (gd : Bool) (xi : ByteArray) (t1 t2 : Int) :
    ∃ a b c, mv f sc sx st lo gd xi t1 = ⟨a, b, c, max f.high t1⟩ ∧ mv f sc sx st lo gd xi t2 = ⟨a, b, c, max f.high t2⟩ := by
  refine ⟨(mv f sc sx st lo gd xi t1).seq, (mv f sc sx st lo gd xi t1).cand, (mv f sc sx st lo gd xi t1).xid, ?_, ?_⟩
  all_goals
    unfold mv
    by_cases h : 0 < sc
    · simp only [if_pos h]
      rcases st with _ | _ | _
      · rfl
      · rfl
      · dsimp only
        unfold mvA mvB
        by_cases hx : f.xid = sx <;> by_cases hg : gd = true <;> by_cases hc : f.cand = 0 <;> by_cases hh : 0 < f.high <;> rcases lo with _ | l <;> simp [hx, hg, hc, hh]
    · simp only [if_neg h]
      unfold mvB
      by_cases hg : gd = true <;> by_cases hc : f.cand = 0 <;> by_cases hh : 0 < f.high <;> rcases lo with _ | l <;> simp [hg, hc, hh]

end Go.Proofs.Qxb6628962a
