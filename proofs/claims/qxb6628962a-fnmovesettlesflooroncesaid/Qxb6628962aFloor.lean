import Derived.Test.Qxb6628962aRows
import Derived.Test.Qxb6628962aLocks
import Derived.Conc.MuLone
import Derived.WalkKit
import Derived.Below
import Derived.Deep.QuietTactic
import Derived.BigQuiet
import Derived.Deep.RegionHeld3
namespace Go.Proofs.Qxb6628962a
open Go.RowKit Go.MuLone
set_option linter.unusedVariables false
set_option linter.unusedSimpArgs false

/-- A floor's fields. -/
structure Flr where
  seq : Int
  cand : Int
  xid : ByteArray
  high : Int

/-- The floor in memory, its lock at lk. -/
def FlrAt (w : World) (fb : Nat) (lk : Int) (f : Flr) : Prop :=
  w.heap[fb]? = some (.cells #[.int .i32 lk, .int .u32 0, .int .i64 f.seq, .int .i64 f.cand, .string f.xid, .int .i64 f.high] 46 (0, 0))

/-- All but the block fb is as it was; more may have come. -/
structure Fm (fb : Nat) (w w' : World) : Prop where
  os : w'.os = w.os
  tape : w'.tape = w.tape
  output : w'.output = w.output
  size : w.heap.size ≤ w'.heap.size
  blk : ∀ k, k < w.heap.size → k ≠ fb → w'.heap[k]? = w.heap[k]?

theorem Fm.refl (fb : Nat) (w : World) : Fm fb w w := ⟨rfl, rfl, rfl, Nat.le_refl _, fun _ _ _ => rfl⟩
theorem Fm.trans {fb : Nat} {a b c : World} (h : Fm fb a b) (k : Fm fb b c) : Fm fb a c :=
  ⟨k.os.trans h.os, k.tape.trans h.tape, k.output.trans h.output, Nat.le_trans h.size k.size, fun i hi hn => (k.blk i (Nat.lt_of_lt_of_le hi h.size) hn).trans (h.blk i hi hn)⟩
theorem Fm.alloc (fb : Nat) (w : World) (o : Obj) : Fm fb w (w.alloc o) := ⟨rfl, rfl, rfl, by simp, fun k hk _ => Below.heap_alloc w o k hk⟩
theorem Fm.drewN (fb : Nat) (w : World) (q : Nat) : Fm fb w (w.drewN q) := ⟨rfl, rfl, rfl, Nat.le_refl _, fun _ _ _ => rfl⟩
theorem Fm.drew (fb : Nat) (w : World) : Fm fb w w.drew := ⟨rfl, rfl, rfl, Nat.le_refl _, fun _ _ _ => rfl⟩
theorem Fm.setCell (fb o : Nat) (w : World) (v : Value) : Fm fb w (w.setCell ⟨fb, o, none⟩ v) :=
  ⟨rfl, rfl, rfl, by simp [World.setCell], fun k hk hn => Below.heap_setCell _ _ _ _ hn⟩
theorem Fm.below {fb B : Nat} {w w' : World} (h : Fm fb w w') (hB : B ≤ w.heap.size) (hf : B ≤ fb) : Below B w w' :=
  ⟨h.os, h.tape, h.output, h.size, fun k hk => h.blk k (by omega) (by omega)⟩
theorem Fm.cell {fb : Nat} {w w' : World} (h : Fm fb w w') {a : Addr} {v : Value} (hn : a.block ≠ fb) (hc : w.cell? a = some v) : w'.cell? a = some v := by
  have hlt : a.block < w.heap.size := by
    unfold World.cell? at hc
    by_cases hb : a.block < w.heap.size
    · exact hb
    · rw [Array.getElem?_eq_none (by omega)] at hc
      simp at hc
  rw [← hc]
  unfold World.cell?
  rw [h.blk _ hlt hn]

theorem FlrAt.lt {w : World} {fb : Nat} {lk : Int} {f : Flr} (h : FlrAt w fb lk f) : fb < w.heap.size := lt_of_block h
theorem FlrAt.alloc {w : World} {fb : Nat} {lk : Int} {f : Flr} (h : FlrAt w fb lk f) (o : Obj) : FlrAt (w.alloc o) fb lk f := (Below.heap_alloc w o fb h.lt).trans h
theorem FlrAt.other {w w' : World} {fb fc : Nat} {lk : Int} {f : Flr} (h : FlrAt w fb lk f) (hf : Fm fc w w') (hn : fb ≠ fc) : FlrAt w' fb lk f := (hf.blk fb h.lt hn).trans h
theorem set_row {w : World} {fb o : Nat} {cs : Array Value} {e : TypeId} {fr : Nat × Nat} (h : w.heap[fb]? = some (.cells cs e fr)) (v : Value) : (w.setCell ⟨fb, o, none⟩ v).heap[fb]? = some (.cells (cs.setIfInBounds o v) e fr) := by
  simp [World.setCell, Array.getElem?_modify, h]
theorem FlrAt.lock {w : World} {fb : Nat} {lk lk' : Int} {f : Flr} (h : FlrAt w fb lk f) : FlrAt (w.setCell ⟨fb, 0, none⟩ (.int .i32 lk')) fb lk' f := set_row h _
theorem FlrAt.setSeq {w : World} {fb : Nat} {lk : Int} {f : Flr} (h : FlrAt w fb lk f) (x : Int) : FlrAt (w.setCell ⟨fb, 2, none⟩ (.int .i64 x)) fb lk { f with seq := x } := set_row h _
theorem FlrAt.setCand {w : World} {fb : Nat} {lk : Int} {f : Flr} (h : FlrAt w fb lk f) (x : Int) : FlrAt (w.setCell ⟨fb, 3, none⟩ (.int .i64 x)) fb lk { f with cand := x } := set_row h _
theorem FlrAt.setXid {w : World} {fb : Nat} {lk : Int} {f : Flr} (h : FlrAt w fb lk f) (x : ByteArray) : FlrAt (w.setCell ⟨fb, 4, none⟩ (.string x)) fb lk { f with xid := x } := set_row h _
theorem FlrAt.setHigh {w : World} {fb : Nat} {lk : Int} {f : Flr} (h : FlrAt w fb lk f) (x : Int) : FlrAt (w.setCell ⟨fb, 5, none⟩ (.int .i64 x)) fb lk { f with high := x } := set_row h _
theorem FlrAt.drew {w : World} {fb : Nat} {lk : Int} {f : Flr} (h : FlrAt w fb lk f) : FlrAt w.drew fb lk f := h
theorem FlrAt.drewN {w : World} {fb : Nat} {lk : Int} {f : Flr} (h : FlrAt w fb lk f) (q : Nat) : FlrAt (w.drewN q) fb lk f := h

theorem FlrAt.cells {w : World} {fb : Nat} {lk : Int} {f : Flr} (h : FlrAt w fb lk f) :
    w.cell? ⟨fb, 0, none⟩ = some (.int .i32 lk) ∧ w.cell? ⟨fb, 2, none⟩ = some (.int .i64 f.seq) ∧ w.cell? ⟨fb, 3, none⟩ = some (.int .i64 f.cand) ∧ w.cell? ⟨fb, 4, none⟩ = some (.string f.xid) ∧ w.cell? ⟨fb, 5, none⟩ = some (.int .i64 f.high) := by
  refine ⟨?_, ?_, ?_, ?_, ?_⟩ <;> simp [World.cell?, show w.heap[fb]? = _ from h]
theorem FlrAt.free {w : World} {fb : Nat} {lk : Int} {f : Flr} (h : FlrAt w fb lk f) (o : Nat) : w.frozen? ⟨fb, o, none⟩ = false := by
  simp [World.frozen?, show w.heap[fb]? = _ from h]

/-- What move does. -/
def mvA (f : Flr) (sc : Int) (sx : ByteArray) (lo : Option Int) : Flr :=
  let next := match lo with
    | none => sc
    | some l => min sc l
  let g : Flr := { f with seq := max f.seq next }
  if f.xid = sx then { g with cand := 0, xid := ⟨#[]⟩ } else g
def mvB (f : Flr) (before : Int) (lo : Option Int) (gd : Bool) (xi : ByteArray) : Flr :=
  if f.cand = 0 ∧ gd = true then
    match lo with
    | some l => { f with cand := l, xid := xi }
    | none => if 0 < before then { f with cand := IntKind.i64.wrap (before + 1), xid := xi } else f
  else f
def mv (f : Flr) (sc : Int) (sx : ByteArray) (st : Option Bool) (lo : Option Int) (gd : Bool) (xi : ByteArray) (t : Int) : Flr :=
  let f1 : Flr := { f with high := max f.high t }
  if 0 < sc then
    match st with
    | some true => mvB (mvA f1 sc sx lo) f.high lo gd xi
    | _ => f1
  else mvB f1 f.high lo gd xi

end Go.Proofs.Qxb6628962a
