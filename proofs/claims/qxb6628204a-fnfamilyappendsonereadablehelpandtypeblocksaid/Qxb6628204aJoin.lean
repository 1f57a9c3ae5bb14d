import Derived.Test.Qxb6628204aSmall
import Derived.Test.Qxb6628204aClone
import Derived.Test.Qxb6628204aConcat
namespace Go.Proofs.Qxb6628204a
open Go.RowKit Go.Lib
set_option linter.unusedVariables false

def bytesI (s : ByteArray) : List Int := s.data.toList.map fun b => (b.toNat : Int)
theorem strCells_eq (s : ByteArray) : strCells s = (bytesI s).map (Value.int .u8) := by simp [strCells, bytesI]
theorem bytesI_length (s : ByteArray) : (bytesI s).length = s.size := by simp [bytesI]

def famZ (name kind help : ByteArray) : List Int :=
  bytesI ⟨#[35, 32, 72, 69, 76, 80, 32]⟩ ++ (bytesI name ++ ([32] ++ (bytesI help ++ (bytesI ⟨#[10, 35, 32, 84, 89, 80, 69, 32]⟩ ++ (bytesI name ++ ([32] ++ (bytesI kind ++ [10])))))))
theorem famCells_eq (name kind help : ByteArray) : famCells name kind help = (famZ name kind help).map (Value.int .u8) := by
  simp only [famCells, famZ, strCells_eq, List.map_append, List.map_cons, List.map_nil]
theorem famZ_length (name kind help : ByteArray) : (famZ name kind help).length = 18 + 2 * name.size + kind.size + help.size := by
  simp only [famZ, List.length_append, bytesI_length, List.length_cons, List.length_nil]
  have e1 : (⟨#[35, 32, 72, 69, 76, 80, 32]⟩ : ByteArray).size = 7 := rfl
  have e2 : (⟨#[10, 35, 32, 84, 89, 80, 69, 32]⟩ : ByteArray).size = 8 := rfl
  omega

theorem rd_of_own {w : World} {B n c : Nat} {ao : Option Addr} {zs : List Int} (h : w.ownsRow B 5 1 (.slice ao n c) n (zs.map (Value.int .u8))) : Rd w ao zs := by
  intro hp
  have hl : zs.length = n := by simpa using h.1
  rcases h.2 with ⟨_, h0⟩ | ⟨g, cap, cur, hv, _, hgg, _⟩
  · omega
  · simp at hv
    obtain ⟨rfl, rfl⟩ := hv
    refine ⟨g, rfl, fun j hj => ?_⟩
    have := h.cells (g := g) rfl j (.int .u8 (zs.getD j 0)) (by simp [List.getD, hj])
    rw [Addr.add_lit, Nat.zero_add] at this
    exact this

/-- A clone of whatever slice of bytes: nil, or one whose cells are known. -/
theorem clone_any (w : World) (ao : Option Addr) (n cap : Nat) (zs : List Int) (hn : n ≤ 16777216)
    (h : (ao = none ∧ n = 0 ∧ cap = 0 ∧ zs = []) ∨ ∃ x, ao = some x ∧ zs.length = n ∧ ∀ i, i < n → w.cell? (x.add i) = some (.int .u8 (zs.getD i 0))) :
    Calls Try.prog 7 #[.slice ao n cap] w fun e w' => ∃ vo vc, e = .returned (.slice vo n vc) ∧
      w'.ownsRow w.heap.size 5 1 (.slice vo n vc) n (zs.map (Value.int .u8)) ∧ Below w.heap.size w w' := by
  rcases h with ⟨rfl, rfl, rfl, rfl⟩ | ⟨x, rfl, hz, hc⟩
  · refine (clone_nil w).mono ?_
    rintro e w' ⟨rfl, rfl⟩
    exact ⟨none, 0, rfl, World.ownsRow_nil _ _ _ _, Below.refl _ _⟩
  · refine (clone_some w x n cap zs hz hn hc).mono ?_
    rintro e w' ⟨rfl, h1, h2⟩
    exact ⟨_, _, rfl, h1, h2⟩

theorem clone_own (w : World) (B : Nat) (ao : Option Addr) (n cap : Nat) (zs : List Int) (hn : n ≤ 16777216) (h : w.ownsRow B 5 1 (.slice ao n cap) n (zs.map (Value.int .u8))) :
    Calls Try.prog 7 #[.slice ao n cap] w fun e w' => ∃ vo vc, e = .returned (.slice vo n vc) ∧
      w'.ownsRow w.heap.size 5 1 (.slice vo n vc) n (zs.map (Value.int .u8)) ∧ Below w.heap.size w w' := by
  have hl : zs.length = n := by simpa using h.1
  refine clone_any w ao n cap zs hn ?_
  rcases h.2 with ⟨hv, h0⟩ | ⟨g, c, cur, hv, _, hgg, _⟩
  · simp at hv
    obtain ⟨rfl, rfl, rfl⟩ := hv
    exact .inl ⟨rfl, rfl, rfl, List.eq_nil_of_length_eq_zero hl⟩
  · simp at hv
    obtain ⟨rfl, rfl⟩ := hv
    exact .inr ⟨_, rfl, hl, fun i hi => h.cells (g := g) rfl i _ (by simp [List.getD, hl, hi])⟩

/-- A new page. -/
structure Fresh (w w' : World) (pb : Nat) (tv : Value) (f : ByteArray) : Prop where
  eq : pb = w.heap.size
  page : w'.heap[pb]? = some (.cells #[tv, .string f] 36 (0, 0))
  old : ∀ k, k < w.heap.size → w'.heap[k]? = w.heap[k]?
  size : w'.heap.size = w.heap.size + 1
  os : w'.os = w.os
  tape : w'.tape = w.tape
  output : w'.output = w.output

theorem newPage_fresh (w : World) (a0 : Option Addr) (n c : Nat) (f : ByteArray) :
    Calls Try.prog 8 #[.slice a0 n c, .string f] w fun e w' => ∃ pb, e = .returned (.pointer (some ⟨pb, 0, none⟩)) ∧ Fresh w w' pb (.slice a0 n c) f := by
  refine (newPage_any w a0 n c f).mono ?_
  rintro e w' ⟨rfl, rfl⟩
  exact ⟨_, rfl, rfl, heap_alloc_new w _, fun k hk => Below.heap_alloc w _ k hk, by simp, rfl, rfl, rfl⟩

/-- Family, its bytes as numbers, the new length a letter. -/
theorem family_z (w : World) (pb B n N : Nat) (ao : Option Addr) (c : Nat) (zs : List Int) (nm name kind help : ByteArray)
    (hpg : w.heap[pb]? = some (.cells #[.slice ao n c, .string nm] 36 (0, 0))) (hown : w.ownsRow B 5 1 (.slice ao n c) n (zs.map (Value.int .u8))) (hB : B ≤ w.heap.size)
    (hn : n ≤ 16777216) (h1 : name.size ≤ 65536) (h2 : kind.size ≤ 65536) (h3 : help.size ≤ 65536) (hN : n + (18 + 2 * name.size + kind.size + help.size) = N) :
    Calls Try.prog 9 #[.pointer (some ⟨pb, 0, none⟩), .string name, .string kind, .string help] w fun e w' => e = .returned (.tuple #[]) ∧
      ∃ g cap, St w pb B (Value.slice ao n c).ownBlock w' (.slice (some ⟨g, 0, none⟩) N cap) N ((zs ++ famZ name kind help).map (Value.int .u8)) name := by
  subst hN
  refine (family_any w pb B n (.slice ao n c) _ nm name kind help hpg hown hB hn h1 h2 h3).mono ?_
  rintro e w' ⟨rfl, g, cap, hst⟩
  refine ⟨rfl, g, cap, ?_⟩
  rw [List.map_append, ← famCells_eq]
  exact hst

/-- What St keeps: a block that is neither the page nor the text's first row. -/
theorem St.below {W0 w : World} {pb B n : Nat} {row0 : Option Nat} {tv : Value} {xs : List Value} {nm : ByteArray} (h : St W0 pb B row0 w tv n xs nm) (B0 : Nat) (hB : B0 ≤ W0.heap.size) (hp : B0 ≤ pb) (hr : ∀ g, row0 = some g → B0 ≤ g) : Below B0 W0 w :=
  ⟨h.os, h.tape, h.output, h.size, fun k hk => h.blk k (by omega) (by omega) (fun e => by have := hr k e.symm; omega)⟩
theorem Fresh.below {w w' : World} {pb : Nat} {tv : Value} {f : ByteArray} (h : Fresh w w' pb tv f) (B0 : Nat) (hB : B0 ≤ w.heap.size) : Below B0 w w' :=
  ⟨h.os, h.tape, h.output, by have := h.size; omega, fun k hk => h.old k (by omega)⟩

end Go.Proofs.Qxb6628204a
