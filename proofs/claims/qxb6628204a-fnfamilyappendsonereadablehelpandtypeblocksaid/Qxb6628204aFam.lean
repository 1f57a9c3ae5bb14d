import Derived.Test.Qxb6628204aRows
import Derived.Test.Qxb6628204aMem
import Derived.WalkKit
import Derived.WalkSpells
import Derived.WalkLawsBesides
namespace Go.Proofs.Qxb6628204a
open Go.RowKit Go.Lib
set_option linter.unusedVariables false

theorem Try.info5 : (Try.prog.info? 5).map (fun i => (i.zero, i.size, i.bytes)) = some (some (.int .u8 0), 1, 1) := by kernel_rfl

/-- What Family writes. -/
def famCells (name kind help : ByteArray) : List Value :=
  strCells ⟨#[35, 32, 72, 69, 76, 80, 32]⟩ ++ (strCells name ++ ([.int .u8 32] ++ (strCells help ++ (strCells ⟨#[10, 35, 32, 84, 89, 80, 69, 32]⟩ ++ (strCells name ++ ([.int .u8 32] ++ (strCells kind ++ [.int .u8 10])))))))

theorem fam_fin {W0 w : World} {pb B N M g cap : Nat} {row0 : Option Nat} {xs : List Value} {name kind help : ByteArray}
    (h : St W0 pb B row0 w (.slice (some ⟨g, 0, none⟩) N cap) N
      (((((((((xs ++ strCells ⟨#[35, 32, 72, 69, 76, 80, 32]⟩) ++ strCells name) ++ [.int .u8 32]) ++ strCells help) ++ strCells ⟨#[10, 35, 32, 84, 89, 80, 69, 32]⟩) ++ strCells name) ++ [.int .u8 32]) ++ strCells kind) ++ [.int .u8 10]) name)
    (hN : N = M) : St W0 pb B row0 w (.slice (some ⟨g, 0, none⟩) M cap) M (xs ++ famCells name kind help) name := by
  subst hN
  have e : xs ++ famCells name kind help = (((((((((xs ++ strCells ⟨#[35, 32, 72, 69, 76, 80, 32]⟩) ++ strCells name) ++ [.int .u8 32]) ++ strCells help) ++ strCells ⟨#[10, 35, 32, 84, 89, 80, 69, 32]⟩) ++ strCells name) ++ [.int .u8 32]) ++ strCells kind) ++ [.int .u8 10]) := by
    unfold famCells
    simp only [List.append_assoc]
  rw [e]
  exact h

set_option maxHeartbeats 1600000 in
set_option maxRecDepth 100000 in
theorem family_any (w : World) (pb B n : Nat) (tv : Value) (xs : List Value) (nm name kind help : ByteArray)
    (hpg : w.heap[pb]? = some (.cells #[tv, .string nm] 36 (0, 0))) (hown : w.ownsRow B 5 1 tv n xs) (hB : B ≤ w.heap.size)
    (hn : n ≤ 16777216) (h1 : name.size ≤ 65536) (h2 : kind.size ≤ 65536) (h3 : help.size ≤ 65536) :
    Calls Try.prog 9 #[.pointer (some ⟨pb, 0, none⟩), .string name, .string kind, .string help] w fun e w' => e = .returned (.tuple #[]) ∧
      ∃ g cap, St w pb B tv.ownBlock w' (.slice (some ⟨g, 0, none⟩) (n + (18 + 2 * name.size + kind.size + help.size)) cap) (n + (18 + 2 * name.size + kind.size + help.size)) (xs ++ famCells name kind help) name := by
  have c0 := page_cell0 hpg
  have c1 := page_cell1 hpg
  have f0 : w.frozen? ⟨pb, 0, none⟩ = false := page_frozen hpg
  have f1 : w.frozen? ⟨pb, 1, none⟩ = false := page_frozen hpg
  have S0 : St w pb B tv.ownBlock (w.setCell ⟨pb, 1, none⟩ (.string name)) tv n xs name := by
    refine ⟨page_setCell1 hpg, ownsRow_setCell_other hown ?_ _, fun g hg => .inl hg, rfl, rfl, rfl, by simp [World.setCell], hB, fun k hk h1 h2 => Below.heap_setCell _ _ _ _ h1⟩
    intro he
    rcases hown.2 with ⟨rfl, _⟩ | ⟨g, cap, cur, rfl, _, hgg, _⟩
    · simp [Value.ownBlock] at he
    · simp [Value.ownBlock] at he
      subst he
      rw [hgg] at hpg
      simp at hpg
  obtain ⟨N1, hN1⟩ : ∃ N, Hid (n + 7 = N) := ⟨_, rfl⟩
  have bN1 : N1 ≤ 16842752 ∧ 0 < N1 := by have := hN1.out; omega
  obtain ⟨N2, hN2⟩ : ∃ N, Hid (N1 + name.size = N) := ⟨_, rfl⟩
  have bN2 : N2 ≤ 16908288 ∧ 0 < N2 := by have := hN2.out; omega
  obtain ⟨N3, hN3⟩ : ∃ N, Hid (N2 + 1 = N) := ⟨_, rfl⟩
  have bN3 : N3 ≤ 16973824 ∧ 0 < N3 := by have := hN3.out; omega
  obtain ⟨N4, hN4⟩ : ∃ N, Hid (N3 + help.size = N) := ⟨_, rfl⟩
  have bN4 : N4 ≤ 17039360 ∧ 0 < N4 := by have := hN4.out; omega
  obtain ⟨N5, hN5⟩ : ∃ N, Hid (N4 + 8 = N) := ⟨_, rfl⟩
  have bN5 : N5 ≤ 17104896 ∧ 0 < N5 := by have := hN5.out; omega
  obtain ⟨N6, hN6⟩ : ∃ N, Hid (N5 + name.size = N) := ⟨_, rfl⟩
  have bN6 : N6 ≤ 17170432 ∧ 0 < N6 := by have := hN6.out; omega
  obtain ⟨N7, hN7⟩ : ∃ N, Hid (N6 + 1 = N) := ⟨_, rfl⟩
  have bN7 : N7 ≤ 17235968 ∧ 0 < N7 := by have := hN7.out; omega
  obtain ⟨N8, hN8⟩ : ∃ N, Hid (N7 + kind.size = N) := ⟨_, rfl⟩
  have bN8 : N8 ≤ 17301504 ∧ 0 < N8 := by have := hN8.out; omega
  obtain ⟨N9, hN9⟩ : ∃ N, Hid (N8 + 1 = N) := ⟨_, rfl⟩
  have bN9 : N9 ≤ 17367040 ∧ 0 < N9 := by have := hN9.out; omega
  go_enter Try.func9, Try.ntmps9
  go_wp2_with (first
    | (at_builtin; have _t := S0; refine wpList_pg_str rfl (.tmp 16) (.const (.string ⟨#[35, 32, 72, 69, 76, 80, 32]⟩)) rfl Try.underlying22 Try.underlying9 Try.info5 S0 rfl _ rfl N1 hN1.out (by omega) (by omega) ?_; clear S0 _t; intro g1 k1 w1 P1 S1; have cc1 := page_cell0 P1; have ff1 : w1.frozen? ⟨pb, 0, none⟩ = false := page_frozen P1; clear P1)
    | (at_builtin; have _t := S1; refine wpList_pg_str rfl (.tmp 24) (.tmp 25) rfl Try.underlying22 Try.underlying9 Try.info5 S1 rfl _ rfl N2 hN2.out (by omega) (by omega) ?_; clear S1 _t; intro g2 k2 w2 P2 S2; have cc2 := page_cell0 P2; have ff2 : w2.frozen? ⟨pb, 0, none⟩ = false := page_frozen P2; clear P2)
    | (at_builtin; have _t := S2; refine wpList_pg_byte rfl (.tmp 33) (.tmp 34) rfl Try.underlying22 Try.info5 S2 32 rfl _ rfl (by simp) N3 hN3.out (by omega) ?_; clear S2 _t; intro g3 k3 w3 P3 S3; have cc3 := page_cell0 P3; have ff3 : w3.frozen? ⟨pb, 0, none⟩ = false := page_frozen P3; clear P3)
    | (at_builtin; have _t := S3; refine wpList_pg_str rfl (.tmp 42) (.tmp 43) rfl Try.underlying22 Try.underlying9 Try.info5 S3 rfl _ rfl N4 hN4.out (by omega) (by omega) ?_; clear S3 _t; intro g4 k4 w4 P4 S4; have cc4 := page_cell0 P4; have ff4 : w4.frozen? ⟨pb, 0, none⟩ = false := page_frozen P4; clear P4)
    | (at_builtin; have _t := S4; refine wpList_pg_str rfl (.tmp 51) (.const (.string ⟨#[10, 35, 32, 84, 89, 80, 69, 32]⟩)) rfl Try.underlying22 Try.underlying9 Try.info5 S4 rfl _ rfl N5 hN5.out (by omega) (by omega) ?_; clear S4 _t; intro g5 k5 w5 P5 S5; have cc5 := page_cell0 P5; have ff5 : w5.frozen? ⟨pb, 0, none⟩ = false := page_frozen P5; clear P5)
    | (at_builtin; have _t := S5; refine wpList_pg_str rfl (.tmp 59) (.tmp 60) rfl Try.underlying22 Try.underlying9 Try.info5 S5 rfl _ rfl N6 hN6.out (by omega) (by omega) ?_; clear S5 _t; intro g6 k6 w6 P6 S6; have cc6 := page_cell0 P6; have ff6 : w6.frozen? ⟨pb, 0, none⟩ = false := page_frozen P6; clear P6)
    | (at_builtin; have _t := S6; refine wpList_pg_byte rfl (.tmp 68) (.tmp 69) rfl Try.underlying22 Try.info5 S6 32 rfl _ rfl (by simp) N7 hN7.out (by omega) ?_; clear S6 _t; intro g7 k7 w7 P7 S7; have cc7 := page_cell0 P7; have ff7 : w7.frozen? ⟨pb, 0, none⟩ = false := page_frozen P7; clear P7)
    | (at_builtin; have _t := S7; refine wpList_pg_str rfl (.tmp 77) (.tmp 78) rfl Try.underlying22 Try.underlying9 Try.info5 S7 rfl _ rfl N8 hN8.out (by omega) (by omega) ?_; clear S7 _t; intro g8 k8 w8 P8 S8; have cc8 := page_cell0 P8; have ff8 : w8.frozen? ⟨pb, 0, none⟩ = false := page_frozen P8; clear P8)
    | (at_builtin; have _t := S8; refine wpList_pg_byte rfl (.tmp 86) (.tmp 87) rfl Try.underlying22 Try.info5 S8 10 rfl _ rfl (by simp) N9 hN9.out (by omega) ?_; clear S8 _t; intro g9 k9 w9 P9 S9; have cc9 := page_cell0 P9; have ff9 : w9.frozen? ⟨pb, 0, none⟩ = false := page_frozen P9; clear P9))
  go_end0
  exact ⟨rfl, g9, k9, fam_fin S9 (by have := hN1.out; have := hN2.out; have := hN3.out; have := hN4.out; have := hN5.out; have := hN6.out; have := hN7.out; have := hN8.out; have := hN9.out; omega)⟩

end Go.Proofs.Qxb6628204a
