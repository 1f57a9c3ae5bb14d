import Derived.Test.Qxb6628204aFam
namespace Go.Proofs.Qxb6628204a
open Go.RowKit Go.Lib
set_option linter.unusedVariables false

theorem newPage_any (w : World) (a0 : Option Addr) (n c : Nat) (f : ByteArray) :
    Calls Try.prog 8 #[.slice a0 n c, .string f] w fun e w' => e = .returned (.pointer (some ⟨w.heap.size, 0, none⟩)) ∧ w' = w.alloc (.cells #[.slice a0 n c, .string f] 36) := by
  go_enter Try.func8, Try.ntmps8
  go_wp2
  go_ret
  exact ⟨rfl, rfl⟩

theorem pageText_any (w : World) (pb : Nat) (a0 : Option Addr) (n c : Nat) (y : Value) (h : w.heap[pb]? = some (.cells #[.slice a0 n c, y] 36 (0, 0))) :
    Calls Try.prog 10 #[.pointer (some ⟨pb, 0, none⟩)] w fun e w' => e = .returned (.slice a0 n c) ∧ w' = w := by
  have c0 := page_cell0 h
  clear h
  go_enter Try.func10, Try.ntmps10
  go_wp2
  go_ret
  exact ⟨rfl, rfl⟩

theorem pageFamily_any (w : World) (pb : Nat) (s : ByteArray) (x : Value) (h : w.heap[pb]? = some (.cells #[x, .string s] 36 (0, 0))) :
    Calls Try.prog 12 #[.pointer (some ⟨pb, 0, none⟩)] w fun e w' => e = .returned (.string s) ∧ w' = w := by
  have c0 := page_cell1 h
  clear h
  go_enter Try.func12, Try.ntmps12
  go_wp2
  go_ret
  exact ⟨rfl, rfl⟩

theorem clone_nil (w : World) : Calls Try.prog 7 #[.slice none 0 0] w fun e w' => e = .returned (.slice none 0 0) ∧ w' = w := by
  have q := fun (w : World) (a : Option Addr) (n c : Nat) => run_eql_slice_nil (P := Try.prog) w 22 5 a n c 0 0 Try.underlying22
  go_enter Try.func7, Try.ntmps7
  go_wp2
  go_ret
  exact ⟨rfl, rfl⟩

end Go.Proofs.Qxb6628204a
