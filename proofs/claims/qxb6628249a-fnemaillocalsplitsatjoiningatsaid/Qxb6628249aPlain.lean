import Derived.Test.Qxb6628249aMail
namespace Go.Proofs.Qxb6628249a
open Go.RowKit
set_option linter.unusedVariables false

theorem get_left (s t : ByteArray) (j : Nat) (h : j < s.size) (h' : j < (s ++ t).size) : (s ++ t)[j] = s[j] := by
  have e : j < s.data.size := h
  simp only [ByteArray.getElem_eq_getElem_data, ByteArray.data_append, Array.getElem_append_left e]
theorem get_right (s t : ByteArray) (j : Nat) (h : j < t.size) (h' : s.size + j < (s ++ t).size) : (s ++ t)[s.size + j] = t[j] := by
  have e : s.data.size ≤ s.size + j := by show s.size ≤ _; omega
  simp only [ByteArray.getElem_eq_getElem_data, ByteArray.data_append, Array.getElem_append_right e]
  congr 1
  show s.size + j - s.size = j
  omega

theorem last_right {s t : ByteArray} {i : Nat} (h : LastAt t i) : LastAt (s ++ t) (s.size + i) := by
  obtain ⟨h1, h2, h3⟩ := h
  have hs : (s ++ t).size = s.size + t.size := ByteArray.size_append
  refine ⟨by omega, fun hh => ?_, fun j hj hij => ?_⟩
  · rw [get_right s t i h1 hh]; exact h2 h1
  · obtain ⟨k, rfl⟩ : ∃ k, j = s.size + k := ⟨j - s.size, by omega⟩
    rw [get_right s t k (by omega) hj]
    exact h3 k (by omega) (by omega)

theorem last_left {s t : ByteArray} {i : Nat} (h : LastAt s i) (hn : NoAt t) : LastAt (s ++ t) i := by
  obtain ⟨h1, h2, h3⟩ := h
  have hs : (s ++ t).size = s.size + t.size := ByteArray.size_append
  refine ⟨by omega, fun hh => ?_, fun j hj hij => ?_⟩
  · rw [get_left s t i h1 hh]; exact h2 h1
  · by_cases hl : j < s.size
    · rw [get_left s t j hl hj]; exact h3 j hl hij
    · obtain ⟨k, rfl⟩ : ∃ k, j = s.size + k := ⟨j - s.size, by omega⟩
      rw [get_right s t k (by omega) hj]
      exact hn k (by omega)

theorem no_append {s t : ByteArray} (h : NoAt s) (hn : NoAt t) : NoAt (s ++ t) := by
  have hs : (s ++ t).size = s.size + t.size := ByteArray.size_append
  intro j hj
  by_cases hl : j < s.size
  · rw [get_left s t j hl hj]; exact h j hl
  · obtain ⟨k, rfl⟩ : ∃ k, j = s.size + k := ⟨j - s.size, by omega⟩
    rw [get_right s t k (by omega) hj]
    exact hn k (by omega)

theorem last_one : LastAt ⟨#[64]⟩ 0 := by
  have e : (⟨#[64]⟩ : ByteArray).size = 1 := rfl
  exact ⟨by omega, fun _ => rfl, fun j hj hij => by omega⟩

theorem extract_right (s t : ByteArray) (i : Nat) : (s ++ t).extract 0 (s.size + i) = s ++ t.extract 0 i := by
  apply ByteArray.ext
  simp only [ByteArray.data_extract, ByteArray.data_append]
  have e : s.size = s.data.size := rfl
  rw [e, Array.extract_append]
  have e2 : s.data.extract 0 (s.data.size + i) = s.data := by
    apply Array.ext'
    rw [Array.toList_extract, List.extract_eq_take_drop]
    simp only [List.drop_zero]
    exact List.take_of_length_le (by simp only [Array.length_toList]; omega)
  rw [e2]
  have e3 : s.data.size + i - s.data.size = i := by omega
  rw [e3, Nat.zero_sub]

theorem extract_left (s t : ByteArray) (i : Nat) (h : i ≤ s.size) : (s ++ t).extract 0 i = s.extract 0 i := by
  apply ByteArray.ext
  simp only [ByteArray.data_extract, ByteArray.data_append]
  have e : s.size = s.data.size := rfl
  rw [Array.extract_append]
  have : i - s.data.size = 0 := by omega
  rw [this]
  simp

end Go.Proofs.Qxb6628249a
