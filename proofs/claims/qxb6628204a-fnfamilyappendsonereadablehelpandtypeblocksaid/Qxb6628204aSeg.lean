import Derived.Test.Qxb6628204aRead
import Derived.Test.Qxb6628204aJoin
namespace Go.Proofs.Qxb6628204a
open Go.RowKit Go.Lib
set_option linter.unusedVariables false

/-- From place off on the block g holds the numbers B. -/
def SegAt (w : World) (g off : Nat) (B : List Int) : Prop := ∀ k, k < B.length → w.cell? ⟨g, off + k, none⟩ = some (.int .u8 (B.getD k 0))

theorem seg_getD (A B C : List Int) (k : Nat) (h : k < B.length) : (A ++ (B ++ C)).getD (A.length + k) 0 = B.getD k 0 := by
  rw [List.getD_eq_getElem?_getD, List.getD_eq_getElem?_getD, List.getElem?_append_right (by omega), List.getElem?_append_left (by omega)]
  simp

theorem seg_of {w : World} {g : Nat} {L : List Int} (h : ∀ j, j < L.length → w.cell? ⟨g, j, none⟩ = some (.int .u8 (L.getD j 0))) (A B C : List Int) (e : L = A ++ (B ++ C)) (off : Nat) (ho : A.length = off) : SegAt w g off B := by
  subst ho
  intro k hk
  rw [h (A.length + k) (by rw [e]; simp; omega), e, seg_getD A B C k hk]

theorem bytesI_getD (s : ByteArray) (k : Nat) (h : k < s.size) : (bytesI s).getD k 0 = (s[k].toNat : Int) := by
  have h' : k < s.data.size := h
  have e : s.data[k]? = some s.data[k] := Array.getElem?_eq_getElem h'
  simp [bytesI, List.getD, e, ByteArray.getElem_eq_getElem_data]

theorem str_of_bytesI (s : ByteArray) : strOfNums (bytesI s) = s := by
  unfold strOfNums bytesI
  rw [List.map_map]
  have : ((fun n : Int => UInt8.ofNat n.toNat) ∘ fun b : UInt8 => (b.toNat : Int)) = id := by
    funext b
    simp
  rw [this, List.map_id]

theorem seg_pre {w : World} {g off : Nat} {s : ByteArray} (h : SegAt w g off (bytesI s)) : ∀ k (hk : k < s.size), w.cell? ⟨g, off + k, none⟩ = some (.int .u8 (s[k].toNat : Int)) := by
  intro k hk
  rw [h k (by rw [bytesI_length]; exact hk), bytesI_getD s k hk]

theorem seg_till {w : World} {g off p : Nat} {s : ByteArray} {c : Int} (h : SegAt w g off (bytesI s)) (hp : off + s.size = p) (hc : SegAt w g p [c]) (hno : hasB s c = false) : Till w g off p c := by
  subst hp
  refine ⟨fun k h1 h2 => ?_, by simpa using hc 0 (by simp)⟩
  have hk : k - off < s.size := by omega
  refine ⟨(s[k - off].toNat : Int), ?_, ?_⟩
  · have := seg_pre h (k - off) hk
    rwa [show off + (k - off) = k by omega] at this
  · have := hasB_no s c hno (k - off) hk
    simpa using this

theorem seg_conv {w : World} {g off len : Nat} {s : ByteArray} (h : SegAt w g off (bytesI s)) (hl : s.size = len) : ∀ cp q, (convert 22 9 (.slice (some ⟨g, off, none⟩) len cp)).run Try.prog (w.drewN q) = .ok (.string s) (w.drewN q) := by
  intro cp q
  have := run_convert_bytes_arg (P := Try.prog) (w.drewN q) 22 5 Try.underlying22 Try.underlying5 g off len cp (bytesI s) (by rw [bytesI_length]; exact hl) (fun i hi => h i (by rw [bytesI_length]; omega)) 9 Try.underlying9
  rwa [str_of_bytesI] at this

/-- The small reader, at what Family writes. -/
theorem read_fam (w : World) (g n c : Nat) (name kind help : ByteArray) (hrd : Rd w (some ⟨g, 0, none⟩) (famZ name kind help)) (hn : n = 18 + 2 * name.size + kind.size + help.size) (hnc : n ≤ c) (hcm : c ≤ maxLen)
    (b1 : name.size ≤ 65536) (b2 : kind.size ≤ 65536) (b3 : help.size ≤ 65536) (e1 : hasB name 32 = false) (e2 : hasB help 10 = false) (e3 : hasB kind 10 = false) :
    Calls Try.prog 13 #[.slice (some ⟨g, 0, none⟩) n c] w fun e w' => e = .returned (.tuple #[.string name, .string help, .string kind, .bool true]) ∧ ∃ q, w' = w.drewN q := by
  have hl := famZ_length name kind help
  have hcell : ∀ j, j < (famZ name kind help).length → w.cell? ⟨g, j, none⟩ = some (.int .u8 ((famZ name kind help).getD j 0)) := by
    obtain ⟨g', e, h⟩ := hrd (by omega)
    simp at e
    subst e
    exact h
  have z1 : (bytesI ⟨#[35, 32, 72, 69, 76, 80, 32]⟩).length = 7 := rfl
  have z2 : (bytesI ⟨#[35, 32, 84, 89, 80, 69, 32]⟩).length = 7 := rfl
  have zt : bytesI ⟨#[10, 35, 32, 84, 89, 80, 69, 32]⟩ = [10] ++ bytesI ⟨#[35, 32, 84, 89, 80, 69, 32]⟩ := rfl
  have zn := bytesI_length name
  have zk := bytesI_length kind
  have zh := bytesI_length help
  generalize hH : bytesI ⟨#[35, 32, 72, 69, 76, 80, 32]⟩ = H at *
  generalize hT : bytesI ⟨#[35, 32, 84, 89, 80, 69, 32]⟩ = T at *
  have ef : famZ name kind help = H ++ (bytesI name ++ ([32] ++ (bytesI help ++ ([10] ++ (T ++ (bytesI name ++ ([32] ++ (bytesI kind ++ [10])))))))) := by
    unfold famZ
    rw [hH, zt]
    simp only [List.append_assoc]
  have sH : SegAt w g 0 H := seg_of hcell [] H _ (by rw [ef]; rfl) 0 rfl
  have sN1 : SegAt w g 7 (bytesI name) := seg_of hcell H (bytesI name) _ ef 7 z1
  have sS1 : SegAt w g (7 + name.size) [32] := seg_of hcell (H ++ bytesI name) [32] _ (by rw [ef]; simp only [List.append_assoc]; rfl) _ (by simp [z1, zn])
  have sHp : SegAt w g (7 + name.size + 1) (bytesI help) := seg_of hcell (H ++ bytesI name ++ [32]) (bytesI help) _ (by rw [ef]; simp only [List.append_assoc]; rfl) _ (by simp [z1, zn]; omega)
  have sL1 : SegAt w g (7 + name.size + 1 + help.size) [10] := seg_of hcell (H ++ bytesI name ++ [32] ++ bytesI help) [10] _ (by rw [ef]; simp only [List.append_assoc]; rfl) _ (by simp [z1, zn, zh]; omega)
  have sT : SegAt w g (7 + name.size + 1 + help.size + 1) T := seg_of hcell (H ++ bytesI name ++ [32] ++ bytesI help ++ [10]) T _ (by rw [ef]; simp only [List.append_assoc]; rfl) _ (by simp [z1, zn, zh]; omega)
  have sN2 : SegAt w g (7 + name.size + 1 + help.size + 8) (bytesI name) := seg_of hcell (H ++ bytesI name ++ [32] ++ bytesI help ++ [10] ++ T) (bytesI name) _ (by rw [ef]; simp only [List.append_assoc]; rfl) _ (by simp [z1, z2, zn, zh]; omega)
  have sS2 : SegAt w g (7 + name.size + 1 + help.size + 8 + name.size) [32] := seg_of hcell (H ++ bytesI name ++ [32] ++ bytesI help ++ [10] ++ T ++ bytesI name) [32] _ (by rw [ef]; simp only [List.append_assoc]; rfl) _ (by simp [z1, z2, zn, zh]; omega)
  have sK : SegAt w g (7 + name.size + 1 + help.size + 8 + name.size + 1) (bytesI kind) := seg_of hcell (H ++ bytesI name ++ [32] ++ bytesI help ++ [10] ++ T ++ bytesI name ++ [32]) (bytesI kind) _ (by rw [ef]; simp only [List.append_assoc]; rfl) _ (by simp [z1, z2, zn, zh]; omega)
  have sL2 : SegAt w g (7 + name.size + 1 + help.size + 8 + name.size + 1 + kind.size) [10] := seg_of hcell (H ++ bytesI name ++ [32] ++ bytesI help ++ [10] ++ T ++ bytesI name ++ [32] ++ bytesI kind) [10] [] (by rw [ef]; simp only [List.append_assoc, List.append_nil]) _ (by simp [z1, z2, zn, zh, zk]; omega)
  subst hH
  subst hT
  exact readBlock_any g n c (7 + name.size) (7 + name.size + 1 + help.size) (7 + name.size + 1 + help.size + 8 + name.size) (7 + name.size + 1 + help.size + 8 + name.size + 1 + kind.size) name help kind w hnc hcm (by omega) (by omega) (by omega) (by omega) (by omega) (by omega)
    (seg_till sN1 rfl sS1 e1) (seg_till sHp rfl sL1 e2) (seg_till sN2 rfl sS2 e1) (seg_till sK rfl sL2 e3) (seg_pre sH) (seg_pre sT)
    (seg_conv sN1 (by omega)) (seg_conv sHp (by omega)) (seg_conv sN2 (by omega)) (seg_conv sK (by omega))

end Go.Proofs.Qxb6628204a
