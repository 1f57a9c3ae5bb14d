import Derived.Test.Qxb6628204aFam
import Derived.Deep.QuietTactic
import Derived.BigQuiet
namespace Go.Proofs.Qxb6628204a
open Go.RowKit Go.Lib
set_option linter.unusedVariables false

/-- What the walk reads of a slice of bytes: the numbers zs (of an empty one nothing is known). -/
def Rd (w : World) (ao : Option Addr) (zs : List Int) : Prop :=
  0 < zs.length → ∃ g, ao = some ⟨g, 0, none⟩ ∧ ∀ j, j < zs.length → w.cell? ⟨g, j, none⟩ = some (.int .u8 (zs.getD j 0))

theorem Rd.drewN {w : World} {ao : Option Addr} {zs : List Int} (h : Rd w ao zs) (q : Nat) : Rd (w.drewN q) ao zs := h

theorem rd_pair {w : World} {g0 a0 : Option Addr} {gz az : List Int} (hg : Rd w g0 gz) (ha : Rd w a0 az) (i j : Nat) (hi : i < gz.length) (hj : j < az.length) (he : gz.getD i 0 = az.getD j 0) :
    ∃ g a z, g0 = some ⟨g, 0, none⟩ ∧ a0 = some ⟨a, 0, none⟩ ∧ w.cell? ⟨g, i, none⟩ = some (.int .u8 z) ∧ w.cell? ⟨a, j, none⟩ = some (.int .u8 z) := by
  obtain ⟨g, e1, h1⟩ := hg (by omega)
  obtain ⟨a, e2, h2⟩ := ha (by omega)
  exact ⟨g, a, _, e1, e2, h1 i hi, by rw [h2 j hj, he]⟩

theorem getD_1 (az bz cz : List Int) (k : Nat) (h : k < az.length) : (az ++ bz ++ cz).getD k 0 = az.getD k 0 := by
  rw [List.append_assoc, List.getD_eq_getElem?_getD, List.getD_eq_getElem?_getD, List.getElem?_append_left h]
theorem getD_2 (az bz cz : List Int) (k : Nat) (h : k < bz.length) : (az ++ bz ++ cz).getD (az.length + k) 0 = bz.getD k 0 := by
  rw [List.append_assoc, List.getD_eq_getElem?_getD, List.getD_eq_getElem?_getD, List.getElem?_append_right (by omega), List.getElem?_append_left (by omega)]
  simp
theorem getD_3 (az bz cz : List Int) (k : Nat) (h : k < cz.length) : (az ++ bz ++ cz).getD (az.length + bz.length + k) 0 = cz.getD k 0 := by
  rw [List.getD_eq_getElem?_getD, List.getD_eq_getElem?_getD, List.getElem?_append_right (by simp)]
  simp

set_option maxHeartbeats 1600000 in
theorem concat_any (w : World) (go ao bo co : Option Addr) (gz az bz cz : List Int) (ng na nb nc cg ca cb cc : Nat)
    (hg : Rd w go gz) (ha : Rd w ao az) (hb : Rd w bo bz) (hc : Rd w co cz) (lg : gz.length = ng) (la : az.length = na) (lb : bz.length = nb) (lc : cz.length = nc)
    (e : gz = az ++ bz ++ cz) (ba : na ≤ 16777216) (bb : nb ≤ 16777216) (bc : nc ≤ 16777216) :
    Calls Try.prog 11 #[.slice go ng cg, .slice ao na ca, .slice bo nb cb, .slice co nc cc] w fun e w' => e = .returned (.bool true) ∧ ∃ q, w' = w.drewN q := by
  have hng : ng = na + nb + nc := by rw [← lg, e]; simp [la, lb, lc]; omega
  have E1 : ∀ k, k < na → gz.getD k 0 = az.getD k 0 := fun k hk => by rw [e]; exact getD_1 _ _ _ _ (by omega)
  have E2 : ∀ k, k < nb → gz.getD (na + k) 0 = bz.getD k 0 := fun k hk => by rw [e, ← la]; exact getD_2 _ _ _ _ (by omega)
  have E3 : ∀ k, k < nc → gz.getD (na + nb + k) 0 = cz.getD k 0 := fun k hk => by rw [e, ← la, ← lb]; exact getD_3 _ _ _ _ (by omega)
  have P1 : Hid (∀ k, k < na → ∃ g a z, go = some ⟨g, 0, none⟩ ∧ ao = some ⟨a, 0, none⟩ ∧ w.cell? ⟨g, k, none⟩ = some (.int .u8 z) ∧ w.cell? ⟨a, k, none⟩ = some (.int .u8 z)) :=
    fun k hk => rd_pair hg ha k k (by omega) (by omega) (E1 k hk)
  have P2 : Hid (∀ k, k < nb → ∃ g a z, go = some ⟨g, 0, none⟩ ∧ bo = some ⟨a, 0, none⟩ ∧ w.cell? ⟨g, na + k, none⟩ = some (.int .u8 z) ∧ w.cell? ⟨a, k, none⟩ = some (.int .u8 z)) :=
    fun k hk => rd_pair hg hb (na + k) k (by omega) (by omega) (E2 k hk)
  have P3 : Hid (∀ k, k < nc → ∃ g a z, go = some ⟨g, 0, none⟩ ∧ co = some ⟨a, 0, none⟩ ∧ w.cell? ⟨g, na + nb + k, none⟩ = some (.int .u8 z) ∧ w.cell? ⟨a, k, none⟩ = some (.int .u8 z)) :=
    fun k hk => rd_pair hg hc (na + nb + k) k (by omega) (by omega) (E3 k hk)
  clear E1 E2 E3 hg ha hb hc lg la lb lc e
  subst hng
  go_enter Try.func11, Try.ntmps11
  go_wp2
  go_loopw [9] (fun i wr => ∃ k q : Nat, k ≤ na ∧ i = .int .i64 k ∧ wr = w.drewN q) (fun i _ => na - (intOf i).toNat)
  case atStart => exact ⟨0, 0, Nat.zero_le _, rfl, rfl⟩
  case round =>
    obtain ⟨k, q, hk, rfl, rfl⟩ := hrel
    by_cases hlt : k < na
    · obtain ⟨g, a, z, rfl, rfl, c1, c2⟩ := P1.out k hlt
      have b1 : (k : Int) < (na : Int) := by omega
      have b2 : (k : Int) < ((na + nb + nc : Nat) : Int) := by omega
      go_wp2
      go_quiet (fail)
      go_wp2
      go_roundw
      case rel => exact ⟨k + 1, _, by omega, by go_num, rfl⟩
      case measure => simp [intOf]; omega
    · go_wp2
      go_loopw [10] (fun i wr => ∃ k q : Nat, k ≤ nb ∧ i = .int .i64 k ∧ wr = w.drewN q) (fun i _ => nb - (intOf i).toNat)
      case atStart => exact ⟨0, q, Nat.zero_le _, rfl, rfl⟩
      case round =>
        clear hlt hk
        obtain ⟨k, q, hk, rfl, rfl⟩ := hrel
        by_cases hlt : k < nb
        · obtain ⟨g, a, z, rfl, rfl, c1, c2⟩ := P2.out k hlt
          have b1 : (k : Int) < (nb : Int) := by omega
          have b2 : (na : Int) + (k : Int) < (na : Int) + (nb : Int) + (nc : Int) := by omega
          have b3 : ((na : Int) + (k : Int)).toNat = na + k := by omega
          go_wp2
          go_quiet (fail)
          go_wp2
          go_roundw
          case rel => exact ⟨k + 1, _, by omega, by go_num, rfl⟩
          case measure => simp [intOf]; omega
        · go_wp2
          go_loopw [11] (fun i wr => ∃ k q : Nat, k ≤ nc ∧ i = .int .i64 k ∧ wr = w.drewN q) (fun i _ => nc - (intOf i).toNat)
          case atStart => exact ⟨0, q, Nat.zero_le _, rfl, rfl⟩
          case round =>
            clear hlt hk
            obtain ⟨k, q, hk, rfl, rfl⟩ := hrel
            by_cases hlt : k < nc
            · obtain ⟨g, a, z, rfl, rfl, c1, c2⟩ := P3.out k hlt
              have b1 : (k : Int) < (nc : Int) := by omega
              have b2 : (na : Int) + (nb : Int) + (k : Int) < (na : Int) + (nb : Int) + (nc : Int) := by omega
              have b3 : ((na : Int) + (nb : Int) + (k : Int)).toNat = na + nb + k := by omega
              go_wp2
              go_quiet (fail)
              go_wp2
              go_roundw
              case rel => exact ⟨k + 1, _, by omega, by go_num, rfl⟩
              case measure => simp [intOf]; omega
            · go_wp2
              go_ret
              exact ⟨rfl, _, rfl⟩

end Go.Proofs.Qxb6628204a
