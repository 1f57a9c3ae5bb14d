import Derived.Test.Qxb6628962aFloor
namespace Go.Proofs.Qxb6628962a
set_option linter.unusedVariables false
set_option linter.unusedSimpArgs false

def nextOf (sc : Int) (lo : Option Int) : Int :=
  match lo with
  | none => sc
  | some l => min sc l
def wantOf (f : Flr) (sc : Int) (st : Option Bool) (lo : Option Int) : Int := if 0 < sc ∧ st = some true then max f.seq (nextOf sc lo) else f.seq

theorem mvA_seq (f : Flr) (sc : Int) (sx : ByteArray) (lo : Option Int) : (mvA f sc sx lo).seq = max f.seq (nextOf sc lo) ∧ (mvA f sc sx lo).high = f.high := by
  unfold mvA nextOf
  by_cases hx : f.xid = sx <;> rcases lo with _ | l <;> simp [hx]
theorem mvB_seq (f : Flr) (b : Int) (lo : Option Int) (gd : Bool) (xi : ByteArray) : (mvB f b lo gd xi).seq = f.seq ∧ (mvB f b lo gd xi).high = f.high := by
  unfold mvB
  by_cases hc : f.cand = 0 ∧ gd = true
  · rw [if_pos hc]
    rcases lo with _ | l
    · by_cases hb : 0 < b <;> simp [hb]
    · simp
  · rw [if_neg hc]; simp
theorem mvB_keep (f : Flr) (b : Int) (lo : Option Int) (gd : Bool) (xi : ByteArray) (h : f.cand ≠ 0) : mvB f b lo gd xi = f := by
  unfold mvB
  rw [if_neg (fun hh => h hh.1)]

theorem mv_seq (f : Flr) (sc : Int) (sx : ByteArray) (st : Option Bool) (lo : Option Int) (gd : Bool) (xi : ByteArray) (t : Int) :
    (mv f sc sx st lo gd xi t).seq = wantOf f sc st lo ∧ (mv f sc sx st lo gd xi t).high = max f.high t := by
  unfold mv wantOf
  by_cases hs : 0 < sc
  · rcases st with _ | b
    · simp [hs]
    · cases b with
      | false => simp [hs]
      | true =>
        rw [if_pos hs, if_pos (show 0 < sc ∧ some true = some true from ⟨hs, rfl⟩)]
        refine ⟨(mvB_seq _ _ _ _ _).1.trans (mvA_seq _ _ _ _).1, (mvB_seq _ _ _ _ _).2.trans (mvA_seq _ _ _ _).2⟩
  · simp only [if_neg hs, if_neg (fun h : 0 < sc ∧ st = some true => hs h.1)]
    exact mvB_seq _ _ _ _ _

theorem mv_keep (f : Flr) (sc : Int) (sx : ByteArray) (st : Option Bool) (lo : Option Int) (gd : Bool) (xi : ByteArray) (t : Int) (hc : f.cand ≠ 0) (hk : ¬ ((0 < sc ∧ st = some true) ∧ f.xid = sx)) :
    (mv f sc sx st lo gd xi t).cand = f.cand ∧ (mv f sc sx st lo gd xi t).xid = f.xid := by
  unfold mv
  by_cases hs : 0 < sc
  · rcases st with _ | b
    · simp [hs]
    · cases b with
      | false => simp [hs]
      | true =>
        have hx : ¬ f.xid = sx := fun h => hk ⟨⟨hs, rfl⟩, h⟩
        simp only [if_pos hs]
        have hA : (mvA { f with high := max f.high t } sc sx lo).cand = f.cand ∧ (mvA { f with high := max f.high t } sc sx lo).xid = f.xid := by
          unfold mvA
          simp [hx]
        rw [mvB_keep _ _ _ _ _ (by rw [hA.1]; exact hc)]
        exact hA
  · simp only [if_neg hs]
    rw [mvB_keep { f with high := max f.high t } _ _ _ _ hc]
    exact ⟨rfl, rfl⟩

/-- Two moves by one report. -/
theorem once_plain (f : Flr) (sc : Int) (sx : ByteArray) (st : Option Bool) (lo : Option Int) (gd : Bool) (xi : ByteArray) (t W Hh : Int) (hW : wantOf f sc st lo = W) (hH : max f.high t = Hh) :
    ∃ c1 x1 c2 x2, mv f sc sx st lo gd xi t = ⟨W, c1, x1, Hh⟩ ∧ mv ⟨W, c1, x1, Hh⟩ sc sx st lo gd xi t = ⟨W, c2, x2, Hh⟩ ∧
      (f.cand ≠ 0 → ¬ ((0 < sc ∧ st = some true) ∧ f.xid = sx) → c1 = f.cand ∧ x1 = f.xid ∧ c2 = f.cand ∧ x2 = f.xid) := by
  have h1 := mv_seq f sc sx st lo gd xi t
  rw [hW, hH] at h1
  have e1 : mv f sc sx st lo gd xi t = ⟨W, (mv f sc sx st lo gd xi t).cand, (mv f sc sx st lo gd xi t).xid, Hh⟩ := by
    generalize mv f sc sx st lo gd xi t = G at *
    obtain ⟨g1, g2, g3, g4⟩ := G
    dsimp only at h1
    rw [h1.1, h1.2]
  have h2 := mv_seq ⟨W, (mv f sc sx st lo gd xi t).cand, (mv f sc sx st lo gd xi t).xid, Hh⟩ sc sx st lo gd xi t
  have hw2 : wantOf ⟨W, (mv f sc sx st lo gd xi t).cand, (mv f sc sx st lo gd xi t).xid, Hh⟩ sc st lo = W := by
    rw [← hW]
    unfold wantOf
    by_cases hs : 0 < sc ∧ st = some true
    · simp only [if_pos hs]; omega
    · simp only [if_neg hs]
  have hh2 : max Hh t = Hh := by omega
  rw [hw2, show max (Flr.mk W (mv f sc sx st lo gd xi t).cand (mv f sc sx st lo gd xi t).xid Hh).high t = Hh from hh2] at h2
  refine ⟨_, _, (mv ⟨W, (mv f sc sx st lo gd xi t).cand, (mv f sc sx st lo gd xi t).xid, Hh⟩ sc sx st lo gd xi t).cand, (mv ⟨W, (mv f sc sx st lo gd xi t).cand, (mv f sc sx st lo gd xi t).xid, Hh⟩ sc sx st lo gd xi t).xid, e1, ?_, fun hc hk => ?_⟩
  · generalize mv ⟨W, (mv f sc sx st lo gd xi t).cand, (mv f sc sx st lo gd xi t).xid, Hh⟩ sc sx st lo gd xi t = G at *
    obtain ⟨g1, g2, g3, g4⟩ := G
    dsimp only at h2
    rw [h2.1, h2.2]
  · have k1 := mv_keep f sc sx st lo gd xi t hc hk
    have k2 := mv_keep ⟨W, (mv f sc sx st lo gd xi t).cand, (mv f sc sx st lo gd xi t).xid, Hh⟩ sc sx st lo gd xi t (by rw [show (Flr.mk W (mv f sc sx st lo gd xi t).cand (mv f sc sx st lo gd xi t).xid Hh).cand = (mv f sc sx st lo gd xi t).cand from rfl, k1.1]; exact hc) (by rw [show (Flr.mk W (mv f sc sx st lo gd xi t).cand (mv f sc sx st lo gd xi t).xid Hh).xid = (mv f sc sx st lo gd xi t).xid from rfl, k1.2]; exact hk)
    exact ⟨k1.1, k1.2, k2.1.trans k1.1, k2.2.trans k1.2⟩

end Go.Proofs.Qxb6628962a
