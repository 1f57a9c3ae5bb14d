import Derived.OrdersHeld
import Derived.WalkKit
import Derived.RegionTactic
import Derived.Deep.RegionHeld
namespace Go.Proofs.Qxb6628283a
set_option linter.unusedVariables false

section
variable {P : Program} {ops : Array Oper} {Q : Exit → Act → World → Prop} {md : Region.Mode} {S : World → Prop} {N : List Nat}

/-- Whatever order is picked from here on, and every operation that is carried out keeps S, BUT FOR THOSE OF N (the stores at a statement's end, which wait for every load). -/
def wpAnyG (P : Program) (md : Region.Mode) (ops : Array Oper) (Q : Exit → Act → World → Prop) (S : World → Prop) (N : List Nat) : Nat → Array Bool → Act → World → Prop
  | 0, listed, a, w => Region.ready md ops listed = [] ∧ Q .normal a w
  | fuel + 1, listed, a, w =>
    (Region.ready md ops listed = [] → Q .normal a w) ∧
    ∀ i ∈ Region.ready md ops listed, wpOp P ops Q i (fun a' w' => (i ∉ N → S w → S w') ∧ wpAnyG P md ops Q S N fuel (listed.setIfInBounds i true) a' w') a w

theorem wpAny_of_gate : ∀ (fuel : Nat) (listed : Array Bool) (a : Act) (w : World), wpAnyG P md ops Q S N fuel listed a w → wpAny P md ops Q fuel listed a w
  | 0, _, _, _, h => h
  | fuel + 1, _, _, _, h => ⟨h.1, fun i hi => wpOp_mono (fun a' w' h' => wpAny_of_gate fuel _ a' w' h'.2) (h.2 i hi)⟩

/-- Every operation of N waits for operation i. -/
def waitsAll (md : Region.Mode) (ops : Array Oper) (N : List Nat) (i : Nat) : Bool := N.all fun j => ((ops[j]?).map (·.after.any fun e => Region.binds md e && e.on == i)).getD true

theorem waits_of {i j : Nat} {oj : Oper} (h : waitsAll md ops N i = true) (hj : j ∈ N) (ho : ops[j]? = some oj) : ∃ e ∈ oj.after, Region.binds md e = true ∧ e.on = i := by
  have := List.all_eq_true.1 h j hj
  simp only [ho, Option.map_some, Option.getD_some] at this
  obtain ⟨k, hk, h2⟩ := Array.any_eq_true.1 this
  simp only [Bool.and_eq_true, beq_iff_eq] at h2
  exact ⟨oj.after[k], Array.getElem_mem hk, h2.1, h2.2⟩

theorem wpAnyG_first {i : Nat} {oi : Oper} {v : Value} (hi : ops[i]? = some oi) (hsel : ∀ (j : Nat) (o : Oper) cs b, ops[j]? = some o → o.op ≠ .select cs b)
    (hQ : ∀ c a w, Q (.panic c) (a.put oi.dst v) w → Q (.panic c) a w) (hN : waitsAll md ops N i = true) (hiN : i ∉ N) :
    ∀ (fuel : Nat) (listed : Array Bool) (a : Act) (w : World),
      (∀ j oj, ops[j]? = some oj → j ≠ i → listed.getD j true = false → (∀ e ∈ oj.after, Region.binds md e = true → e.on ≠ i) → oi.apart ops oj = true) →
      i ∈ Region.ready md ops listed → YieldsIf P ops S oi v a → S w →
      wpAnyG P md ops Q S N fuel (listed.setIfInBounds i true) (a.put oi.dst v) w → wpAnyG P md ops Q S N (fuel + 1) listed a w := by
  intro fuel
  induction fuel with
  | zero =>
    intro listed a w _ hr hy hS H
    refine ⟨fun h => (by rw [h] at hr; cases hr), fun j hj => ?_⟩
    by_cases hji : j = i
    · subst hji; exact hy.wpOp hi hS ⟨fun _ h => h, H⟩
    · have := ready_mono hj hji
      rw [H.1] at this
      cases this
  | succ fuel ih =>
    intro listed a w hfree hr hy hS H
    refine ⟨fun h => (by rw [h] at hr; cases hr), fun j hj => ?_⟩
    by_cases hji : j = i
    · subst hji; exact hy.wpOp hi hS ⟨fun _ h => h, H⟩
    · have h1 := H.2 j (ready_mono hj hji)
      obtain ⟨hjun, oj, hoj, hall⟩ := mem_ready.1 hj
      have hnot : ∀ e ∈ oj.after, Region.binds md e = true → e.on ≠ i := fun e he hb heq => by
        have h1 := hall e he hb
        have h0 := (mem_ready.1 hr).1
        rw [heq] at h1
        rcases Nat.lt_or_ge i listed.size with h' | h'
        · simp [h'] at h0 h1; rw [h0] at h1; cases h1
        · simp [Array.getElem?_eq_none h'] at h1
      have hjN : j ∉ N := fun hm => by
        obtain ⟨e, he, hb, ho⟩ := waits_of hN hm hoj
        exact hnot e he hb ho
      have h2 := wpOp_putIf hoj (hfree j oj hoj hji hjun hnot) (fun cs b => hsel i oi cs b hi) (fun cs b => hsel j oj cs b hoj) hQ hy h1
      have hfree' : ∀ k ok, ops[k]? = some ok → k ≠ i → (listed.setIfInBounds j true).getD k true = false →
          (∀ e ∈ ok.after, Region.binds md e = true → e.on ≠ i) → oi.apart ops ok = true := fun k ok hk hki hun hno => by
        refine hfree k ok hk hki ?_ hno
        by_cases hjk : j = k
        · subst hjk; exact hjun
        · rw [getD_set_ne true hjk] at hun; exact hun
      refine wpOp_mono (fun a' w' h3 => ⟨h3.2.1, ih (listed.setIfInBounds j true) a' w' hfree' (ready_mono hr (Ne.symm hji)) h3.1 (h3.2.1 hjN hS) ?_⟩) h2
      rw [Array.setIfInBounds_comm _ _ hji]
      exact h3.2.2

theorem wpAnyG_firstY {i : Nat} {oi : Oper} {v : Value} (hi : ops[i]? = some oi) (hsel : ∀ (j : Nat) (o : Oper) cs b, ops[j]? = some o → o.op ≠ .select cs b)
    (hQ : ∀ c a w, Q (.panic c) (a.put oi.dst v) w → Q (.panic c) a w) :
    ∀ (fuel : Nat) (listed : Array Bool) (a : Act) (w : World),
      (∀ j oj, ops[j]? = some oj → j ≠ i → listed.getD j true = false → (∀ e ∈ oj.after, Region.binds md e = true → e.on ≠ i) → oi.apart ops oj = true) →
      i ∈ Region.ready md ops listed → YieldsIf P ops (fun _ => True) oi v a →
      wpAnyG P md ops Q S N fuel (listed.setIfInBounds i true) (a.put oi.dst v) w → wpAnyG P md ops Q S N (fuel + 1) listed a w := by
  intro fuel
  induction fuel with
  | zero =>
    intro listed a w _ hr hy H
    refine ⟨fun h => (by rw [h] at hr; cases hr), fun j hj => ?_⟩
    by_cases hji : j = i
    · subst hji; exact hy.wpOp hi trivial ⟨fun _ h => h, H⟩
    · have := ready_mono hj hji
      rw [H.1] at this
      cases this
  | succ fuel ih =>
    intro listed a w hfree hr hy H
    refine ⟨fun h => (by rw [h] at hr; cases hr), fun j hj => ?_⟩
    by_cases hji : j = i
    · subst hji; exact hy.wpOp hi trivial ⟨fun _ h => h, H⟩
    · have h1 := H.2 j (ready_mono hj hji)
      obtain ⟨hjun, oj, hoj, hall⟩ := mem_ready.1 hj
      have hnot : ∀ e ∈ oj.after, Region.binds md e = true → e.on ≠ i := fun e he hb heq => by
        have h1 := hall e he hb
        have h0 := (mem_ready.1 hr).1
        rw [heq] at h1
        rcases Nat.lt_or_ge i listed.size with h' | h'
        · simp [h'] at h0 h1; rw [h0] at h1; cases h1
        · simp [Array.getElem?_eq_none h'] at h1
      have h2 := wpOp_putIf hoj (hfree j oj hoj hji hjun hnot) (fun cs b => hsel i oi cs b hi) (fun cs b => hsel j oj cs b hoj) hQ hy h1
      have hfree' : ∀ k ok, ops[k]? = some ok → k ≠ i → (listed.setIfInBounds j true).getD k true = false →
          (∀ e ∈ ok.after, Region.binds md e = true → e.on ≠ i) → oi.apart ops ok = true := fun k ok hk hki hun hno => by
        refine hfree k ok hk hki ?_ hno
        by_cases hjk : j = k
        · subst hjk; exact hjun
        · rw [getD_set_ne true hjk] at hun; exact hun
      refine wpOp_mono (fun a' w' h3 => ⟨h3.2.1, ih (listed.setIfInBounds j true) a' w' hfree' (ready_mono hr (Ne.symm hji)) h3.1 ?_⟩) h2
      rw [Array.setIfInBounds_comm _ _ hji]
      exact h3.2.2

/-- Take number i first: it yields its value in whatever world. -/
theorem wpAnyG_takeY {i : Nat} {oi : Oper} {v : Value} {fuel : Nat} {listed : Array Bool} {a : Act} {w : World} (d : Option Tmp) (hi : ops[i]? = some oi) (hd : oi.dst = d)
    (hs : Region.noSelect ops = true) (hf : Region.free md ops listed i = true) (hr : (Region.ready md ops listed).contains i = true)
    (hQ : ∀ c a w, Q (.panic c) (a.put d v) w → Q (.panic c) a w) (hy : YieldsIf P ops (fun _ => True) oi v a)
    (h : wpAnyG P md ops Q S N fuel (listed.setIfInBounds i true) (a.put d v) w) : wpAnyG P md ops Q S N (fuel + 1) listed a w := by
  subst hd
  exact wpAnyG_firstY hi (Region.noSelect_spec hs) hQ fuel listed a w (Region.free_spec hi hf) (by simpa using hr) hy h

/-- Take number i first. -/
theorem wpAnyG_take {i : Nat} {oi : Oper} {v : Value} {fuel : Nat} {listed : Array Bool} {a : Act} {w : World} (d : Option Tmp) (hi : ops[i]? = some oi) (hd : oi.dst = d)
    (hs : Region.noSelect ops = true) (hf : Region.free md ops listed i = true) (hr : (Region.ready md ops listed).contains i = true)
    (hN : waitsAll md ops N i = true) (hiN : N.contains i = false)
    (hQ : ∀ c a w, Q (.panic c) (a.put d v) w → Q (.panic c) a w) (hy : YieldsIf P ops S oi v a) (hS : S w)
    (h : wpAnyG P md ops Q S N fuel (listed.setIfInBounds i true) (a.put d v) w) : wpAnyG P md ops Q S N (fuel + 1) listed a w := by
  subst hd
  exact wpAnyG_first hi (Region.noSelect_spec hs) hQ hN (by simpa using hiN) fuel listed a w (Region.free_spec hi hf) (by simpa using hr) hy hS h

theorem wpAnyG_all {rs : List Nat} {fuel : Nat} {listed : Array Bool} {a : Act} {w : World} (hr : Region.ready md ops listed = rs) (hne : rs ≠ [])
    (h : ∀ i ∈ rs, wpOp P ops Q i (fun a' w' => (i ∉ N → S w → S w') ∧ wpAnyG P md ops Q S N fuel (listed.setIfInBounds i true) a' w') a w) : wpAnyG P md ops Q S N (fuel + 1) listed a w :=
  ⟨fun h0 => absurd (hr ▸ h0) hne, hr ▸ h⟩

theorem wpAnyG_done {listed : Array Bool} {a : Act} {w : World} (hr : Region.ready md ops listed = []) (h : Q .normal a w) :
    ∀ fuel, wpAnyG P md ops Q S N fuel listed a w
  | 0 => ⟨hr, h⟩
  | _ + 1 => ⟨fun _ => h, by rw [hr]; simp⟩

theorem wp_region_gate {id : Nat} {a : Act} {w : World} (S : World → Prop) (N : List Nat) (hm : P.follows .mixedOrders = true)
    (h : wpAnyG P .any ops Q S N ops.size (Array.replicate ops.size false) a { w with drawn := w.drawn + 1 }) : (Code.region id ops true).wp P Q a w :=
  wp_region_any hm (wpAny_of_gate _ _ _ _ h)

/-- Each of the operations rs comes up next. -/
def ReadyG (P : Program) (md : Region.Mode) (ops : Array Oper) (Q : Exit → Act → World → Prop) (S : World → Prop) (N : List Nat) (fuel : Nat) (listed : Array Bool) (a : Act) (w : World) (rs : List Nat) : Prop :=
  ∀ i ∈ rs, wpOp P ops Q i (fun a' w' => (i ∉ N → S w → S w') ∧ wpAnyG P md ops Q S N fuel (listed.setIfInBounds i true) a' w') a w

theorem ReadyG.none {fuel : Nat} {listed : Array Bool} {a : Act} {w : World} : ReadyG P md ops Q S N fuel listed a w [] := fun _ h => by cases h

/-- One of them, behind which S is shown anew. -/
theorem ReadyG.more {fuel : Nat} {listed : Array Bool} {a : Act} {w : World} {i : Nat} {o : Oper} {rs : List Nat} (ho : ops[i]? = some o)
    (h : ∀ K' : Act → World → Prop, Shut (∀ a w, S w → wpAnyG P md ops Q S N fuel (listed.setIfInBounds i true) a w → K' a w) → if Region.wanted o (yielded ops a.tmps) = true then Oper.wp P o a w K' Q else K' (a.put o.dst undef) w)
    (hs : ReadyG P md ops Q S N fuel listed a w rs) : ReadyG P md ops Q S N fuel listed a w (i :: rs) := fun j hj => by
  rcases List.mem_cons.1 hj with rfl | hj
  · exact wpOp_step ho (fun K' hK => h K' (fun a w hS hW => hK a w ⟨fun _ _ => hS, hW⟩))
  · exact hs j hj

/-- One of N. -/
theorem ReadyG.last {fuel : Nat} {listed : Array Bool} {a : Act} {w : World} {i : Nat} {o : Oper} {rs : List Nat} (ho : ops[i]? = some o) (hN : N.contains i = true)
    (h : ∀ K' : Act → World → Prop, Shut (∀ a w, wpAnyG P md ops Q S N fuel (listed.setIfInBounds i true) a w → K' a w) → if Region.wanted o (yielded ops a.tmps) = true then Oper.wp P o a w K' Q else K' (a.put o.dst undef) w)
    (hs : ReadyG P md ops Q S N fuel listed a w rs) : ReadyG P md ops Q S N fuel listed a w (i :: rs) := fun j hj => by
  rcases List.mem_cons.1 hj with rfl | hj
  · exact wpOp_step ho (fun K' hK => h K' (fun a w hW => hK a w ⟨fun hn => absurd (by simpa using hN) hn, hW⟩))
  · exact hs j hj

theorem wpAnyG_ready {rs : List Nat} {fuel : Nat} {listed : Array Bool} {a : Act} {w : World} (hr : Region.ready md ops listed = rs) (hne : rs ≠ [])
    (h : ReadyG P md ops Q S N fuel listed a w rs) : wpAnyG P md ops Q S N (fuel + 1) listed a w := wpAnyG_all hr hne h

theorem wp_region_gate_drew {id : Nat} {a : Act} {w : World} (S : World → Prop) (N : List Nat) (hm : P.follows .mixedOrders = true)
    (h : wpAnyG P .any ops Q S N ops.size (Array.replicate ops.size false) a w.drew) : (Code.region id ops true).wp P Q a w := wp_region_gate S N hm h

end
end Go.Proofs.Qxb6628283a
