/- A region that draws its order: what is known of memory need not hold behind the operations that wait for all the loads. -/
import Derived.Test.YtjbpphomlmlmaaaGreatDoorQE8
namespace Go.Proofs.YtjbpphomlmlmaaaGreatDoor
open Go.RowKit
set_option linter.unusedVariables false
section
variable {P : Program} {ops : Array Oper} {Q : Exit → Act → World → Prop} {md : Region.Mode} {S T : World → Prop} {late : Nat → Bool}
/-- Whatever order is picked from here on, S holds behind every operation, and T behind every one that is not late. -/
def wpAnyF (P : Program) (md : Region.Mode) (ops : Array Oper) (Q : Exit → Act → World → Prop) (S T : World → Prop) (late : Nat → Bool) : Nat → Array Bool → Act → World → Prop
  | 0, listed, a, w => Region.ready md ops listed = [] ∧ Q .normal a w
  | fuel + 1, listed, a, w =>
    (Region.ready md ops listed = [] → Q .normal a w) ∧
    ∀ i ∈ Region.ready md ops listed, wpOp P ops Q i (fun a' w' => (S w' ∧ (late i = false → T w')) ∧ wpAnyF P md ops Q S T late fuel (listed.setIfInBounds i true) a' w') a w
theorem wpAny_of_F : ∀ (fuel : Nat) (listed : Array Bool) (a : Act) (w : World), wpAnyF P md ops Q S T late fuel listed a w → wpAny P md ops Q fuel listed a w
  | 0, _, _, _, h => h
  | fuel + 1, _, _, _, h => ⟨h.1, fun i hi => wpOp_mono (fun a' w' h' => wpAny_of_F fuel _ a' w' h'.2) (h.2 i hi)⟩
/-- A late operation that asks S alone may be taken first. -/
theorem wpAnyF_firstS {i : Nat} {oi : Oper} {v : Value} (hi : ops[i]? = some oi) (hsel : ∀ (j : Nat) (o : Oper) cs b, ops[j]? = some o → o.op ≠ .select cs b)
    (hQ : ∀ c a w, Q (.panic c) (a.put oi.dst v) w → Q (.panic c) a w) (hil : late i = true) :
    ∀ (fuel : Nat) (listed : Array Bool) (a : Act) (w : World),
      (∀ j oj, ops[j]? = some oj → j ≠ i → listed.getD j true = false → (∀ e ∈ oj.after, Region.binds md e = true → e.on ≠ i) → oi.apart ops oj = true) →
      i ∈ Region.ready md ops listed → YieldsIf P ops S oi v a → S w →
      wpAnyF P md ops Q S T late fuel (listed.setIfInBounds i true) (a.put oi.dst v) w → wpAnyF P md ops Q S T late (fuel + 1) listed a w := by
  intro fuel
  induction fuel with
  | zero =>
    intro listed a w hfree hr hy hS H
    refine ⟨fun h => (by rw [h] at hr; cases hr), fun j hj => ?_⟩
    by_cases hji : j = i
    · subst hji; exact hy.wpOp hi hS ⟨⟨hS, fun hc => by rw [hil] at hc; cases hc⟩, H⟩
    · have := ready_mono hj hji
      rw [H.1] at this
      cases this
  | succ fuel ih =>
    intro listed a w hfree hr hy hS H
    refine ⟨fun h => (by rw [h] at hr; cases hr), fun j hj => ?_⟩
    by_cases hji : j = i
    · subst hji; exact hy.wpOp hi hS ⟨⟨hS, fun hc => by rw [hil] at hc; cases hc⟩, H⟩
    · have h1 := H.2 j (ready_mono hj hji)
      obtain ⟨hjun, oj, hoj, hall⟩ := mem_ready.1 hj
      have hnot : ∀ e ∈ oj.after, Region.binds md e = true → e.on ≠ i := fun e he hb heq => by
        have h1 := hall e he hb
        have h0 := (mem_ready.1 hr).1
        rw [heq] at h1
        rcases Nat.lt_or_ge i listed.size with h' | h'
        · simp [h'] at h0 h1; rw [h0] at h1; cases h1
        · simp [Array.getElem?_eq_none h'] at h1
      have h2 := wpOp_putIf hoj (hfree j oj hoj hji hjun hnot) (fun cs b => hsel i oi cs b hi) (fun cs b => hsel j oj cs b hoj) hQ hy h1
      have hfree' : ∀ k ok, ops[k]? = some ok → k ≠ i → (listed.setIfInBounds j true).getD k true = false →
          (∀ e ∈ ok.after, Region.binds md e = true → e.on ≠ i) → oi.apart ops ok = true := fun k ok hk hki hun hno => by
        refine hfree k ok hk hki ?_ hno
        by_cases hjk : j = k
        · subst hjk; exact hjun
        · rw [getD_set_ne true hjk] at hun; exact hun
      refine wpOp_mono (fun a' w' h3 => ⟨h3.2.1, ih (listed.setIfInBounds j true) a' w' hfree' (ready_mono hr (Ne.symm hji)) h3.1 h3.2.1.1 ?_⟩) h2
      rw [Array.setIfInBounds_comm _ _ hji]
      exact h3.2.2
/-- An operation that asks T too may be taken first, if all late ones that have not come up wait for it. -/
theorem wpAnyF_firstT {i : Nat} {oi : Oper} {v : Value} (hi : ops[i]? = some oi) (hsel : ∀ (j : Nat) (o : Oper) cs b, ops[j]? = some o → o.op ≠ .select cs b)
    (hQ : ∀ c a w, Q (.panic c) (a.put oi.dst v) w → Q (.panic c) a w) :
    ∀ (fuel : Nat) (listed : Array Bool) (a : Act) (w : World),
      (∀ j oj, ops[j]? = some oj → j ≠ i → listed.getD j true = false → (∀ e ∈ oj.after, Region.binds md e = true → e.on ≠ i) → oi.apart ops oj = true) →
      i ∈ Region.ready md ops listed → (∀ j oj, ops[j]? = some oj → late j = true → listed.getD j true = false → ∃ e ∈ oj.after, Region.binds md e = true ∧ e.on = i) → YieldsIf P ops (fun w => S w ∧ T w) oi v a → S w → T w →
      wpAnyF P md ops Q S T late fuel (listed.setIfInBounds i true) (a.put oi.dst v) w → wpAnyF P md ops Q S T late (fuel + 1) listed a w := by
  intro fuel
  induction fuel with
  | zero =>
    intro listed a w hfree hr hl hy hS hT H
    refine ⟨fun h => (by rw [h] at hr; cases hr), fun j hj => ?_⟩
    by_cases hji : j = i
    · subst hji; exact hy.wpOp hi ⟨hS, hT⟩ ⟨⟨hS, fun _ => hT⟩, H⟩
    · have := ready_mono hj hji
      rw [H.1] at this
      cases this
  | succ fuel ih =>
    intro listed a w hfree hr hl hy hS hT H
    refine ⟨fun h => (by rw [h] at hr; cases hr), fun j hj => ?_⟩
    by_cases hji : j = i
    · subst hji; exact hy.wpOp hi ⟨hS, hT⟩ ⟨⟨hS, fun _ => hT⟩, H⟩
    · have h1 := H.2 j (ready_mono hj hji)
      obtain ⟨hjun, oj, hoj, hall⟩ := mem_ready.1 hj
      have hnot : ∀ e ∈ oj.after, Region.binds md e = true → e.on ≠ i := fun e he hb heq => by
        have h1 := hall e he hb
        have h0 := (mem_ready.1 hr).1
        rw [heq] at h1
        rcases Nat.lt_or_ge i listed.size with h' | h'
        · simp [h'] at h0 h1; rw [h0] at h1; cases h1
        · simp [Array.getElem?_eq_none h'] at h1
      have hnl : late j = false := by
        cases hq : late j with
        | false => rfl
        | true =>
          obtain ⟨e, he, hb, ho⟩ := hl j oj hoj hq hjun
          exact absurd ho (hnot e he hb)
      have hl' : ∀ k ok, ops[k]? = some ok → late k = true → (listed.setIfInBounds j true).getD k true = false → ∃ e ∈ ok.after, Region.binds md e = true ∧ e.on = i := fun k ok hk hlk hun => by
        refine hl k ok hk hlk ?_
        by_cases hjk : j = k
        · subst hjk; exact hjun
        · rw [getD_set_ne true hjk] at hun; exact hun
      have h2 := wpOp_putIf hoj (hfree j oj hoj hji hjun hnot) (fun cs b => hsel i oi cs b hi) (fun cs b => hsel j oj cs b hoj) hQ hy h1
      have hfree' : ∀ k ok, ops[k]? = some ok → k ≠ i → (listed.setIfInBounds j true).getD k true = false →
          (∀ e ∈ ok.after, Region.binds md e = true → e.on ≠ i) → oi.apart ops ok = true := fun k ok hk hki hun hno => by
        refine hfree k ok hk hki ?_ hno
        by_cases hjk : j = k
        · subst hjk; exact hjun
        · rw [getD_set_ne true hjk] at hun; exact hun
      refine wpOp_mono (fun a' w' h3 => ⟨h3.2.1, ih (listed.setIfInBounds j true) a' w' hfree' (ready_mono hr (Ne.symm hji)) hl' h3.1 h3.2.1.1 (h3.2.1.2 hnl) ?_⟩) h2
      rw [Array.setIfInBounds_comm _ _ hji]
      exact h3.2.2
/-- All late ones that have not come up wait for number i. -/
def waitsB (md : Region.Mode) (ops : Array Oper) (lates : List Nat) (listed : Array Bool) (i : Nat) : Bool := lates.all fun j => listed.getD j true || match ops[j]? with | some oj => oj.after.any (fun e => Region.binds md e && e.on == i) | none => true
theorem waitsB_spec {lates : List Nat} {listed : Array Bool} {i : Nat} (h : waitsB md ops lates listed i = true) : ∀ j oj, ops[j]? = some oj → lates.contains j = true → listed.getD j true = false → ∃ e ∈ oj.after, Region.binds md e = true ∧ e.on = i := fun j oj hj hl hun => by
  simp only [waitsB, List.all_eq_true] at h
  have h1 := h j (by simpa using hl)
  rw [hj, hun] at h1
  simp only [Bool.false_or] at h1
  obtain ⟨e, he, hb⟩ := Array.any_eq_true'.1 h1
  simp only [Bool.and_eq_true, beq_iff_eq] at hb
  exact ⟨e, he, hb.1, hb.2⟩
theorem wpAnyF_take {lates : List Nat} {i : Nat} {oi : Oper} {v : Value} {fuel : Nat} {listed : Array Bool} {a : Act} {w : World} (hi : ops[i]? = some oi)
    (hs : Region.noSelect ops = true) (hf : Region.free md ops listed i = true) (hr : (Region.ready md ops listed).contains i = true) (hil : lates.contains i = true)
    (hQ : ∀ c a w, Q (.panic c) (a.put oi.dst v) w → Q (.panic c) a w) (hy : YieldsIf P ops S oi v a) (hS : S w)
    (h : wpAnyF P md ops Q S T lates.contains fuel (listed.setIfInBounds i true) (a.put oi.dst v) w) : wpAnyF P md ops Q S T lates.contains (fuel + 1) listed a w :=
  wpAnyF_firstS hi (Region.noSelect_spec hs) hQ hil fuel listed a w (Region.free_spec hi hf) (by simpa using hr) hy hS h
theorem wpAnyF_takeT {lates : List Nat} {i : Nat} {oi : Oper} {v : Value} {fuel : Nat} {listed : Array Bool} {a : Act} {w : World} (hi : ops[i]? = some oi)
    (hs : Region.noSelect ops = true) (hf : Region.free md ops listed i = true) (hr : (Region.ready md ops listed).contains i = true) (hw : waitsB md ops lates listed i = true)
    (hQ : ∀ c a w, Q (.panic c) (a.put oi.dst v) w → Q (.panic c) a w) (hy : YieldsIf P ops (fun w => S w ∧ T w) oi v a) (hS : S w) (hT : T w)
    (h : wpAnyF P md ops Q S T lates.contains fuel (listed.setIfInBounds i true) (a.put oi.dst v) w) : wpAnyF P md ops Q S T lates.contains (fuel + 1) listed a w :=
  wpAnyF_firstT hi (Region.noSelect_spec hs) hQ fuel listed a w (Region.free_spec hi hf) (by simpa using hr) (waitsB_spec hw) hy hS hT h
def AllReadyF (P : Program) (md : Region.Mode) (ops : Array Oper) (Q : Exit → Act → World → Prop) (S T : World → Prop) (late : Nat → Bool) (fuel : Nat) (listed : Array Bool) (a : Act) (w : World) (rs : List Nat) : Prop :=
  ∀ i ∈ rs, wpOp P ops Q i (fun a' w' => (S w' ∧ (late i = false → T w')) ∧ wpAnyF P md ops Q S T late fuel (listed.setIfInBounds i true) a' w') a w
theorem AllReadyF.nil {fuel : Nat} {listed : Array Bool} {a : Act} {w : World} : AllReadyF P md ops Q S T late fuel listed a w [] := fun _ h => by cases h
theorem AllReadyF.cons {fuel : Nat} {listed : Array Bool} {a : Act} {w : World} {i : Nat} {o : Oper} {rs : List Nat} (ho : ops[i]? = some o)
    (h : ∀ K' : Act → World → Prop, Shut (∀ a w, S w → (late i = false → T w) → wpAnyF P md ops Q S T late fuel (listed.setIfInBounds i true) a w → K' a w) → if Region.wanted o (yielded ops a.tmps) = true then Oper.wp P o a w K' Q else K' (a.put o.dst undef) w)
    (hs : AllReadyF P md ops Q S T late fuel listed a w rs) : AllReadyF P md ops Q S T late fuel listed a w (i :: rs) := fun j hj => by
  rcases List.mem_cons.1 hj with rfl | hj
  · exact wpOp_step ho (fun K' hK => h K' (fun a w hS hT hW => hK a w ⟨⟨hS, hT⟩, hW⟩))
  · exact hs j hj
theorem wpAnyF_ready {rs : List Nat} {fuel : Nat} {listed : Array Bool} {a : Act} {w : World} (hr : Region.ready md ops listed = rs) (hne : rs ≠ [])
    (h : AllReadyF P md ops Q S T late fuel listed a w rs) : wpAnyF P md ops Q S T late (fuel + 1) listed a w := ⟨fun h0 => absurd (hr ▸ h0) hne, hr ▸ h⟩
theorem wpAnyF_done {listed : Array Bool} {a : Act} {w : World} (hr : Region.ready md ops listed = []) (h : Q .normal a w) :
    ∀ fuel, wpAnyF P md ops Q S T late fuel listed a w
  | 0 => ⟨hr, h⟩
  | _ + 1 => ⟨fun _ => h, fun i hi => by rw [hr] at hi; cases hi⟩
theorem wp_region_F {id : Nat} {a : Act} {w : World} (S T : World → Prop) (late : Nat → Bool) (hm : P.follows .mixedOrders = true)
    (h : wpAnyF P .any ops Q S T late ops.size (Array.replicate ops.size false) a w.drew) : (Code.region id ops true).wp P Q a w :=
  wp_region_any hm (wpAny_of_F _ _ _ _ h)
end
end Go.Proofs.YtjbpphomlmlmaaaGreatDoor
