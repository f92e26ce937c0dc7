/- A region that draws its order, by an INVARIANT over what has come up so far: no order is walked. (No program in sight.) -/
import Derived.Orders
import Derived.RegionTactic
namespace Go.Proofs.Ybulkadxm
open Go

theorem countF_set : ∀ (l : List Bool) (i : Nat), l[i]? = some false → (l.set i true).count false + 1 = l.count false
  | [], i, h => by simp at h
  | b :: l, 0, h => by simp at h; subst h; simp
  | b :: l, i + 1, h => by
    have ih := countF_set l i (by simpa using h)
    simp only [List.set_cons_succ, List.count_cons]
    omega

theorem getD_false {listed : Array Bool} {i : Nat} (h : listed.getD i true = false) : listed.toList[i]? = some false := by
  rcases Nat.lt_or_ge i listed.size with h' | h'
  · simp [h'] at h
    simp [h', h]
  · simp [Array.getElem?_eq_none h'] at h

/-- The rule: an invariant of what has come up, the frame and the world, kept by every operation whose edges are met, serves whatever order is drawn. 'hend': all have come up. -/
theorem wpAny_inv {P : Program} {ops : Array Oper} {Q : Exit → Act → World → Prop} {md : Region.Mode} (I : Array Bool → Act → World → Prop)
    (hsize : ∀ l a w, I l a w → l.size = ops.size)
    (hguard : ∀ (i : Nat) (o : Oper), ops[i]? = some o → o.guard = none)
    (hback : ∀ (i : Nat) (o : Oper), ops[i]? = some o → ∀ e ∈ o.after, e.on < i)
    (hstep : ∀ l a w, I l a w → ∀ (i : Nat) (o : Oper), ops[i]? = some o → l.getD i true = false → (∀ e ∈ o.after, Region.binds md e = true → l.getD e.on false = true) →
      ∀ K : Act → World → Prop, (∀ a' w', I (l.setIfInBounds i true) a' w' → K a' w') → Oper.wp P o a w K Q)
    (hend : ∀ l a w, I l a w → (∀ i, i < ops.size → l.getD i true = true) → Q .normal a w) :
    ∀ (fuel : Nat) (l : Array Bool) (a : Act) (w : World), l.toList.count false ≤ fuel → I l a w → wpAny P md ops Q fuel l a w := by
  have fin : ∀ l a w, I l a w → Region.ready md ops l = [] → Q .normal a w := by
    intro l a w hI hr
    refine hend l a w hI fun i hi => ?_
    induction i using Nat.strongRecOn with
    | _ i ih =>
      cases hb : l.getD i true with
      | true => rfl
      | false =>
        exfalso
        have ho : ops[i]? = some ops[i] := by simp [hi]
        have : i ∈ Region.ready md ops l := mem_ready.2 ⟨hb, ops[i], ho, fun e he _ => by
          have h1 := hback i _ ho e he
          have h2 := ih e.on h1 (by omega)
          have h3 : e.on < l.size := by have := hsize l a w hI; omega
          simp [h3] at h2 ⊢
          exact h2⟩
        rw [hr] at this
        cases this
  intro fuel
  induction fuel with
  | zero =>
    intro l a w hc hI
    have hr : Region.ready md ops l = [] := by
      cases h : Region.ready md ops l with
      | nil => rfl
      | cons i r =>
        exfalso
        have hi : i ∈ Region.ready md ops l := by rw [h]; simp
        have h1 := getD_false (mem_ready.1 hi).1
        have h2 := countF_set _ _ h1
        omega
    exact ⟨hr, fin l a w hI hr⟩
  | succ fuel ih =>
    intro l a w hc hI
    refine ⟨fin l a w hI, fun i hi => ?_⟩
    obtain ⟨h1, o, ho, h2⟩ := mem_ready.1 hi
    refine wpOp_step ho fun K hK => ?_
    rw [if_pos (by simp [Region.wanted, hguard i o ho])]
    refine hstep l a w hI i o ho h1 h2 K fun a' w' hI' => hK _ _ (ih _ _ _ ?_ hI')
    have h3 := countF_set _ _ (getD_false h1)
    simp only [Array.toList_setIfInBounds]
    omega
end Go.Proofs.Ybulkadxm
