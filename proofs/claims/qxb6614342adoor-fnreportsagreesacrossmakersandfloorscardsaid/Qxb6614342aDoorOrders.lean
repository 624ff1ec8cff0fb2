/-
  A region that draws its order, by an invariant: what each operation keeps, in whatever order. (Seat b6614342aD.)
-/
import Derived.Orders
import Derived.Laws.World
import Derived.WalkKit
namespace Go.Proofs.Qxb6614342aDoor.Orders
set_option linter.unusedVariables false

section
variable {P : Program} {ops : Array Oper} {Q : Exit → Act → World → Prop}

theorem top_of (h : ((List.range ops.size).all fun i => ((ops[i]?).map fun o => o.after.all fun e => decide (e.on < i)).getD true) = true) : ∀ (i : Nat) (o : Oper), ops[i]? = some o → ∀ e ∈ o.after, e.on < i := by
  intro i o ho e he
  have hi : i < ops.size := (Array.getElem?_eq_some_iff.1 ho).1
  have h1 := List.all_eq_true.1 h i (List.mem_range.2 hi)
  rw [ho] at h1
  simp only [Option.map_some, Option.getD_some] at h1
  have h2 := Array.all_eq_true_iff_forall_mem.1 h1 e he
  exact of_decide_eq_true h2

def unl (ops : Array Oper) (listed : Array Bool) : Nat := ((List.range ops.size).filter fun i => !listed.getD i true).length

theorem getD_eq (listed : Array Bool) (i : Nat) (h : i < listed.size) : listed.getD i true = listed.getD i false := by
  simp [Array.getD, h]

theorem mem_ready {listed : Array Bool} {i : Nat} {o : Oper} (ho : ops[i]? = some o) :
    i ∈ Region.ready .any ops listed ↔ listed.getD i true = false ∧ ∀ e ∈ o.after, Region.binds .any e = true → listed.getD e.on false = true := by
  have hi : i < ops.size := (Array.getElem?_eq_some_iff.1 ho).1
  unfold Region.ready
  rw [List.mem_filter, List.mem_range, ho]
  simp only [hi, true_and, Option.map_some, Option.getD_some, Bool.and_eq_true, Bool.not_eq_true', Array.all_eq_true_iff_forall_mem, Bool.or_eq_true]
  constructor
  · rintro ⟨h1, h2⟩
    refine ⟨h1, fun e he hb => ?_⟩
    rcases h2 e he with h | h
    · rw [hb] at h; cases h
    · exact h
  · rintro ⟨h1, h2⟩
    refine ⟨h1, fun e he => ?_⟩
    cases hb : Region.binds .any e with
    | false => exact .inl rfl
    | true => exact .inr (h2 e he hb)

theorem all_of_ready_nil (htop : ∀ (i : Nat) (o : Oper), ops[i]? = some o → ∀ e ∈ o.after, e.on < i) {listed : Array Bool} (hs : listed.size = ops.size) (h : Region.ready .any ops listed = []) :
    ∀ i, i < ops.size → listed.getD i false = true := by
  intro i
  induction i using Nat.strongRecOn with
  | _ i ih =>
    intro hi
    obtain ⟨o, ho⟩ : ∃ o, ops[i]? = some o := ⟨_, Array.getElem?_eq_getElem hi⟩
    cases hl : listed.getD i false with
    | true => rfl
    | false =>
      have : i ∈ Region.ready .any ops listed := by
        rw [mem_ready ho]
        refine ⟨by rw [getD_eq _ _ (by omega)]; exact hl, fun e he _ => ?_⟩
        have := htop i o ho e he
        exact ih e.on this (by omega)
      rw [h] at this
      cases this

theorem set_getD {listed : Array Bool} {i : Nat} (hi : i < listed.size) (j : Nat) (d : Bool) : (listed.setIfInBounds i true).getD j d = if j = i then true else listed.getD j d := by
  by_cases e : j = i
  · subst e; simp [Array.getD, hi]
  · rw [if_neg e, Array.getD_eq_getD_getElem?, Array.getD_eq_getD_getElem?, Array.getElem?_setIfInBounds_ne (Ne.symm e)]

theorem filter_lt {α : Type} (p q : α → Bool) : ∀ (l : List α) (x : α), x ∈ l → p x = true → q x = false → (∀ y, q y = true → p y = true) → (l.filter q).length < (l.filter p).length
  | [], x, h, _, _, _ => by cases h
  | a :: l, x, h, hp, hq, hpq => by
    have le : (l.filter q).length ≤ (l.filter p).length := by
      clear h
      induction l with
      | nil => exact Nat.le_refl _
      | cons b l ih =>
        simp only [List.filter_cons]
        cases hb : q b with
        | true => rw [hpq b hb]; simp; exact ih
        | false =>
          rw [if_neg (by simp)]
          split
          · rw [List.length_cons]; omega
          · exact ih
    rcases List.mem_cons.1 h with rfl | h
    · simp only [List.filter_cons, hp, hq]; simp; omega
    · have ih := filter_lt p q l x h hp hq hpq
      simp only [List.filter_cons]
      cases hb : q a with
      | true => rw [hpq a hb]; simp; exact ih
      | false =>
        rw [if_neg (by simp)]
        split
        · rw [List.length_cons]; omega
        · exact ih

theorem unl_lt {listed : Array Bool} (hs : listed.size = ops.size) {i : Nat} (hi : i < ops.size) (hl : listed.getD i true = false) : unl ops (listed.setIfInBounds i true) < unl ops listed := by
  unfold unl
  refine filter_lt _ _ _ i (List.mem_range.2 hi) (by rw [hl]; rfl) (by rw [set_getD (by omega)]; simp) ?_
  intro y hy
  rw [set_getD (by omega)] at hy
  split at hy
  · cases hy
  · exact hy

/-- THE RULE. 'l': which operations have been carried out. -/
theorem wp_region_inv {id : Nat} {a : Act} {w : World} (hm : P.follows .mixedOrders = true) (htop : ∀ (i : Nat) (o : Oper), ops[i]? = some o → ∀ e ∈ o.after, e.on < i)
    (I : (Nat → Bool) → Act → World → Prop) (h0 : I (fun _ => false) a w.drew)
    (hstep : ∀ (l : Nat → Bool) (a : Act) (w : World) (i : Nat) (o : Oper), I l a w → ops[i]? = some o → l i = false → (∀ e ∈ o.after, Region.binds .any e = true → l e.on = true) → wpOp P ops Q i (fun a' w' => I (fun j => if j = i then true else l j) a' w') a w)
    (hend : ∀ l a w, I l a w → (∀ i, i < ops.size → l i = true) → Q .normal a w) : (Code.region id ops true).wp P Q a w := by
  have main : ∀ fuel listed a w, listed.size = ops.size → unl ops listed ≤ fuel → I (fun j => listed.getD j false) a w → wpAny P .any ops Q fuel listed a w := by
    intro fuel
    induction fuel with
    | zero =>
      intro listed a w hs hu hI
      have hall : ∀ i, i < ops.size → listed.getD i true = true := by
        intro i hi
        cases hl : listed.getD i true with
        | true => rfl
        | false => have := unl_lt hs hi hl; omega
      refine ⟨?_, hend _ _ _ hI (fun i hi => by rw [← getD_eq _ _ (by omega)]; exact hall i hi)⟩
      rw [List.eq_nil_iff_forall_not_mem]
      intro i hi
      have hlt : i < ops.size := by
        unfold Region.ready at hi
        exact List.mem_range.1 (List.mem_filter.1 hi).1
      obtain ⟨o, ho⟩ : ∃ o, ops[i]? = some o := ⟨_, Array.getElem?_eq_getElem hlt⟩
      have := ((mem_ready ho).1 hi).1
      rw [hall i hlt] at this
      cases this
    | succ fuel ih =>
      intro listed a w hs hu hI
      refine ⟨fun hr => hend _ _ _ hI (all_of_ready_nil htop hs hr), fun i hi => ?_⟩
      have hlt : i < ops.size := by
        unfold Region.ready at hi
        exact List.mem_range.1 (List.mem_filter.1 hi).1
      obtain ⟨o, ho⟩ : ∃ o, ops[i]? = some o := ⟨_, Array.getElem?_eq_getElem hlt⟩
      obtain ⟨hl, he⟩ := (mem_ready ho).1 hi
      refine wpOp_mono (fun a' w' hI' => ih _ _ _ (by simpa using hs) (by have := unl_lt hs hlt hl; omega) ?_) (hstep _ a w i o hI ho (by rw [← getD_eq _ _ (by omega)]; exact hl) he)
      have e : (fun j => (listed.setIfInBounds i true).getD j false) = fun j => if j = i then true else listed.getD j false := by
        funext j; exact set_getD (by omega) j false
      rw [e]
      exact hI'
  refine wp_region_any hm (main _ _ _ _ (by simp) ?_ ?_)
  · unfold unl
    exact Nat.le_trans (List.length_filter_le _ _) (by simp)
  · have e : (fun j => (Array.replicate ops.size false).getD j false) = fun _ => false := by
      funext j
      simp only [Array.getD, Array.size_replicate]
      split <;> simp
    rw [e]
    exact h0
end
end Go.Proofs.Qxb6614342aDoor.Orders
