/- A region that draws its order, by an invariant: what holds when just these operations have been carried out. Each operation is walked once, whatever came before it. -/
import Derived.Test.YtechapgchjdhaaaDoorQui
import Derived.RegionTactic
namespace Go.Proofs.YtechapgchjdhaaaDoor
open Go.RowKit

/-- Every edge that binds points back. -/
def backB (ops : Array Oper) : Bool := (List.range ops.size).all fun i => ((ops[i]?).map fun o => o.after.all fun e => !Region.binds .any e || decide (e.on < i)).getD true

theorem mem_ready_any {ops : Array Oper} {listed : Array Bool} {i : Nat} : i ∈ Region.ready .any ops listed ↔ i < ops.size ∧ listed.getD i true = false ∧ ∃ o, ops[i]? = some o ∧ ∀ e ∈ o.after, Region.binds .any e = true → listed.getD e.on false = true := by
  unfold Region.ready
  rw [List.mem_filter, List.mem_range]
  constructor
  · rintro ⟨h1, h2⟩
    simp only [Bool.and_eq_true, Bool.not_eq_true'] at h2
    refine ⟨h1, h2.1, ops[i], Array.getElem?_eq_getElem h1, fun e he hb => ?_⟩
    have h3 := h2.2
    rw [Array.getElem?_eq_getElem h1, Option.map_some, Option.getD_some, Array.all_eq_true'] at h3
    have := h3 e he
    simpa [hb] using this
  · rintro ⟨h1, h2, o, ho, h3⟩
    refine ⟨h1, ?_⟩
    rw [ho, Option.map_some, Option.getD_some, h2]
    simp only [Bool.not_false, Bool.true_and, Array.all_eq_true']
    intro e he
    cases hb : Region.binds .any e with
    | false => rfl
    | true => simpa using h3 e he hb

theorem wpAny_inv {P : Program} {ops : Array Oper} {Q : Exit → Act → World → Prop} (J : (Nat → Bool) → Act → World → Prop) (hback : backB ops = true)
    (hstep : ∀ (L : Nat → Bool) (i : Nat) (o : Oper) (a : Act) (w : World), ops[i]? = some o → L i = false → (∀ e ∈ o.after, Region.binds .any e = true → L e.on = true) → J L a w →
      ∀ K : Act → World → Prop, (∀ a' w', J (fun k => if k = i then true else L k) a' w' → K a' w') → wpOp P ops Q i K a w)
    (hend : ∀ (L : Nat → Bool) (a : Act) (w : World), (∀ i, i < ops.size → L i = true) → J L a w → Q .normal a w) :
    ∀ (fuel : Nat) (listed : Array Bool) (a : Act) (w : World), listed.size = ops.size → ops.size ≤ fuel + (listed.toList.filter id).length → J (fun k => listed.getD k false) a w → wpAny P .any ops Q fuel listed a w := by
  have hall : ∀ listed : Array Bool, listed.size = ops.size → Region.ready .any ops listed = [] → ∀ i, i < ops.size → listed.getD i false = true := by
    intro listed hsz hr i
    induction i using Nat.strongRecOn with
    | ind i ih =>
      intro hi
      cases hl : listed.getD i false with
      | true => rfl
      | false =>
        exfalso
        have hm : i ∈ Region.ready .any ops listed := by
          refine mem_ready_any.2 ⟨hi, ?_, ops[i], Array.getElem?_eq_getElem hi, fun e he hb => ?_⟩
          · rw [Array.getD_eq_getD_getElem?, Array.getElem?_eq_getElem (by omega)] at hl ⊢
            simpa using hl
          · have := hback
            unfold backB at this
            rw [List.all_eq_true] at this
            have := this i (List.mem_range.2 hi)
            rw [Array.getElem?_eq_getElem hi, Option.map_some, Option.getD_some, Array.all_eq_true'] at this
            have := this e he
            simp only [hb, Bool.not_true, Bool.false_or, decide_eq_true_eq] at this
            exact ih e.on this (by omega)
        rw [hr] at hm
        cases hm
  have hcount : ∀ (listed : Array Bool) (i : Nat), i < listed.size → listed.getD i true = false → ((listed.setIfInBounds i true).toList.filter id).length = (listed.toList.filter id).length + 1 := by
    intro listed i hi hl
    rw [Array.toList_setIfInBounds]
    have hl' : listed.toList[i]? = some false := by
      rw [Array.getD_eq_getD_getElem?, Array.getElem?_eq_getElem hi] at hl
      rw [Array.getElem?_toList, Array.getElem?_eq_getElem hi]
      simpa using hl
    generalize listed.toList = l at hl'
    clear hl hi
    induction l generalizing i with
    | nil => simp at hl'
    | cons x l ih =>
      cases i with
      | zero =>
        simp at hl'
        subst hl'
        simp
      | succ i =>
        have := ih i (by simpa using hl')
        cases x <;> simp [this]
  intro fuel
  induction fuel with
  | zero =>
    intro listed a w hsz hf hJ
    have hr : Region.ready .any ops listed = [] := by
      cases h : Region.ready .any ops listed with
      | nil => rfl
      | cons i r =>
        exfalso
        obtain ⟨h1, h2, _⟩ := mem_ready_any.1 (show i ∈ Region.ready .any ops listed by rw [h]; simp)
        have hc := hcount listed i (by omega) h2
        have hle : ((listed.setIfInBounds i true).toList.filter id).length ≤ listed.size := by
          have := List.length_filter_le id (listed.setIfInBounds i true).toList
          simpa using this
        omega
    exact ⟨hr, hend _ a w (fun i hi => hall listed hsz hr i hi) hJ⟩
  | succ fuel ih =>
    intro listed a w hsz hf hJ
    refine ⟨fun hr => hend _ a w (fun i hi => hall listed hsz hr i hi) hJ, fun i hi => ?_⟩
    obtain ⟨h1, h2, o, ho, h3⟩ := mem_ready_any.1 hi
    refine hstep _ i o a w ho ?_ h3 hJ _ ?_
    · rw [Array.getD_eq_getD_getElem?, Array.getElem?_eq_getElem (by omega)] at h2 ⊢
      simpa using h2
    · intro a' w' hJ'
      refine ih _ a' w' (by simpa using hsz) (by have := hcount listed i (by omega) h2; omega) ?_
      have e : (fun k => (listed.setIfInBounds i true).getD k false) = fun k => if k = i then true else listed.getD k false := by
        funext k
        rw [Array.getD_eq_getD_getElem?, Array.getD_eq_getD_getElem?, Array.getElem?_setIfInBounds]
        by_cases hk : k = i
        · subst hk
          simp [hsz, h1]
        · rw [if_neg (fun h => hk h.symm), if_neg hk]
      rw [e]
      exact hJ'

/-- THE RULE. -/
theorem wp_region_inv {P : Program} {ops : Array Oper} {Q : Exit → Act → World → Prop} {id : Nat} {a : Act} {w : World} (hm : P.follows .mixedOrders = true) (J : (Nat → Bool) → Act → World → Prop) (hback : backB ops = true)
    (hstart : J (fun _ => false) a w.drew)
    (hstep : ∀ (L : Nat → Bool) (i : Nat) (o : Oper) (a : Act) (w : World), ops[i]? = some o → L i = false → (∀ e ∈ o.after, Region.binds .any e = true → L e.on = true) → J L a w →
      ∀ K : Act → World → Prop, (∀ a' w', J (fun k => if k = i then true else L k) a' w' → K a' w') → wpOp P ops Q i K a w)
    (hend : ∀ (L : Nat → Bool) (a : Act) (w : World), (∀ i, i < ops.size → L i = true) → J L a w → Q .normal a w) : (Code.region id ops true).wp P Q a w := by
  refine wp_region_any hm (wpAny_inv J hback hstep hend ops.size _ a _ (by simp) (by omega) ?_)
  have e : (fun k => (Array.replicate ops.size false).getD k false) = fun _ => false := by
    funext k
    rw [Array.getD_eq_getD_getElem?, Array.getElem?_replicate]
    split <;> rfl
  rw [e]
  exact hstart

/-- Does operation i wait for operation j? -/
def depB (ops : Array Oper) (i j : Nat) : Bool := match ops[i]? with
  | some o => o.after.any fun e => Region.binds .any e && (e.on == j)
  | none => false
theorem depB_spec {ops : Array Oper} {i : Nat} {o : Oper} (ho : ops[i]? = some o) {j : Nat} : depB ops i j = true ↔ ∃ e ∈ o.after, Region.binds .any e = true ∧ e.on = j := by
  unfold depB
  rw [ho]
  show (o.after.any _) = true ↔ _
  rw [Array.any_eq_true']
  constructor
  · rintro ⟨e, he, h⟩
    simp only [Bool.and_eq_true, beq_iff_eq] at h
    exact ⟨e, he, h.1, h.2⟩
  · rintro ⟨e, he, h1, h2⟩
    exact ⟨e, he, by simp [h1, h2]⟩

/-- THE RULE, with this known besides: what has been carried out waits for nothing that has not. -/
theorem wp_region_inv' {P : Program} {ops : Array Oper} {Q : Exit → Act → World → Prop} {id : Nat} {a : Act} {w : World} (hm : P.follows .mixedOrders = true) (J : (Nat → Bool) → Act → World → Prop) (hback : backB ops = true)
    (hstart : J (fun _ => false) a w.drew)
    (hstep : ∀ (L : Nat → Bool) (i : Nat) (o : Oper) (a : Act) (w : World), ops[i]? = some o → L i = false → (∀ j, depB ops i j = true → L j = true) → (∀ k j, depB ops k j = true → L k = true → L j = true) → J L a w →
      ∀ K : Act → World → Prop, (∀ a' w', J (fun k => if k = i then true else L k) a' w' → K a' w') → wpOp P ops Q i K a w)
    (hend : ∀ (L : Nat → Bool) (a : Act) (w : World), (∀ i, i < ops.size → L i = true) → J L a w → Q .normal a w) : (Code.region id ops true).wp P Q a w := by
  refine wp_region_inv hm (fun L a w => J L a w ∧ ∀ k j, depB ops k j = true → L k = true → L j = true) hback ⟨hstart, fun k j _ h => by cases h⟩ ?_ (fun L a w h1 h2 => hend L a w h1 h2.1)
  intro L i o a w ho hL hdep ⟨hJ, hcl⟩ K hK
  have hdep' : ∀ j, depB ops i j = true → L j = true := fun j hj => by
    obtain ⟨e, he, hb, rfl⟩ := (depB_spec ho).1 hj
    exact hdep e he hb
  refine hstep L i o a w ho hL hdep' hcl hJ K (fun a' w' hJ' => hK a' w' ⟨hJ', ?_⟩)
  intro k j hk hl
  by_cases hki : k = i
  · subst hki
    have := hdep' j hk
    show (if j = k then true else L j) = true
    rw [this]
    split <;> rfl
  · have hl' : L k = true := by simpa [hki] using hl
    have := hcl k j hk hl'
    show (if j = i then true else L j) = true
    rw [this]
    split <;> rfl

/-- One operation of such a region, as the walk takes it. -/
theorem wpOp_list {P : Program} {ops : Array Oper} {Q : Exit → Act → World → Prop} {i : Nat} {o : Oper} {K : Act → World → Prop} {a : Act} {w : World} (ho : ops[i]? = some o) (h : wpList P ops (Exit.then K Q) [o] a w) : wpOp P ops Q i K a w := by
  unfold wpOp
  rw [ho]
  unfold wpList at h
  exact h

theorem mixed : Tryd.prog.follows .mixedOrders = true := by kernel_rfl
end Go.Proofs.YtechapgchjdhaaaDoor
