/- A drawn region by one invariant over what has been carried out -/
import Derived.Test.YtcamjefacbaniaaGreatDoorLa
import Derived.Orders
namespace Go.Proofs.YtcamjefacbaniaaGreatDoor
open Go.ChangeShapes Go.WideShapes Go.ChangeAt Go.RowKit
set_option linter.unusedVariables false
/-- every edge that binds leads back -/
def backB (md : Region.Mode) (ops : Array Oper) : Bool :=
  (List.range ops.size).all fun i => match ops[i]? with
    | some oi => oi.after.all (fun e => !Region.binds md e || decide (e.on < i))
    | none => true
section
variable {P : Program} {ops : Array Oper} {Q : Exit → Act → World → Prop} {md : Region.Mode}
theorem backB_spec (h : backB md ops = true) {i : Nat} {oi : Oper} (hi : ops[i]? = some oi) : ∀ e ∈ oi.after, Region.binds md e = true → e.on < i := by
  intro e he hb
  have hlt : i < ops.size := (Array.getElem?_eq_some_iff.1 hi).1
  have h1 := List.all_eq_true.1 h i (List.mem_range.2 hlt)
  simp only [hi] at h1
  have h5 := Array.all_eq_true_iff_forall_mem.1 h1 e he
  simp only [hb, Bool.not_true, Bool.false_or, decide_eq_true_eq] at h5
  exact h5
theorem all_of_nil {listed : Array Bool} (hn : listed.size = ops.size) (hB : backB md ops = true) (hr : Region.ready md ops listed = []) : ∀ i, i < ops.size → listed.getD i false = true := by
  intro i
  induction i using Nat.strongRecOn with
  | ind i ih =>
    intro h2
    by_cases hl : listed.getD i false = true
    · exact hl
    · exfalso
      have hi : ops[i]? = some ops[i] := by simp [h2]
      have h3 : listed.getD i true = false := by
        have hlt : i < listed.size := by omega
        rw [Array.getD_eq_getD_getElem?, Array.getElem?_eq_getElem hlt, Option.getD_some] at hl ⊢
        simpa using hl
      have hm : i ∈ Region.ready md ops listed := mem_ready.2 ⟨h3, ops[i], hi, fun e he hb => by
        have h4 := backB_spec hB hi e he hb
        exact ih e.on h4 (by omega)⟩
      rw [hr] at hm
      cases hm
/-- **AN INVARIANT OVER WHAT HAS BEEN CARRIED OUT**: it holds at the start; each operation that may come up keeps it; where all have been carried out it gives the rest -/
theorem wpAny_inv (I : (Nat → Bool) → Act → World → Prop) (hB : backB md ops = true)
    (hstep : ∀ (listed : Array Bool) (a : Act) (w : World) (i : Nat) (o : Oper), listed.size = ops.size → I (fun j => listed.getD j false) a w → ops[i]? = some o → listed.getD i false = false →
      (∀ e ∈ o.after, Region.binds md e = true → listed.getD e.on false = true) → wpOp P ops Q i (fun a' w' => I (fun j => if j = i then true else listed.getD j false) a' w') a w)
    (hdone : ∀ (listed : Array Bool) (a : Act) (w : World), I (fun j => listed.getD j false) a w → (∀ i, i < ops.size → listed.getD i false = true) → Q .normal a w) :
    ∀ (fuel : Nat) (listed : Array Bool) (a : Act) (w : World), listed.size = ops.size → listed.toList.count false ≤ fuel → I (fun j => listed.getD j false) a w → wpAny P md ops Q fuel listed a w := by
  intro fuel
  induction fuel with
  | zero =>
    intro listed a w hn hc hI
    have hr : Region.ready md ops listed = [] := by
      rw [List.eq_nil_iff_forall_not_mem]
      intro k hk
      obtain ⟨h0, ok, hok, _⟩ := mem_ready.1 hk
      have hlt := (Array.getElem?_eq_some_iff.1 hok).1
      have hkl : k < listed.toList.length := by simpa [hn] using hlt
      have hf : listed.toList[k] = false := by
        rw [Array.getD_eq_getD_getElem?, Array.getElem?_eq_getElem (by omega), Option.getD_some] at h0
        simpa using h0
      have : 0 < listed.toList.count false := List.count_pos_iff.2 (by rw [← hf]; exact List.getElem_mem hkl)
      omega
    exact ⟨hr, hdone listed a w hI (all_of_nil hn hB hr)⟩
  | succ fuel ih =>
    intro listed a w hn hc hI
    refine ⟨fun hr => hdone listed a w hI (all_of_nil hn hB hr), fun i hi => ?_⟩
    obtain ⟨h0, oi, hoi, hall⟩ := mem_ready.1 hi
    have hlt := (Array.getElem?_eq_some_iff.1 hoi).1
    have hf : listed.getD i false = false := by
      rw [Array.getD_eq_getD_getElem?, Array.getElem?_eq_getElem (by omega), Option.getD_some] at h0 ⊢
      exact h0
    refine wpOp_mono (fun a' w' hk => ?_) (hstep listed a w i oi hn hI hoi hf hall)
    refine ih _ a' w' (by simpa using hn) ?_ ?_
    · rw [Array.toList_setIfInBounds, List.count_set (by simpa [hn] using hlt)]
      have he : listed.toList[i]'(by simpa [hn] using hlt) = false := by
        rw [Array.getD_eq_getD_getElem?, Array.getElem?_eq_getElem (by omega), Option.getD_some] at hf
        simpa using hf
      rw [he]
      show listed.toList.count false - 1 + 0 ≤ fuel
      have : 0 < listed.toList.count false := List.count_pos_iff.2 (by rw [← he]; exact List.getElem_mem _)
      omega
    · have e : (fun j => (listed.setIfInBounds i true).getD j false) = (fun j => if j = i then true else listed.getD j false) := by
        funext j
        rw [Array.getD_eq_getD_getElem?, Array.getD_eq_getD_getElem?, Array.getElem?_setIfInBounds]
        by_cases hji : i = j
        · subst hji
          simp [hn, hlt]
        · have hji' : ¬ j = i := fun h => hji h.symm
          simp [hji, hji']
      rw [e]
      exact hk
theorem wp_region_inv {id : Nat} {a : Act} {w : World} (I : (Nat → Bool) → Act → World → Prop) (hm : P.follows .mixedOrders = true) (hB : backB .any ops = true)
    (h0 : I (fun _ => false) a w.drew)
    (hstep : ∀ (L : Nat → Bool) (a : Act) (w : World) (i : Nat) (o : Oper), I L a w → ops[i]? = some o → L i = false → (∀ e ∈ o.after, Region.binds .any e = true → L e.on = true) → wpOp P ops Q i (fun a' w' => I (fun j => if j = i then true else L j) a' w') a w)
    (hdone : ∀ (L : Nat → Bool) (a : Act) (w : World), I L a w → (∀ i, i < ops.size → L i = true) → Q .normal a w) : (Code.region id ops true).wp P Q a w := by
  refine wp_region_any hm ?_
  refine wpAny_inv I hB (fun listed a w i o _ hI ho hf hall => hstep _ a w i o hI ho hf hall) (fun listed a w hI hall => hdone _ a w hI hall) _ _ _ _ (by simp) (by simp) ?_
  have e : (fun j => (Array.replicate ops.size false).getD j false) = (fun _ => false) := by
    funext j
    rw [Array.getD_eq_getD_getElem?, Array.getElem?_replicate]
    split <;> rfl
  rw [e]
  exact h0
theorem wpOp_of {i : Nat} {o : Oper} {K : Act → World → Prop} {a : Act} {w : World} (ho : ops[i]? = some o) (hg : o.guard = none) (h : o.wp P a w K Q) : wpOp P ops Q i K a w := by
  have hw : ∀ f, Region.wanted o f = true := fun f => by unfold Region.wanted; rw [hg]
  unfold wpOp
  simp only [ho, hw, if_true]
  exact .inl h
end
/-- one flag, one slot anew -/
def upd {α : Type} (f : Nat → α) (i : Nat) (v : α) : Nat → α := fun j => if j = i then v else f j
/-- each that has been carried out has behind it what binds it -/
def Cl (ops : Array Oper) (L : Nat → Bool) : Prop := ∀ j oj, ops[j]? = some oj → L j = true → ∀ e ∈ oj.after, Region.binds .any e = true → L e.on = true
section
variable {P : Program} {ops : Array Oper} {Q : Exit → Act → World → Prop}
theorem wp_region_inv2 {id : Nat} {a : Act} {w : World} (I : (Nat → Bool) → Act → World → Prop) (hm : P.follows .mixedOrders = true) (hB : backB .any ops = true)
    (h0 : I (fun _ => false) a w.drew)
    (hstep : ∀ (L : Nat → Bool) (a : Act) (w : World) (i : Nat) (o : Oper), Cl ops L → I L a w → ops[i]? = some o → L i = false → (∀ e ∈ o.after, Region.binds .any e = true → L e.on = true) → wpOp P ops Q i (fun a' w' => I (upd L i true) a' w') a w)
    (hdone : ∀ (L : Nat → Bool) (a : Act) (w : World), I L a w → (∀ i, i < ops.size → L i = true) → Q .normal a w) : (Code.region id ops true).wp P Q a w := by
  refine wp_region_inv (I := fun L a w => Cl ops L ∧ I L a w) hm hB ⟨fun _ _ _ h => (nomatch h), h0⟩ ?_ (fun L a w h => hdone L a w h.2)
  intro L a w i o ⟨hc, hi⟩ ho hf hall
  refine wpOp_mono (fun a' w' h => ⟨?_, h⟩) (hstep L a w i o hc hi ho hf hall)
  intro j oj hj hl e he hb
  show (if e.on = i then true else L e.on) = true
  split
  · rfl
  · by_cases hji : j = i
    · subst hji
      rw [ho] at hj
      obtain rfl := Option.some.inj hj
      exact hall e he hb
    · have hl' : (if j = i then true else L j) = true := hl
      rw [if_neg hji] at hl'
      exact hc j oj hj hl' e he hb
theorem Oper.wp_val {o : Oper} {a : Act} {w w' : World} {K : Act → World → Prop} (v : Value) (h : (execOp a.eval o).run P w = .ok (.value v) w') (hn : K (a.put o.dst v) w') : o.wp P a w K Q := by
  unfold Oper.wp
  rw [h]
  exact hn
theorem Oper.wp_skip {o : Oper} {a : Act} {w w' : World} {K : Act → World → Prop} (h : (execOp a.eval o).run P w = .ok .skip w') (hd : o.dst = none) (hn : K a w') : o.wp P a w K Q := by
  unfold Oper.wp
  rw [h]
  show K (a.put o.dst undef) w'
  rw [hd]
  exact hn
theorem Oper.wp_call {o : Oper} {a : Act} {w w' : World} {K : Act → World → Prop} {f : FuncId} {args : Array Value} {R : World → Value → World → Prop} (h : (execOp a.eval o).run P w = .ok (.enter f args) w') (hc : Calls P f args w' fun e w'' => ∃ v, e = .returned v ∧ R w' v w'') (hn : ∀ v w'', R w' v w'' → K (a.put o.dst v) w'') : o.wp P a w K Q := by
  unfold Oper.wp
  rw [h]
  refine Calls.mono hc ?_
  rintro e w'' ⟨v, rfl, hr⟩
  exact hn v w'' hr
end
end Go.Proofs.YtcamjefacbaniaaGreatDoor
