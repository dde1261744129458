/- A region's last operation. -/
import Derived.Test.YtoociokhldakbaaGreatO8
import Derived.Deep.RegionHeld3
import Derived.Orders
namespace Go.Proofs.YtoociokhldakbaaGreat
open Go.ChangeShapes Go.WideShapes Go.ChangeAt Go.RowKit
set_option linter.unusedVariables false
/-- the post of a region that lacks its last operation: that operation is carried out behind it -/
def lastQ (P : Program) (o : Oper) (Q : Exit → Act → World → Prop) : Exit → Act → World → Prop
  | .normal, a, w => Oper.wp P o a w (Q .normal) Q
  | e, a, w => Q e a w
/-- the last operation waits for all the others; nothing waits for what stands behind it; no guards -/
def lastOk (md : Region.Mode) (n : Nat) (ops : Array Oper) : Bool :=
  (List.range ops.size).all fun i => match ops[i]? with
    | some oi => oi.guard.isNone && oi.after.all (fun e => !Region.binds md e || decide (e.on < i)) && (decide (i = n) || (List.range ops.size).any fun j => decide (i < j) && match ops[j]? with
        | some oj => oj.after.any (fun e => Region.binds md e && e.on == i)
        | none => false)
    | none => true
theorem lastOk_spec {md : Region.Mode} {n : Nat} {ops : Array Oper} (h : lastOk md n ops = true) {i : Nat} {oi : Oper} (hi : ops[i]? = some oi) :
    oi.guard = none ∧ (∀ e ∈ oi.after, Region.binds md e = true → e.on < i) ∧ (i ≠ n → ∃ j oj, i < j ∧ ops[j]? = some oj ∧ ∃ e ∈ oj.after, Region.binds md e = true ∧ e.on = i) := by
  have hlt : i < ops.size := (Array.getElem?_eq_some_iff.1 hi).1
  have h1 := List.all_eq_true.1 h i (List.mem_range.2 hlt)
  simp only [hi, Bool.and_eq_true, Bool.or_eq_true] at h1
  obtain ⟨⟨h2, h3⟩, h4⟩ := h1
  refine ⟨by simpa using h2, fun e he hb => ?_, fun hne => ?_⟩
  · have h5 := Array.all_eq_true_iff_forall_mem.1 h3 e he
    simp only [hb, Bool.not_true, Bool.false_or, decide_eq_true_eq] at h5
    exact h5
  · rcases h4 with h4 | h4
    · exact absurd (of_decide_eq_true h4) hne
    · obtain ⟨j, _, hj⟩ := List.any_eq_true.1 h4
      simp only [Bool.and_eq_true, decide_eq_true_eq] at hj
      obtain ⟨hij, hj⟩ := hj
      cases ho : ops[j]? with
      | none => rw [ho] at hj; cases hj
      | some oj =>
        rw [ho] at hj
        obtain ⟨e, he, hb⟩ := Array.any_eq_true'.1 hj
        simp only [Bool.and_eq_true, beq_iff_eq] at hb
        exact ⟨j, oj, hij, ho, e, he, hb.1, hb.2⟩
section
variable {P : Program} {ops : Array Oper} {o : Oper} {Q : Exit → Act → World → Prop} {md : Region.Mode}
/-- what is listed has all that it waits for listed -/
def DownL (md : Region.Mode) (ops : Array Oper) (listed : Array Bool) : Prop :=
  ∀ i oi, ops[i]? = some oi → listed.getD i false = true → ∀ e ∈ oi.after, Region.binds md e = true → listed.getD e.on false = true
theorem push_getD {l : Array Bool} {b d : Bool} {i : Nat} (h : i < l.size) : (l.push b).getD i d = l.getD i d := by
  simp [h, Array.getElem_push_lt, Nat.lt_succ_of_lt h]
theorem push_getD_last {l : Array Bool} {b d : Bool} : (l.push b).getD l.size d = b := by simp
theorem getD_tf {l : Array Bool} {i : Nat} (h : i < l.size) (h1 : l.getD i true = false) : l.getD i false = false := by
  simp [h] at h1 ⊢; exact h1
theorem getD_ft {l : Array Bool} {i : Nat} (h1 : l.getD i false = true) : l.getD i true = true := by
  by_cases h : i < l.size
  · simp [h] at h1 ⊢; exact h1
  · simp [h]
theorem getD_false_true {l : Array Bool} {i : Nat} (h1 : ¬ l.getD i false = true) (h : i < l.size) : l.getD i true = false := by
  simp [h] at h1 ⊢; exact h1
theorem getD_set_same {l : Array Bool} {i : Nat} (h : i < l.size) : (l.setIfInBounds i true).getD i false = true := by
  simp [h]
theorem ready_push_lt {listed : Array Bool} {b : Bool} {i : Nat} (hn : listed.size = ops.size) (hok : lastOk md ops.size (ops.push o) = true) (hi : i < ops.size) :
    i ∈ Region.ready md (ops.push o) (listed.push b) ↔ i ∈ Region.ready md ops listed := by
  have hg : (ops.push o)[i]? = ops[i]? := by rw [Array.getElem?_push]; simp [Nat.ne_of_lt hi]
  rw [mem_ready, mem_ready, push_getD (hn ▸ hi), hg]
  constructor
  · rintro ⟨h0, oi, ho, hall⟩
    refine ⟨h0, oi, ho, fun e he hb => ?_⟩
    have h1 := (lastOk_spec hok (hg.trans ho)).2.1 e he hb
    have h2 := hall e he hb
    rwa [push_getD (by omega)] at h2
  · rintro ⟨h0, oi, ho, hall⟩
    refine ⟨h0, oi, ho, fun e he hb => ?_⟩
    have h1 := (lastOk_spec hok (hg.trans ho)).2.1 e he hb
    rw [push_getD (by omega)]
    exact hall e he hb
theorem last_all {listed : Array Bool} {b : Bool} (hn : listed.size = ops.size) (hok : lastOk md ops.size (ops.push o) = true) (hd : DownL md ops listed)
    (hr : ops.size ∈ Region.ready md (ops.push o) (listed.push b)) : ∀ d i, ops.size - i ≤ d → i < ops.size → listed.getD i false = true := by
  intro d
  induction d with
  | zero => intro i h1 h2; omega
  | succ d ih =>
    intro i h1 h2
    have hg : (ops.push o)[i]? = ops[i]? := by rw [Array.getElem?_push]; simp [Nat.ne_of_lt h2]
    have hi : (ops.push o)[i]? = some ops[i] := by rw [hg]; simp [h2]
    obtain ⟨j, oj, hij, hj, e, he, hb, heq⟩ := (lastOk_spec hok hi).2.2 (by omega)
    have hjl : j < (ops.push o).size := (Array.getElem?_eq_some_iff.1 hj).1
    rw [Array.size_push] at hjl
    by_cases hjn : j = ops.size
    · subst hjn
      obtain ⟨_, o', ho', hall⟩ := mem_ready.1 hr
      rw [hj] at ho'
      injection ho' with ho'
      subst ho'
      have h3 := hall e he hb
      rw [heq, push_getD (by omega)] at h3
      exact h3
    · have hj2 : (ops.push o)[j]? = ops[j]? := by rw [Array.getElem?_push]; simp [hjn]
      have h3 := ih j (by omega) (by omega)
      have h4 := hd j oj (hj2 ▸ hj) h3 e he hb
      rwa [heq] at h4
theorem ready_nil_all {listed : Array Bool} (hn : listed.size = ops.size) (hok : lastOk md ops.size (ops.push o) = true) (hr : Region.ready md ops listed = []) :
    ∀ i, i < ops.size → listed.getD i false = true := by
  intro i
  induction i using Nat.strongRecOn with
  | ind i ih =>
    intro h2
    by_cases hl : listed.getD i false = true
    · exact hl
    · exfalso
      have hg : (ops.push o)[i]? = ops[i]? := by rw [Array.getElem?_push]; simp [Nat.ne_of_lt h2]
      have hi : ops[i]? = some ops[i] := by simp [h2]
      have hm : i ∈ Region.ready md ops listed := mem_ready.2 ⟨getD_false_true hl (by omega), ops[i], hi, fun e he hb => by
        have h3 := (lastOk_spec hok (hg.trans hi)).2.1 e he hb
        exact ih e.on h3 (by omega)⟩
      rw [hr] at hm
      cases hm
theorem DownL.set {listed : Array Bool} {i : Nat} (hd : DownL md ops listed) (hi : i ∈ Region.ready md ops listed) : DownL md ops (listed.setIfInBounds i true) := by
  intro k ok hk hl e he hb
  by_cases hik : i = k
  · subst hik
    obtain ⟨_, o', ho', hall⟩ := mem_ready.1 hi
    rw [hk] at ho'
    injection ho' with ho'
    subst ho'
    exact getD_set_true (hall e he hb)
  · rw [getD_set_ne false hik] at hl
    exact getD_set_true (hd k ok hk hl e he hb)
theorem wpOp_last {K : Act → World → Prop} {a : Act} {w : World} {i : Nat} (hi : i < ops.size) (hok : lastOk md ops.size (ops.push o) = true)
    (h : wpOp P ops (lastQ P o Q) i K a w) : wpOp P (ops.push o) Q i K a w := by
  have hg : (ops.push o)[i]? = ops[i]? := by rw [Array.getElem?_push]; simp [Nat.ne_of_lt hi]
  have hi1 : ops[i]? = some ops[i] := by simp [hi]
  have hgd := (lastOk_spec hok (hg.trans hi1)).1
  unfold wpOp at *
  rw [hg]
  rw [hi1] at h ⊢
  have hw : ∀ f, Region.wanted ops[i] f = true := fun f => by unfold Region.wanted; rw [hgd]
  simp only [hw, if_true] at h ⊢
  rcases h with h | ⟨ha, a0, w0, h0⟩
  · left
    unfold Oper.wp at *
    generalize (execOp a.eval ops[i]).run P w = r at *
    cases r with
    | ok n w' =>
      cases n <;> simp only [Oper.upon] at h ⊢ <;>
        first
          | exact h
          | exact Calls.mono h (fun e w'' he => by
              cases e with
              | returned v => exact he
              | panicked c => exact he
              | outgrown => exact he)
    | halt x w' => cases x <;> simp only [Oper.upon] at h ⊢ <;> exact h
  · exact .inr ⟨ha, a0, w0, h0⟩
theorem wpAny_last : ∀ (fuel : Nat) (listed : Array Bool) (a : Act) (w : World), listed.size = ops.size → lastOk md ops.size (ops.push o) = true → DownL md ops listed →
    wpAny P md ops (lastQ P o Q) fuel listed a w → wpAny P md (ops.push o) Q (fuel + 1) (listed.push false) a w := by
  have key : ∀ (fuel : Nat) (listed : Array Bool) (a : Act) (w : World), listed.size = ops.size → lastOk md ops.size (ops.push o) = true → Region.ready md ops listed = [] →
      Oper.wp P o a w (Q .normal) Q → wpAny P md (ops.push o) Q (fuel + 1) (listed.push false) a w := by
    intro fuel listed a w hn hok hr h
    have hall := ready_nil_all hn hok hr
    have hon : (ops.push o)[ops.size]? = some o := by simp
    have hnr : ops.size ∈ Region.ready md (ops.push o) (listed.push false) := mem_ready.2 ⟨by rw [← hn]; exact push_getD_last, o, hon, fun e he hb => by
      have h1 := (lastOk_spec hok hon).2.1 e he hb
      rw [push_getD (by omega)]
      exact hall _ h1⟩
    refine ⟨fun h0 => (by rw [h0] at hnr; cases hnr), fun i hi => ?_⟩
    have hin : i = ops.size := by
      obtain ⟨_, oi, hoi, _⟩ := mem_ready.1 hi
      have hlt := (Array.getElem?_eq_some_iff.1 hoi).1
      rw [Array.size_push] at hlt
      rcases Nat.lt_or_ge i ops.size with h1 | h1
      · have h2 := (ready_push_lt hn hok h1).1 hi
        rw [hr] at h2
        cases h2
      · omega
    subst hin
    have hgd := (lastOk_spec hok hon).1
    unfold wpOp
    simp only [hon]
    have hw : ∀ f, Region.wanted o f = true := fun f => by unfold Region.wanted; rw [hgd]
    simp only [hw, if_true]
    refine .inl (Oper.wp_mono (fun a' w' hq => wpAny_done ?_ hq fuel) h)
    rw [List.eq_nil_iff_forall_not_mem]
    intro k hk
    obtain ⟨h0, ok, hok', _⟩ := mem_ready.1 hk
    have hlt := (Array.getElem?_eq_some_iff.1 hok').1
    rw [Array.size_push] at hlt
    by_cases hkn : ops.size = k
    · subst hkn
      rw [getD_ft (getD_set_same (by rw [Array.size_push]; omega))] at h0
      cases h0
    · rw [getD_set_ne true hkn, push_getD (by omega), getD_ft (hall k (by omega))] at h0
      cases h0
  intro fuel
  induction fuel with
  | zero => exact fun listed a w hn hok _ h => key 0 listed a w hn hok h.1 h.2
  | succ fuel ih =>
    intro listed a w hn hok hd h
    by_cases hr : Region.ready md ops listed = []
    · exact key _ listed a w hn hok hr (h.1 hr)
    · have hnn : ops.size ∉ Region.ready md (ops.push o) (listed.push false) := fun hm => hr (by
        rw [List.eq_nil_iff_forall_not_mem]
        intro k hk
        obtain ⟨h0, ok, hok', _⟩ := mem_ready.1 hk
        have hlt := (Array.getElem?_eq_some_iff.1 hok').1
        rw [getD_ft (last_all hn hok hd hm _ k (Nat.le_refl _) hlt)] at h0
        cases h0)
      refine ⟨fun h0 => (hr ?_).elim, fun i hi => ?_⟩
      · rw [List.eq_nil_iff_forall_not_mem] at h0 ⊢
        intro k hk
        obtain ⟨_, ok, hok', _⟩ := mem_ready.1 hk
        exact h0 k ((ready_push_lt hn hok (Array.getElem?_eq_some_iff.1 hok').1).2 hk)
      · have hin : i < ops.size := by
          obtain ⟨_, oi, hoi, _⟩ := mem_ready.1 hi
          have hlt := (Array.getElem?_eq_some_iff.1 hoi).1
          rw [Array.size_push] at hlt
          rcases Nat.lt_or_ge i ops.size with h1 | h1
          · exact h1
          · have : i = ops.size := by omega
            subst this
            exact absurd hi hnn
        have hir := (ready_push_lt hn hok hin).1 hi
        refine wpOp_mono (fun a' w' hk => ?_) (wpOp_last hin hok (h.2 i hir))
        have h5 := ih (listed.setIfInBounds i true) a' w' (by simpa using hn) hok (hd.set hir) hk
        have h6 : (listed.push false).setIfInBounds i true = (listed.setIfInBounds i true).push false := by
          apply Array.toList_inj.1
          have e2 : i < listed.toList.length := by simp; omega
          rw [Array.toList_setIfInBounds, Array.toList_push, Array.toList_push, Array.toList_setIfInBounds, List.set_append_left _ _ e2]
        rw [h6]
        exact h5
/-- **A region's last operation, which waits for all the others, is carried out behind them**: the loads of the cell that it writes may then be held. -/
theorem wp_region_last {id : Nat} {a : Act} {w : World} {S : World → Prop} (hm : P.follows .mixedOrders = true) (ops : Array Oper) (o : Oper) {ops1 : Array Oper} (he : ops1 = ops.push o)
    (hok : lastOk .any ops.size (ops.push o) = true) (hS : S w.drew)
    (h : S w.drew → wpAnyH P .any ops (lastQ P o Q) S ops.size (Array.replicate ops.size false) a w.drew) : (Code.region id ops1 true).wp P Q a w := by
  subst he
  have h1 := wpAny_last ops.size (Array.replicate ops.size false) a w.drew (by simp) hok (fun i oi _ hl => by
    exfalso
    by_cases hlt : i < ops.size <;> simp [hlt] at hl) (wpAny_of_held _ _ _ _ (h hS))
  refine wp_region_any hm ?_
  have h2 : (Array.replicate ops.size false).push false = Array.replicate (ops.push o).size false := by
    rw [Array.size_push, Array.replicate_succ]
  rw [← h2, Array.size_push]
  exact h1
end
theorem wp_region_lastL {P : Program} {Q : Exit → Act → World → Prop} {id : Nat} {a : Act} {w : World} (l l' : List Oper) (o : Oper) (hd : l.dropLast = l') (hl : l.getLast? = some o) (S : World → Prop)
    (hm : P.follows .mixedOrders = true) (hok : lastOk .any l'.length l.toArray = true) (hS : S w.drew)
    (h : S w.drew → wpAnyH P .any l'.toArray (lastQ P o Q) S l'.length (Array.replicate l'.length false) a w.drew) : (Code.region id l.toArray true).wp P Q a w := by
  have he : l = l' ++ [o] := by
    obtain ⟨ys, rfl⟩ := List.getLast?_eq_some_iff.1 hl
    rw [← hd]
    simp
  subst he
  have e2 : (l' ++ [o]).toArray = l'.toArray.push o := by simp
  refine wp_region_last hm l'.toArray o e2 ?_ hS ?_
  · rw [← e2]; simpa using hok
  · simpa using h
/-- a whole struct is loaded out of its own block, in every world that meets S -/
theorem yields_load_row {P : Program} {ops : Array Oper} {S : World → Prop} {o : Oper} {a : Act} (hgd : o.guard = none) (ty : TypeId) (x : Operand) (ho : o.op = .load ty x)
    (g : Nat) (hx : a.eval x = .pointer (some ⟨g, 0, none⟩)) (t : TypeId) (cs : Array Value) (d : TypeDesc) (hg : ∀ w, S w → Blk w g t cs)
    (hu : P.underlying ty = some d) (hd : (match d with | .struct _ | .array _ _ => true | _ => false) = true) (hi : (P.info? ty).map (·.size) = some cs.size) : YieldsIf P ops S o (.agg cs) a := by
  refine Or.inl ⟨by unfold Region.wanted; rw [hgd], fun w hS => ?_⟩
  unfold execOp
  simp only [ho, hx, Instr.loadAt, Instr.sureAddr, Sem.run_bind, Sem.run_pure, Result.andThen_ok, run_loadVar_row w g t ty cs (0, 0) d (hg w hS) hu hd hi]
end Go.Proofs.YtoociokhldakbaaGreat
