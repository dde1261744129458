/- The law FnPosition returns true for every text and every two numbers, and leaves its arguments as they were; the card over the tables of the standard library that its row lists. -/
import Derived.Test.YtkodcbddlgadaaaDoorRPw
import Derived.Test.YtkodcbddlgadaaaDoorRRows
import Derived.Test.YtkodcbddlgadaaaDoorRCards
import Derived.Test.YtkodcbddlgadaaaDoorRTie
import Derived.WalkKit
import Derived.ProofKit
import Derived.OpenShut
import Derived.ShutString
import Derived.Below
import Derived.LaidLaws
import Derived.Lib.LaidTab
import Derived.SevenTiedAt
import Derived.LaidSub
namespace Go.Proofs.YtkodcbddlgadaaaDoorR.fnPosition
open Go.ChangeShapes Go.WideShapes Go.ChangeAt Go.RowKit
open Go.ChangeMaps (open_string shut_string)
set_option linter.unusedVariables false

theorem own : ownKnob Tryd.prog.godebug = none := by kernel_rfl
theorem gPowType : (Tryd.prog.globals[6]?).map (·.type) = some 70 := by kernel_rfl
theorem cellsU : Tryd.prog.cellsOf 59 = 1 := by kernel_rfl
theorem cellsPow : Tryd.prog.cellsOf 70 = 20 := by kernel_rfl
theorem one_laid : Rows.fnPositionRow.laid.filter (fun x => x.1 == "internal/strconv.uint64pow10") = [("internal/strconv.uint64pow10", Lib.tabData .u64 Lib.pow10Tab)] := by kernel_rfl
/-- a table's cells as its row lists it -/
def cellsOf : DataW Unit → Array Value
  | .agg ds => (ds.map fun | .lit l => l.value | _ => undef).toArray
  | _ => #[]
def lay (d : DataW Unit) : Obj → Obj
  | .cells _ t fr => .cells (cellsOf d) t fr
  | o => o
/-- the settled world, the three tables holding what their initialisers lay: the witness -/
noncomputable def laidWorld (os : Os) : World :=
  { World.holding Tryd.prog os ⟨#[], #[], []⟩ with heap := (((World.holding Tryd.prog os ⟨#[], #[], []⟩).heap.modify 6 (lay Rows.laid_internal_strconv_uint64pow10)).modify 7 (lay Rows.laid_math_bits_deBruijn32tab)).modify 8 (lay Rows.laid_math_bits_deBruijn64tab) }
theorem laid_met (os : Os) (args : Array Value) : laidMet Tryd.prog Rows.fnPositionRow.laid ((laidWorld os).forCall (fun _ _ => 0) ⟨#[], args, []⟩).memory :=
  laidMet_of_run' 8 (by kernel_rfl) (by kernel_rfl)

set_option maxRecDepth 100000 in
theorem lifted (os : Os) (started : os.Started) (H : Type) (enc : TypeId × Value → H) :
    ReturnsInHanded {} Tryd.checked os 3 .any (fun w args => (Rows.fnPositionSpec.pre enc Tryd.prog Tryd.f3 Rows.fnPositionRow.domain false w args ∧ laidMet Tryd.prog Rows.fnPositionRow.laid w) ∧ sizedMet enc Tryd.prog Tryd.f3 (OpenSpec.ofChange Rows.fnPositionSpec) false w args) (Rows.fnPositionSpec.post enc Tryd.prog Tryd.f3 false true false false) := by
  refine returnsInHanded_of_change_and (C := Tryd.checked) (X := fun w _ => laidMet Tryd.prog Rows.fnPositionRow.laid w) (fun _ _ _ hh h => h.of_heap hh) own started (by kernel_rfl) Tryd.func3
    (ChangeSpec.witness_at (enc := enc) (C := Tryd.checked) (os := os) (X := fun w _ => laidMet Tryd.prog Rows.fnPositionRow.laid w) false (laidWorld os) #[.string ByteArray.empty, .int .i32 0, .int .i32 0] 8 rfl (by kernel_rfl) (by kernel_rfl) (by kernel_rfl) (by kernel_rfl) (by kernel_rfl)
      (laid_met os _)) ?_
  intro W base args ds gs before hval0 hW hcnd _ hL _
  have hval : ∀ (j : Nat) t v, Tryd.f3.params[j]? = some t → args[j]? = some v → Value.okWide Tryd.prog W .any base t v := hval0
  have hW' := hW
  obtain ⟨p, q, hA0, hV, rfl, hfz, hnd⟩ := hW
  have hA : DataW.TrodAll enc Tryd.prog W 0 (fun _ => true) true Tryd.f3.params.toList args.toList ds p := hA0
  rw [Tryd.params3] at hA hval
  obtain ⟨v0, vs0, d0, ds0, p0, q0, hargs, rfl, rfl, h0, r0⟩ := trodAll_cons hA
  obtain ⟨v1, vs1, d1, ds1, p1, q1, rfl, rfl, rfl, h1, r1⟩ := trodAll_cons r0
  obtain ⟨v2, vs2, d2, ds2, p2, q2, rfl, rfl, rfl, h2, r2⟩ := trodAll_cons r1
  obtain ⟨rfl, rfl, rfl⟩ := trodAll_nil r2
  obtain rfl : args = #[v0, v1, v2] := by cases args; simp_all
  obtain ⟨rfl, rfl⟩ := trodVars_none hV
  obtain ⟨a0, rfl, rfl, rfl, w0⟩ := open_string Tryd.underlying9 (hval 0 9 v0 rfl rfl) h0
  obtain ⟨a1, rfl, rfl, rfl, w1⟩ := open_int Tryd.underlying21 (hval 1 21 v1 rfl rfl) h1
  obtain ⟨a2, rfl, rfl, rfl, w2⟩ := open_int Tryd.underlying21 (hval 2 21 v2 rfl rfl) h2
  clear hA0 hval0
  simp only [List.append_nil] at hW'
  have hL1 := hL.filter (fun x => x.1 == "internal/strconv.uint64pow10")
  rw [one_laid] at hL1
  have htab : Tab W := Lib.tabIs_of_head gPow gPowType Tryd.underlying70 Tryd.underlying59 cellsU cellsPow hL1
  have e1 : a1 ≤ 2147483647 := by simp [Lit.wf, IntKind.min, IntKind.max, IntKind.signed, IntKind.bits] at w1; omega
  have e2 : a2 ≤ 2147483647 := by simp [Lit.wf, IntKind.min, IntKind.max, IntKind.signed, IntKind.bits] at w2; omega
  refine (FnPosition_any a0 a1 a2 W htab e1 e2).mono fun e W' ⟨he, bel⟩ => ?_
  subst he
  exact ⟨_, rfl, _, _, _, [], [], [], hW', trodAll_mk1 (shut_bool Tryd.underlying4 _), (trodAll_cons_mk (shut_string Tryd.underlying9 w0) (trodAll_cons_mk (shut_int Tryd.underlying21 w1) (trodAll_cons_mk (shut_int Tryd.underlying21 w2) trodAll_mk0))), rfl, bel.frame _, fun h => by cases h⟩

theorem over : Rows.fnPositionRow.holds Tryd.pinned (OpenSpec.ofChange Rows.fnPositionSpec) :=
  OpenClaim.holds_of_wide 3 Tryd.f3 rfl rfl rfl rfl rfl rfl rfl ⟨rfl, rfl, rfl, rfl, rfl⟩ rfl rfl rfl rfl rfl (by kernel_rfl) Tryd.func3 (by kernel_rfl)
    (of_decide_eq_true (by kernel_rfl)) (by unfold Func.isWrapper; first | (rw [if_pos (by decide +kernel)]; kernel_rfl) | (rw [if_neg (by decide +kernel)]; exact ⟨rfl, rfl⟩))
    (fun os started H enc _ => lifted os started H enc)

/-- ████ THE STATEMENT ████ -/
theorem proved : Rows.FnPositionCardSaid :=
  Claim7.holds_tied_plain_at .later [] [.data, .data, .data] true (true, "5c054a479bde8a31930b729d569a86d021238e15a317730238cffecf920093f8") false
    over (fun _ h => by cases h) (by kernel_rfl) (fun _ h => by cases h) fnPosition_row_tie rfl ⟨rfl, rfl⟩ (by kernel_rfl) rfl
    (fun f fn hf hfn => by
      obtain rfl : f = 3 := Option.some.inj ((show Tryd.prog.funcNamed "given.example/pub-larkspur/laws.FnPosition" = some 3 by kernel_rfl).symm.trans hf) |>.symm
      obtain rfl : fn = Tryd.f3 := (Option.some.inj (Tryd.func3.symm.trans hfn)).symm
      exact ⟨by kernel_rfl, fun j t ht => by
        rw [Tryd.params3] at ht
        have h3 : t = 9 ∨ t = 21 := by
          rcases j with _ | _ | _ | j
          · left; simpa using ht.symm
          · right; simpa using ht.symm
          · right; simpa using ht.symm
          · simp at ht
        rcases h3 with rfl | rfl
        · exact (show Tryd.prog.wantsStandIn 9 = false by kernel_rfl)
        · exact (show Tryd.prog.wantsStandIn 21 = false by kernel_rfl)⟩)
    (by kernel_rfl)
#print axioms proved
end Go.Proofs.YtkodcbddlgadaaaDoorR.fnPosition
