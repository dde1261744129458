/- The law FnTextLines returns true for every text and every truth, and leaves them as they were; a card that ties the two tables of the package of letters to the text. (The card speaks of the pruned copy.) -/
import Derived.Below
import Derived.RowKit
import Derived.ChangeVars
import Derived.LaidSub
import Derived.SevenTiedAt
import Derived.LaidLaws
import Derived.Test.YtcamjefacbaniaaGreatDoorTie
import Derived.Test.YtcamjefacbaniaaGreatDoorCards
import Derived.Test.YtcamjefacbaniaaGreatDoorLk
import Derived.Test.YtcamjefacbaniaaGreatDoorRows
import Derived.WalkKit
import Derived.ProofKit
import Derived.OpenShut
import Derived.ShutString
namespace Go.Proofs.YtcamjefacbaniaaGreatDoor.fnTextLines
open Go.ChangeShapes Go.WideShapes Go.ChangeAt Go.RowKit
open Go.ChangeMaps (open_string shut_string)
set_option linter.unusedVariables false

theorem own : ownKnob Tryz.prog.godebug = none := by kernel_rfl

/-- a table's cells as its row lists it -/
def litOf : DataW Unit → Value
  | .lit l => l.value
  | _ => undef
def litsOf : DataW Unit → List Value
  | .lit l => [l.value]
  | .agg ds => ds.map litOf
  | _ => []
def cellsOf : DataW Unit → Array Value
  | .agg ds => (ds.flatMap litsOf).toArray
  | _ => #[]
def lay (d : DataW Unit) : Obj → Obj
  | .cells _ t fr => .cells (cellsOf d) t fr
  | o => o
/-- the settled world, the two tables holding what their initialisers lay: the witness -/
noncomputable def laidWorld (os : Os) : World :=
  { World.holding Tryz.prog os ⟨#[], #[], []⟩ with heap := ((World.holding Tryz.prog os ⟨#[], #[], []⟩).heap.modify 1 (lay Rows.laid_unicode_utf8_first)).modify 2 (lay Rows.laid_unicode_utf8_acceptRanges) }
theorem laid_met (os : Os) (args : Array Value) : laidMet Tryz.prog Rows.fnTextLinesRow.laid ((laidWorld os).forCall (fun _ _ => 0) ⟨#[], args, []⟩).memory :=
  laidMet_of_run' 8 (by kernel_rfl) (by kernel_rfl)

/-! ### THE ROW's STEP: WRITTEN OUT: LEAVE IT -/
set_option maxRecDepth 100000 in
theorem lifted (os : Os) (started : os.Started) (H : Type) (enc : TypeId × Value → H) :
    ReturnsInHanded {} Tryz.checked os 3 .any (fun w args => (Rows.fnTextLinesSpec.pre enc Tryz.prog Tryz.f3 Rows.fnTextLinesRow.domain false w args ∧ laidMet Tryz.prog Rows.fnTextLinesRow.laid w) ∧ sizedMet enc Tryz.prog Tryz.f3 (OpenSpec.ofChange Rows.fnTextLinesSpec) false w args) (Rows.fnTextLinesSpec.post enc Tryz.prog Tryz.f3 false true false false) := by
  refine returnsInHanded_of_change_and (C := Tryz.checked) (X := fun w _ => laidMet Tryz.prog Rows.fnTextLinesRow.laid w) (fun _ _ _ hh h => h.of_heap hh) own started (by kernel_rfl) Tryz.func3
    (ChangeSpec.witness_at (enc := enc) (C := Tryz.checked) (os := os) (X := fun w _ => laidMet Tryz.prog Rows.fnTextLinesRow.laid w) false (laidWorld os) #[.string ByteArray.empty, .bool false] 8 rfl (by kernel_rfl) (by kernel_rfl) (by kernel_rfl) (by kernel_rfl) (by kernel_rfl)
      (laid_met os _)) ?_
  intro W base args ds gs before hval0 hW hcnd _ hL _
  have hval : ∀ (j : Nat) t v, Tryz.f3.params[j]? = some t → args[j]? = some v → Value.okWide Tryz.prog W .any base t v := hval0
  have hW' := hW
  obtain ⟨p, q, hA0, hV, rfl, hfz, hnd⟩ := hW
  have hA : DataW.TrodAll enc Tryz.prog W 0 (fun _ => true) true Tryz.f3.params.toList args.toList ds p := hA0
  rw [Tryz.params3] at hA hval
  obtain ⟨v0, vs0, d0, ds0, p0, q0, hargs, rfl, rfl, h0, r0⟩ := trodAll_cons hA
  obtain ⟨v1, vs1, d1, ds1, p1, q1, rfl, rfl, rfl, h1, r1⟩ := trodAll_cons r0
  obtain ⟨rfl, rfl, rfl⟩ := trodAll_nil r1
  obtain rfl : args = #[v0, v1] := by cases args; simp_all
  obtain ⟨rfl, rfl⟩ := trodVars_none hV
  obtain ⟨a0, rfl, rfl, rfl, w0⟩ := open_string Tryz.underlying9 (hval 0 9 v0 rfl rfl) h0
  obtain ⟨a1, rfl, rfl, rfl⟩ := open_bool Tryz.underlying4 (hval 1 4 v1 rfl rfl) h1
  clear hA0 hval0
  simp only [List.append_nil] at hW'
  refine (FnTextLines_any a0 a1 W).mono fun e W' ⟨he, bel⟩ => ?_
  subst he
  exact ⟨_, rfl, _, _, _, [], [], [], hW', trodAll_mk1 (shut_bool Tryz.underlying4 _), (trodAll_cons_mk (shut_string Tryz.underlying9 w0) (trodAll_cons_mk (shut_bool Tryz.underlying4 _) trodAll_mk0)), rfl, bel.frame _, fun h => by cases h⟩

theorem over : Rows.fnTextLinesRow.holds Tryz.pinned (OpenSpec.ofChange Rows.fnTextLinesSpec) :=
  OpenClaim.holds_of_wide 3 Tryz.f3 rfl rfl rfl rfl rfl rfl rfl ⟨rfl, rfl, rfl, rfl, rfl⟩ rfl rfl rfl rfl rfl (by kernel_rfl) Tryz.func3 (by kernel_rfl)
    (of_decide_eq_true (by kernel_rfl)) (by unfold Func.isWrapper; first | (rw [if_pos (by decide +kernel)]; kernel_rfl) | (rw [if_neg (by decide +kernel)]; exact ⟨rfl, rfl⟩))
    (fun os started H enc _ => lifted os started H enc)

/-- ████ THE STATEMENT ████ -/
theorem proved : Rows.FnTextLinesCardSaid :=
  Claim7.holds_tied_plain_at .later [] [.data, .pinned] true (true, "98a3c57f609957b33b991b0db8b1eceef78b1645a7b48ce382faa72b2841ba38") true
    over (fun _ h => by cases h) (by kernel_rfl) (fun _ h => by cases h) fnTextLines_row_tie rfl ⟨rfl, rfl⟩ (by kernel_rfl) rfl
    (fun f fn hf hfn => by
      obtain rfl : f = 3 := Option.some.inj ((show Tryz.prog.funcNamed "given.example/pub-larkspur/laws.FnTextLines" = some 3 by kernel_rfl).symm.trans hf) |>.symm
      obtain rfl : fn = Tryz.f3 := (Option.some.inj (Tryz.func3.symm.trans hfn)).symm
      exact ⟨by kernel_rfl, fun j t ht => by
        rw [Tryz.params3] at ht
        have h3 : t = 4 ∨ t = 9 := by
          rcases j with _ | _ | j
          · have e : t = 9 := by simpa using ht.symm
            subst e; simp
          · have e : t = 4 := by simpa using ht.symm
            subst e; simp
          · simp at ht
        rcases h3 with rfl | rfl
        · exact (show Tryz.prog.wantsStandIn 4 = false by kernel_rfl)
        · exact (show Tryz.prog.wantsStandIn 9 = false by kernel_rfl)⟩)
    (by kernel_rfl)
#print axioms proved
end Go.Proofs.YtcamjefacbaniaaGreatDoor.fnTextLines
