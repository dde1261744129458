/- The law FnSliceAsk returns true for every number and every three values, and leaves its arguments as they were. No condition. -/
import Derived.Test.YtdbdpllafknlcaaGreatEl
import Derived.Test.YtdbdpllafknlcaaGreatEm
import Derived.Test.YtdbdpllafknlcaaGreatRows
import Derived.WalkKit
import Derived.ProofKit
import Derived.OpenShut
import Derived.ShutString
import Derived.ChangeOld
import Derived.SizedLaws
import Derived.Below
namespace Go.Proofs.YtdbdpllafknlcaaGreat.fnSliceAsk
open Go.ChangeShapes Go.WideShapes Go.ChangeAt Go.RowKit
set_option linter.unusedVariables false
open Go.ChangeMaps (open_string shut_string)
theorem own : ownKnob Tryz.prog.godebug = none := by kernel_rfl
theorem laidOut : laidOutB Tryz.prog = true := by kernel_rfl
set_option maxRecDepth 100000 in
theorem lifted (os : Os) (started : os.Started) (H : Type) (enc : TypeId × Value → H) :
    ReturnsInHanded {} Tryz.checked os 3 .any (Rows.fnSliceAskSpec.pre6 enc Tryz.prog Tryz.f3 Rows.fnSliceAskRow.domain false) (Rows.fnSliceAskSpec.post enc Tryz.prog Tryz.f3 false true false false) := by
  refine returnsInHanded_of_change_sized (C := Tryz.checked) own started (by kernel_rfl) Tryz.func3
    (ChangeSpec.witness6 (enc := enc) (C := Tryz.checked) false ⟨#[], #[.int .i32 0, .agg #[.int .i64 0, .bool false, .slice none 0 0, .int .u64 0, .string ⟨#[]⟩, .slice none 0 0, .int .i64 0, .bool false, .slice none 0 0, .int .u64 0, .string ⟨#[]⟩, .slice none 0 0, .int .i64 0, .bool false, .slice none 0 0, .int .u64 0, .string ⟨#[]⟩, .slice none 0 0]], []⟩ 8 (by kernel_rfl) (by kernel_rfl) (by kernel_rfl) (by kernel_rfl)) ?_
  intro W base args ds gs before hval0 hW hcnd hsz0 _
  have hval : ∀ (j : Nat) t v, Tryz.f3.params[j]? = some t → args[j]? = some v → Value.okWide Tryz.prog W .any base t v := hval0
  have hsz1 : (DataW.weightsEach Tryz.prog (Tryz.f3.params.toList ++ Rows.fnSliceAskSpec.plain.varTypes Tryz.prog) (ds ++ gs)).all (· ≤ reachBytes) = true := hsz0
  have hW' := hW
  obtain ⟨p, q, hA0, hV, rfl, hfz, hnd⟩ := hW
  have hA : DataW.TrodAll enc Tryz.prog W 0 (fun _ => true) true Tryz.f3.params.toList args.toList ds p := hA0
  rw [Tryz.params3] at hA hval hsz1
  obtain ⟨v0, vs0, d0, ds0, p0, q0, hargs, rfl, rfl, h0, r0⟩ := trodAll_cons hA
  obtain ⟨v1, vs1, d1, ds1, p1, q1, rfl, rfl, rfl, h1, r1⟩ := trodAll_cons r0
  obtain ⟨rfl, rfl, rfl⟩ := trodAll_nil r1
  obtain rfl : args = #[v0, v1] := by cases args; simp_all
  obtain ⟨rfl, rfl⟩ := trodVars_none hV
  obtain ⟨a0, rfl, rfl, rfl, w0⟩ := open_int Tryz.underlying21 (hval 0 21 v0 rfl rfl) h0
  have k1 := h1
  have lt1 : ∀ x ∈ p1, x.block < W.heap.size := by obtain ⟨m, hm⟩ := k1; exact DataW.trod_lt m _ _ _ hm
  obtain ⟨k0', q0', k1', q1', k2', q2', b0, b1, b2, A0, A1, A2, K0, K1, K2, c0, c1, c2, m0, m1, m2, e0, e1, e2, T0, T1, T2, l0, l1, l2, rfl, ⟨z0, d0', s0⟩, ⟨z1, d1', s1⟩, ⟨z2, d2', s2⟩⟩ :=
    parts_of (hval 1 27 v1 rfl rfl) h1 (fun n hn => by
      have := List.all_eq_true.1 hsz1 _ (DataW.weights_mem_each (j := 1) rfl rfl n hn)
      simpa using this)
  clear hA0 hval0 hsz0 hsz1
  refine (FnSliceAsk_any a0 k0' q0' k1' q1' k2' q2' b0 b1 b2 A0 A1 A2 K0 K1 K2 c0 c1 c2 m0 m1 m2 e0 e1 e2 T0 T1 T2 l0 l1 l2 z0 d0' z1 d1' z2 d2' W s0 s1 s2).mono fun e W' ⟨he, bel⟩ => ?_
  subst he
  exact ⟨_, rfl, _, _, _, [], _, [], hW', trodAll_mk1 (shut_bool Tryz.underlying4 _), (trodAll_cons_mk (shut_int Tryz.underlying21 w0) (trodAll_cons_mk (Below.trod laidOut (by kernel_rfl) (of_decide_eq_true (by kernel_rfl)) k1 bel lt1) trodAll_mk0)), rfl, bel.frame _, fun h => by cases h⟩
theorem over : Rows.fnSliceAskRow.holds Tryz.pinned (OpenSpec.ofChange Rows.fnSliceAskSpec) :=
  OpenClaim.holds_of_wide 3 Tryz.f3 rfl rfl rfl rfl rfl rfl rfl ⟨rfl, rfl, rfl, rfl, rfl⟩ rfl rfl rfl rfl rfl (by kernel_rfl) Tryz.func3 (by kernel_rfl)
    (of_decide_eq_true (by kernel_rfl)) (by unfold Func.isWrapper; first | (rw [if_pos (by decide +kernel)]; kernel_rfl) | (rw [if_neg (by decide +kernel)]; exact ⟨rfl, rfl⟩))
    (fun os started H enc _ => lifted os started H enc)
/-- THE STATEMENT -/
theorem proved : Rows.FnSliceAskSaid := over
#print axioms proved
end Go.Proofs.YtdbdpllafknlcaaGreat.fnSliceAsk
