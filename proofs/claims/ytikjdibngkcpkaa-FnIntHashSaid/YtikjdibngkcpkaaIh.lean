/- The law of the hash walked. -/
import Derived.Test.YtikjdibngkcpkaaId
namespace Go.Proofs.Ytikjdibngkcpkaa
open Go.ChangeShapes Go.WideShapes Go.ChangeAt Go.RowKit
set_option linter.unusedVariables false
set_option maxRecDepth 100000 in
theorem FnIntHash_any (b : Bool) (A : Option Addr) (c : Nat) (l : List Nat) (hd : ∀ d ∈ l, d < 256) (w : World) (hs : Sl w A c (by8 l)) :
    Calls Try.prog 3 #[.bool b, .slice A l.length c] w fun e w' => e = .returned (.bool true) ∧ Kept w w' := by
  have HS := Lib.hid hs
  have HD := Lib.hid hd
  clear hs hd
  by_cases hl : l.length ≤ 2147483647
  · have hl' : ¬ (2147483647 : Int) < (l.length : Int) := by omega
    go_enter Try.func3, Try.ntmps3
    go_wp2_with fail
    refine (whole2_any b A c l 400 hl (by omega) HD.out w HS.out).mono ?_
    have hzc := zof_cap b l 400 HD.out (by omega)
    generalize zof b l 400 = z at *
    rintro e w1 ⟨v1, v2, rfl, hv1, hv2, hk1⟩
    obtain ⟨b1, A1, n1, c1, rfl⟩ := hv1.two
    obtain ⟨A2, c2, l2, rfl, q⟩ := hv2
    have HV : Hid (VI w1 (.agg #[.int .i64 2, .bool (decide (z < 0)), .slice A2 l2.length c2, .int .u64 0, .string ⟨#[]⟩, .slice none 0 0]) z) := Lib.hid ⟨A2, c2, l2, rfl, q.1, q.2.1⟩
    clear q hv1
    go_wp2_with fail
    have hk2 := (hk1.alloc hk1.size (.cells #[.bool b1, .slice A1 n1 c1] 24)).alloc (Nat.le_trans hk1.size (by simp)) (.cells #[.int .i64 2, .bool (decide (z < 0)), .slice A2 l2.length c2, .int .u64 0, .string ⟨#[]⟩, .slice none 0 0] 28)
    have HV2 := Lib.hid (HV.out.below (((Below.refl _ _).alloc (Nat.le_refl _) (.cells #[.bool b1, .slice A1 n1 c1] 24)).alloc (by simp) (.cells #[.int .i64 2, .bool (decide (z < 0)), .slice A2 l2.length c2, .int .u64 0, .string ⟨#[]⟩, .slice none 0 0] 28)))
    have hp : ((w1.alloc (.cells #[.bool b1, .slice A1 n1 c1] 24)).alloc (.cells #[.int .i64 2, .bool (decide (z < 0)), .slice A2 l2.length c2, .int .u64 0, .string ⟨#[]⟩, .slice none 0 0] 28)).heap[w1.heap.size + 1]? = some (.cells #[.int .i64 2, .bool (decide (z < 0)), .slice A2 l2.length c2, .int .u64 0, .string ⟨#[]⟩, .slice none 0 0] 28 (0, 0)) := by
      have := heap_alloc_new (w1.alloc (.cells #[.bool b1, .slice A1 n1 c1] 24)) (.cells #[.int .i64 2, .bool (decide (z < 0)), .slice A2 l2.length c2, .int .u64 0, .string ⟨#[]⟩, .slice none 0 0] 28)
      rwa [World.size_alloc] at this
    generalize ((w1.alloc (.cells #[.bool b1, .slice A1 n1 c1] 24)).alloc (.cells #[.int .i64 2, .bool (decide (z < 0)), .slice A2 l2.length c2, .int .u64 0, .string ⟨#[]⟩, .slice none 0 0] 28)) = W at *
    refine (IntHash_any _ z hzc W HV2.out).mono ?_
    rintro e w2 ⟨rfl, hk3⟩
    have HP : Hid (w2.heap[w1.heap.size + 1]? = some (.cells #[.int .i64 2, .bool (decide (z < 0)), .slice A2 l2.length c2, .int .u64 0, .string ⟨#[]⟩, .slice none 0 0] 28 (0, 0))) := Lib.hid ((hk3.block _ (block_lt hp)).trans hp)
    have HV3 := Lib.hid (HV2.out.below hk3)
    have hk4 := hk2.trans (hk3.mono hk2.size)
    generalize hH : Hsh z = H
    have HH := Lib.hid hH
    clear hH hk3 hp
    go_wp2_with (refine wpList_load_row rfl 28 (.tmp 6) rfl (w1.heap.size + 1) rfl _ _ (0, 0) _ HP.out Try.underlying28 rfl (by exact info_Val) ?_)
    refine (IntHash_any _ z hzc w2 HV3.out).mono ?_
    rintro e w3 ⟨rfl, hk5⟩
    rw [HH.out]
    go_wp2_with fail
    go_ret
    exact ⟨rfl, hk4.trans (hk5.mono hk4.size)⟩
  · have hl' : (2147483647 : Int) < (l.length : Int) := by omega
    go_enter Try.func3, Try.ntmps3
    go_wp2_with fail
    go_ret
    exact ⟨rfl, Below.refl _ _⟩
end Go.Proofs.Ytikjdibngkcpkaa
