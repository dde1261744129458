/- The law of the float nearest to an integer. -/
import Derived.Test.YtnheiigdgklbcaaFH
import Derived.Deep.RegionHeld3
import Derived.Laws.BitsAllLaws
namespace Go.Proofs.Ytnheiigdgklbcaa
open Go.ChangeShapes Go.WideShapes Go.ChangeAt Go.RowKit
set_option linter.unusedVariables false
set_option maxRecDepth 100000 in
theorem IntFloat_any (v : Value) (z : Int) (hz : z.natAbs < 256 ^ 200) (w : World) (hv : VI w v z) :
    Calls Try.prog 5 #[v] w fun e w' => e = .returned (.int .u64 ((FL (decide (z < 0)) z.natAbs : Nat) : Int)) ∧ Kept w w' := by
  have hv0 := hv
  obtain ⟨A, c, l, rfl, hs, hl⟩ := hv
  have hk0 : Kept w (w.alloc (.cells #[.int .i64 2, .bool (decide (z < 0)), .slice A l.length c, .int .u64 0, .string ⟨#[]⟩, .slice none 0 0] 28)) := by go_grown
  have HB1 := Lib.hid (Blk.new w 28 #[.int .i64 2, .bool (decide (z < 0)), .slice A l.length c, .int .u64 0, .string ⟨#[]⟩, .slice none 0 0])
  have HV := Lib.hid (hv0.below hk0)
  have HK0 := Lib.hid hk0
  have CW := Lib.hid (fun W hW => whole_any (.agg #[.int .i64 2, .bool (decide (z < 0)), .slice A l.length c, .int .u64 0, .string ⟨#[]⟩, .slice none 0 0]) z (cap_200 hz) W hW)
  have CF := Lib.hid (fun v W hW => Float_any v z hz W hW)
  generalize FL (decide (z < 0)) z.natAbs = fl at *
  clear hv0 hs hl hz hk0
  go_enter Try.func5, Try.ntmps5
  go_wp2_with (refine wpList_load_row rfl 28 (.tmp 1) rfl w.heap.size rfl _ _ (0, 0) _ HB1.out Try.underlying28 rfl (by exact info_Val) ?_)
  refine (CW.out _ HV.out).mono ?_
  rintro e w1 ⟨v1, rfl, hv1, hk1⟩
  have HV1 := Lib.hid hv1.toStI
  have HK1 := Lib.hid (HK0.out.trans hk1)
  clear hv1 hk1
  go_wp2_with fail
  refine (CF.out v1 _ HV1.out).mono ?_
  rintro e w2 ⟨rfl, hk2⟩
  go_wp2_with fail
  refine (bitsOf_any fl _).mono ?_
  rintro e w3 ⟨rfl, rfl⟩
  go_wp2_with fail
  go_ret
  exact ⟨rfl, HK1.out.trans hk2⟩
theorem zof_lt (b : Bool) (l : List Nat) (most : Nat) (hd : ∀ d ∈ l, d < 256) : (zof b l most).natAbs < 256 ^ most := by
  have h1 := Num.le_lt 256 (by omega) (l.take (min l.length most)).reverse (fun d h => hd d (List.mem_of_mem_take (List.mem_reverse.1 h)))
  have h0 : (l.take (min l.length most)).reverse.length ≤ most := by
    rw [List.length_reverse, List.length_take]
    omega
  have h2 : 256 ^ (l.take (min l.length most)).reverse.length ≤ 256 ^ most := Nat.pow_le_pow_right (by omega) h0
  have h3 : (zof b l most).natAbs = Num.le 256 (l.take (min l.length most)).reverse := by unfold zof sgn; split <;> simp
  rw [h3]
  omega
set_option maxRecDepth 100000 in
set_option maxHeartbeats 1000000 in
theorem FnIntFloat_any (b : Bool) (A : Option Addr) (c : Nat) (l : List Nat) (hd : ∀ d ∈ l, d < 256) (w : World) (hs : Sl w A c (by8 l)) :
    Calls Try.prog 3 #[.bool b, .slice A l.length c] w fun e w' => e = .returned (.bool true) ∧ Kept w w' := by
  have HS := Lib.hid hs
  have HD := Lib.hid hd
  clear hs hd
  by_cases hl : l.length ≤ 2147483647
  · have hl' : ¬ (2147483647 : Int) < (l.length : Int) := by omega
    have CW := Lib.hid (whole2_any b A c l 200 hl (by omega) HD.out w HS.out)
    have hzl := zof_lt b l 200 HD.out
    clear hl
    go_enter Try.func3, Try.ntmps3
    go_wp2_with fail
    refine CW.out.mono ?_
    generalize zof b l 200 = z at *
    rintro e w1 ⟨v1, v2, rfl, hv1, hv2, hk1⟩
    have HX := Lib.hid hv1.toSI
    obtain ⟨f, XX, n, e', rfl⟩ := hv1.two
    obtain ⟨P, d, m, rfl, q⟩ := hv2
    have HV : Hid (VI w1 (.agg #[.int .i64 2, .bool (decide (z < 0)), .slice P m.length d, .int .u64 0, .string ⟨#[]⟩, .slice none 0 0]) z) := Lib.hid ⟨P, d, m, rfl, q.1, q.2.1⟩
    have CI := Lib.hid (fun W hW => IntFloat_any (.agg #[.int .i64 2, .bool (decide (z < 0)), .slice P m.length d, .int .u64 0, .string ⟨#[]⟩, .slice none 0 0]) z hzl W hW)
    have CN := Lib.hid (fun W hW => Nearest_any f XX n e' z hzl W hW)
    clear q hv1 hzl CW
    generalize FL (decide (z < 0)) z.natAbs = fl at *
    have hbits := fun W => run_bits fl W
    go_wp2_with fail
    have kk : Kept w1 ((w1.alloc (.cells #[.bool f, .slice XX n e'] 24)).alloc (.cells #[.int .i64 2, .bool (decide (z < 0)), .slice P m.length d, .int .u64 0, .string ⟨#[]⟩, .slice none 0 0] 28)) := by go_grown
    have hpx : Blk ((w1.alloc (.cells #[.bool f, .slice XX n e'] 24)).alloc (.cells #[.int .i64 2, .bool (decide (z < 0)), .slice P m.length d, .int .u64 0, .string ⟨#[]⟩, .slice none 0 0] 28)) w1.heap.size 24 #[.bool f, .slice XX n e'] := (Blk.new w1 _ _).below ((Below.refl _ _).alloc (Nat.le_refl _) _)
    have hpv : Blk ((w1.alloc (.cells #[.bool f, .slice XX n e'] 24)).alloc (.cells #[.int .i64 2, .bool (decide (z < 0)), .slice P m.length d, .int .u64 0, .string ⟨#[]⟩, .slice none 0 0] 28)) (w1.heap.size + 1) 28 #[.int .i64 2, .bool (decide (z < 0)), .slice P m.length d, .int .u64 0, .string ⟨#[]⟩, .slice none 0 0] := by
      have := Blk.new (w1.alloc (.cells #[.bool f, .slice XX n e'] 24)) 28 #[.int .i64 2, .bool (decide (z < 0)), .slice P m.length d, .int .u64 0, .string ⟨#[]⟩, .slice none 0 0]
      rwa [World.size_alloc] at this
    generalize ((w1.alloc (.cells #[.bool f, .slice XX n e'] 24)).alloc (.cells #[.int .i64 2, .bool (decide (z < 0)), .slice P m.length d, .int .u64 0, .string ⟨#[]⟩, .slice none 0 0] 28)) = W at *
    have HPX := Lib.hid hpx
    have HPV := Lib.hid hpv
    have HKK : Hid (Kept w W) := Lib.hid (hk1.trans kk)
    have HVa := Lib.hid (HV.out.below kk)
    have HXa := Lib.hid (HX.out.below kk)
    have hK0 : Kept W W.drew := by go_grown
    clear hk1 kk hpx hpv
    refine wp_region_lastL _ _ _ (by simp only [List.dropLast]; rfl) (by simp only [List.getLast?_cons_cons, List.getLast?_singleton]; rfl) (fun X : World => Kept W X) (by kernel_rfl) (by kernel_rfl) (hK0) (fun hHeld => ?_)
    generalize W.drew = wd at *
    clear hHeld
    refine wpAnyH_take (i := 0) (oi := ?o0x0) (v := (.agg #[.int .i64 2, .bool (decide (z < 0)), .slice P m.length d, .int .u64 0, .string ⟨#[]⟩, .slice none 0 0])) ?hi0x0 (by kernel_rfl) (by kernel_rfl) (by kernel_rfl) ?hQ0x0 ?hy0x0 hK0 ?rest0x0
    case hi0x0 => (simp only [List.getElem?_toArray, List.getElem?_cons_zero]; rfl)
    case hQ0x0 => exact fun _ _ _ h => h
    case hy0x0 => exact yields_row (by rfl) 28 (.tmp 6) (by rfl) (w1.heap.size + 1) (by rfl) _ _ _ (fun X hX => HPV.out.below hX) Try.underlying28 (by rfl) info_Val
    try simp only [Act.put, List.setIfInBounds_toArray, List.set_cons_zero, List.set_cons_succ]
    refine wpAnyH_take (i := 2) (oi := ?o2x1) (v := (.agg #[.bool f, .slice XX n e'])) ?hi2x1 (by kernel_rfl) (by kernel_rfl) (by kernel_rfl) ?hQ2x1 ?hy2x1 hK0 ?rest2x1
    case hi2x1 => (simp only [List.getElem?_toArray, List.getElem?_cons_succ, List.getElem?_cons_zero]; rfl)
    case hQ2x1 => exact fun _ _ _ h => h
    case hy2x1 => exact yields_row (by rfl) 24 (.tmp 5) (by rfl) w1.heap.size (by rfl) _ _ _ (fun X hX => HPX.out.below hX) Try.underlying24 (by rfl) info_SI
    try simp only [Act.put, List.setIfInBounds_toArray, List.set_cons_zero, List.set_cons_succ]
    refine wpAnyH_ready (rs := [1]) (by kernel_rfl) (by simp) ?_
    refine (AllReadyH.cons rfl (fun K hK => ?_) AllReadyH.nil)
    go_simp
    (with_reducible refine Calls.mono (CI.out _ (HVa.out.below hK0)) ?_)
    rintro e w3 ⟨rfl, hk3⟩
    have hK3 : Kept W w3 := hK0.trans hk3
    refine hK.out _ _ ?_ (fun hHeld => ?_)
    · (exact hK3)
    clear hK K
    try simp only [Act.put, List.setIfInBounds_toArray, List.set_cons_zero, List.set_cons_succ]
    refine wpAnyH_ready (rs := [3]) (by kernel_rfl) (by simp) ?_
    refine (AllReadyH.cons rfl (fun K hK => ?_) AllReadyH.nil)
    go_simp
    (with_reducible refine Calls.mono (CN.out _ (HXa.out.below hK3)) ?_)
    rintro e w4 ⟨rfl, hk4⟩
    have hK4 : Kept W w4 := hK3.trans hk4
    refine hK.out _ _ ?_ (fun hHeld => ?_)
    · (exact hK4)
    clear hK K
    try simp only [Act.put, List.setIfInBounds_toArray, List.set_cons_zero, List.set_cons_succ]
    refine wpAnyH_take (i := 4) (oi := ?o4x2) (v := ?v4x2) ?hi4x2 (by kernel_rfl) (by kernel_rfl) (by kernel_rfl) ?hQ4x2 ?hy4x2 hK4 ?rest4x2
    case hi4x2 => (simp only [List.getElem?_toArray, List.getElem?_cons_succ, List.getElem?_cons_zero]; rfl)
    case hQ4x2 => exact fun _ _ _ h => h
    case hy4x2 => (refine Or.inl ⟨by rfl, ?_⟩; intro W hSw; (try dsimp only at hSw); go_simp; (try with_reducible rfl))
    try simp only [Act.put, List.setIfInBounds_toArray, List.set_cons_zero, List.set_cons_succ]
    refine wpAnyH_take (i := 5) (oi := ?o5x3) (v := ?v5x3) ?hi5x3 (by kernel_rfl) (by kernel_rfl) (by kernel_rfl) ?hQ5x3 ?hy5x3 hK4 ?rest5x3
    case hi5x3 => (simp only [List.getElem?_toArray, List.getElem?_cons_succ, List.getElem?_cons_zero]; rfl)
    case hQ5x3 => exact fun _ _ _ h => h
    case hy5x3 => (refine Or.inl ⟨by rfl, ?_⟩; intro W hSw; (try dsimp only at hSw); go_simp; (try with_reducible rfl))
    try simp only [Act.put, List.setIfInBounds_toArray, List.set_cons_zero, List.set_cons_succ]
    refine wpAnyH_done (by kernel_rfl) ?_ _
    simp only [lastQ]
    go_wp2_with fail
    go_ret
    exact ⟨rfl, HKK.out.trans hK4⟩
  · have hl' : (2147483647 : Int) < (l.length : Int) := by omega
    go_enter Try.func3, Try.ntmps3
    go_wp2_with fail
    go_ret
    exact ⟨rfl, Below.refl _ _⟩
end Go.Proofs.Ytnheiigdgklbcaa
