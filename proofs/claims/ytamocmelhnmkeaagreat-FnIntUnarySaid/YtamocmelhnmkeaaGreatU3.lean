/- The unary operators of integers: the law. -/
import Derived.Test.YtamocmelhnmkeaaGreatU2
import Derived.Test.YtamocmelhnmkeaaGreatSn
namespace Go.Proofs.YtamocmelhnmkeaaGreat
open Go.ChangeShapes Go.WideShapes Go.ChangeAt Go.RowKit
set_option linter.unusedVariables false
/-- a whole struct is loaded, where a guard lets it -/
theorem yields_row_g {P : Program} {ops : Array Oper} {S : World → Prop} {o : Oper} {a : Act} (hw : Region.wanted o (yielded ops a.tmps) = true) (ty : TypeId) (x : Operand) (ho : o.op = .load ty x)
    (g : Nat) (hx : a.eval x = .pointer (some ⟨g, 0, none⟩)) (t : TypeId) (cs : Array Value) (d : TypeDesc) (hg : ∀ w, S w → Blk w g t cs)
    (hu : P.underlying ty = some d) (hd : (match d with | .struct _ | .array _ _ => true | _ => false) = true) (hi : (P.info? ty).map (·.size) = some cs.size) : YieldsIf P ops S o (.agg cs) a := by
  refine Or.inl ⟨hw, fun w hS => ?_⟩
  unfold execOp
  simp only [ho, hx, Instr.loadAt, Instr.sureAddr, Sem.run_bind, Sem.run_pure, Result.andThen_ok, run_loadVar_row w g t ty cs (0, 0) d (hg w hS) hu hd hi]
theorem un_cap {z : Int} {k : Nat} (hk : k < Num.capK) (h : z.natAbs < 256 ^ k) : z.natAbs + 1 < Num.Cap := by
  have h1 : 256 ^ k < Num.Cap := Nat.pow_lt_pow_right (by decide) hk
  generalize 256 ^ k = a at *
  generalize Num.Cap = b at *
  omega
theorem zof_lt (b : Bool) (l : List Nat) (most : Nat) (hd : ∀ d ∈ l, d < 256) : (zof b l most).natAbs < 256 ^ most := by
  have h1 := Num.le_lt 256 (by omega) (l.take (min l.length most)).reverse (fun d h => hd d (List.mem_of_mem_take (List.mem_reverse.1 h)))
  have h0 : (l.take (min l.length most)).reverse.length ≤ most := by
    rw [List.length_reverse, List.length_take]
    omega
  have h2 : 256 ^ (l.take (min l.length most)).reverse.length ≤ 256 ^ most := Nat.pow_le_pow_right (by omega) h0
  have h3 : (zof b l most).natAbs = Num.le 256 (l.take (min l.length most)).reverse := by unfold zof sgn; split <;> simp
  rw [h3]
  omega
set_option maxRecDepth 100000 in
set_option maxHeartbeats 4000000 in
theorem FnIntUnary_any (b : Bool) (A : Option Addr) (c : Nat) (l : List Nat) (hd : ∀ d ∈ l, d < 256) (w : World) (hs : Sl w A c (by8 l)) :
    Calls Tryz.prog 3 #[.bool b, .slice A l.length c] w fun e w' => e = .returned (.bool true) ∧ Kept w w' := by
  have HS := Lib.hid hs
  have HD := Lib.hid hd
  clear hs hd
  by_cases hl : l.length ≤ 2147483647
  · have hl' : ¬ (2147483647 : Int) < (l.length : Int) := by omega
    go_enter Tryz.func3, Tryz.ntmps3
    go_wp2_with fail
    refine (whole2_any b A c l 400 hl (by omega) HD.out w HS.out).mono ?_
    have hzc := zof_cap b l 400 HD.out (by omega)
    have hz1 := un_cap (show 400 < Num.capK by unfold Num.capK; decide) (zof_lt b l 400 HD.out)
    generalize zof b l 400 = z at *
    rintro e w1 ⟨v1, v2, rfl, hv1, hv2, hk1⟩
    have HX := Lib.hid hv1.toSI
    obtain ⟨f, XX, n, e', rfl⟩ := hv1.two
    obtain ⟨P1, d1, m1, rfl, q⟩ := hv2
    have HV : Hid (VI w1 (.agg #[.int .i64 2, .bool (decide (z < 0)), .slice P1 m1.length d1, .int .u64 0, .string ⟨#[]⟩, .slice none 0 0]) z) := Lib.hid ⟨P1, d1, m1, rfl, q.1, q.2.1⟩
    have HZC := Lib.hid hzc
    have HZ1 := Lib.hid hz1
    clear q hv1 hzc hz1
    go_wp2_with fail
    have kk : Kept w1 ((w1.alloc (.cells #[.bool f, .slice XX n e'] 24)).alloc (.cells #[.int .i64 2, .bool (decide (z < 0)), .slice P1 m1.length d1, .int .u64 0, .string ⟨#[]⟩, .slice none 0 0] 28)) := by go_grown
    have hpx : Blk ((w1.alloc (.cells #[.bool f, .slice XX n e'] 24)).alloc (.cells #[.int .i64 2, .bool (decide (z < 0)), .slice P1 m1.length d1, .int .u64 0, .string ⟨#[]⟩, .slice none 0 0] 28)) w1.heap.size 24 #[.bool f, .slice XX n e'] := (Blk.new w1 _ _).below ((Below.refl _ _).alloc (Nat.le_refl _) _)
    have hpv : Blk ((w1.alloc (.cells #[.bool f, .slice XX n e'] 24)).alloc (.cells #[.int .i64 2, .bool (decide (z < 0)), .slice P1 m1.length d1, .int .u64 0, .string ⟨#[]⟩, .slice none 0 0] 28)) (w1.heap.size + 1) 28 #[.int .i64 2, .bool (decide (z < 0)), .slice P1 m1.length d1, .int .u64 0, .string ⟨#[]⟩, .slice none 0 0] := by
      have := Blk.new (w1.alloc (.cells #[.bool f, .slice XX n e'] 24)) 28 #[.int .i64 2, .bool (decide (z < 0)), .slice P1 m1.length d1, .int .u64 0, .string ⟨#[]⟩, .slice none 0 0]
      rwa [World.size_alloc] at this
    generalize ((w1.alloc (.cells #[.bool f, .slice XX n e'] 24)).alloc (.cells #[.int .i64 2, .bool (decide (z < 0)), .slice P1 m1.length d1, .int .u64 0, .string ⟨#[]⟩, .slice none 0 0] 28)) = W1 at *
    have HPX := Lib.hid hpx
    have HPV := Lib.hid hpv
    have HKK1 : Hid (Kept w W1) := Lib.hid (hk1.trans kk)
    have HVa := Lib.hid (HV.out.below kk)
    have HXa := Lib.hid (HX.out.below kk)
    clear hk1 kk hpx hpv HV HX
    refine (IntUnary_Pos _ z HZ1.out W1 HVa.out).mono ?_
    rintro e w2 ⟨v2, rfl, hv, hk⟩
    obtain ⟨P2, d2, m2, rfl, q⟩ := hv
    have HW2 : VI w2 (.agg #[.int .i64 2, .bool (decide (z < 0)), .slice P2 m2.length d2, .int .u64 0, .string ⟨#[]⟩, .slice none 0 0]) (z) := ⟨P2, d2, m2, rfl, q.1, q.2.1⟩
    have ha : Kept w2 (w2.alloc (.cells #[.int .i64 2, .bool (decide (z < 0)), .slice P2 m2.length d2, .int .u64 0, .string ⟨#[]⟩, .slice none 0 0] 28)) := (Below.refl _ _).alloc (Nat.le_refl _) _
    have HU2 : Hid (VI (w2.alloc (.cells #[.int .i64 2, .bool (decide (z < 0)), .slice P2 m2.length d2, .int .u64 0, .string ⟨#[]⟩, .slice none 0 0] 28)) (.agg #[.int .i64 2, .bool (decide (z < 0)), .slice P2 m2.length d2, .int .u64 0, .string ⟨#[]⟩, .slice none 0 0]) (z)) := Lib.hid (HW2.below ha)
    have hb := Blk.new w2 28 #[.int .i64 2, .bool (decide (z < 0)), .slice P2 m2.length d2, .int .u64 0, .string ⟨#[]⟩, .slice none 0 0]
    have hkk := hk.trans ha
    have HPX := Lib.hid (HPX.out.below hkk)
    have HPV := Lib.hid (HPV.out.below hkk)
    have HVa := Lib.hid (HVa.out.below hkk)
    have HXa := Lib.hid (HXa.out.below hkk)
    have HKK1 := Lib.hid (HKK1.out.trans hkk)
    have HB2 := Lib.hid hb
    clear q hk ha hb hkk HW2
    go_wp2_with (refine wpList_load_row rfl 28 (.tmp 6) rfl (w1.heap.size + 1) rfl _ _ (0, 0) _ HPV.out Tryz.underlying28 rfl (by exact info_Val) ?_)
    generalize (w2.alloc (.cells #[.int .i64 2, .bool (decide (z < 0)), .slice P2 m2.length d2, .int .u64 0, .string ⟨#[]⟩, .slice none 0 0] 28)) = W2 at *
    refine (IntUnary_Neg _ z HZ1.out W2 HVa.out).mono ?_
    rintro e w3 ⟨v3, rfl, hv, hk⟩
    obtain ⟨P3, d3, m3, rfl, q⟩ := hv
    have HW3 : VI w3 (.agg #[.int .i64 2, .bool (decide (-z < 0)), .slice P3 m3.length d3, .int .u64 0, .string ⟨#[]⟩, .slice none 0 0]) (-z) := ⟨P3, d3, m3, rfl, q.1, q.2.1⟩
    generalize decide (-z < 0) = bb3 at *
    have ha : Kept w3 (w3.alloc (.cells #[.int .i64 2, .bool bb3, .slice P3 m3.length d3, .int .u64 0, .string ⟨#[]⟩, .slice none 0 0] 28)) := (Below.refl _ _).alloc (Nat.le_refl _) _
    have HU3 : Hid (VI (w3.alloc (.cells #[.int .i64 2, .bool bb3, .slice P3 m3.length d3, .int .u64 0, .string ⟨#[]⟩, .slice none 0 0] 28)) (.agg #[.int .i64 2, .bool bb3, .slice P3 m3.length d3, .int .u64 0, .string ⟨#[]⟩, .slice none 0 0]) (-z)) := Lib.hid (HW3.below ha)
    have hb := Blk.new w3 28 #[.int .i64 2, .bool bb3, .slice P3 m3.length d3, .int .u64 0, .string ⟨#[]⟩, .slice none 0 0]
    have hkk := hk.trans ha
    have HPX := Lib.hid (HPX.out.below hkk)
    have HPV := Lib.hid (HPV.out.below hkk)
    have HVa := Lib.hid (HVa.out.below hkk)
    have HXa := Lib.hid (HXa.out.below hkk)
    have HKK1 := Lib.hid (HKK1.out.trans hkk)
    have HB3 := Lib.hid hb
    have HU2 := Lib.hid (HU2.out.below hkk)
    have HB2 := Lib.hid (HB2.out.below hkk)
    clear q hk ha hb hkk HW3
    go_wp2_with (refine wpList_load_row rfl 28 (.tmp 6) rfl (w1.heap.size + 1) rfl _ _ (0, 0) _ HPV.out Tryz.underlying28 rfl (by exact info_Val) ?_)
    generalize (w3.alloc (.cells #[.int .i64 2, .bool bb3, .slice P3 m3.length d3, .int .u64 0, .string ⟨#[]⟩, .slice none 0 0] 28)) = W3 at *
    refine (IntUnary_Tilde _ z HZ1.out W3 HVa.out).mono ?_
    rintro e w4 ⟨v4, rfl, hv, hk⟩
    obtain ⟨P4, d4, m4, rfl, q⟩ := hv
    have HW4 : VI w4 (.agg #[.int .i64 2, .bool (decide (-z - 1 < 0)), .slice P4 m4.length d4, .int .u64 0, .string ⟨#[]⟩, .slice none 0 0]) (-z - 1) := ⟨P4, d4, m4, rfl, q.1, q.2.1⟩
    generalize decide (-z - 1 < 0) = bb4 at *
    have ha : Kept w4 (w4.alloc (.cells #[.int .i64 2, .bool bb4, .slice P4 m4.length d4, .int .u64 0, .string ⟨#[]⟩, .slice none 0 0] 28)) := (Below.refl _ _).alloc (Nat.le_refl _) _
    have HU4 : Hid (VI (w4.alloc (.cells #[.int .i64 2, .bool bb4, .slice P4 m4.length d4, .int .u64 0, .string ⟨#[]⟩, .slice none 0 0] 28)) (.agg #[.int .i64 2, .bool bb4, .slice P4 m4.length d4, .int .u64 0, .string ⟨#[]⟩, .slice none 0 0]) (-z - 1)) := Lib.hid (HW4.below ha)
    have hb := Blk.new w4 28 #[.int .i64 2, .bool bb4, .slice P4 m4.length d4, .int .u64 0, .string ⟨#[]⟩, .slice none 0 0]
    have hkk := hk.trans ha
    have HPX := Lib.hid (HPX.out.below hkk)
    have HPV := Lib.hid (HPV.out.below hkk)
    have HVa := Lib.hid (HVa.out.below hkk)
    have HXa := Lib.hid (HXa.out.below hkk)
    have HKK1 := Lib.hid (HKK1.out.trans hkk)
    have HB4 := Lib.hid hb
    have HU2 := Lib.hid (HU2.out.below hkk)
    have HB2 := Lib.hid (HB2.out.below hkk)
    have HU3 := Lib.hid (HU3.out.below hkk)
    have HB3 := Lib.hid (HB3.out.below hkk)
    clear q hk ha hb hkk HW4
    go_wp2_with fail
    generalize (w4.alloc (.cells #[.int .i64 2, .bool bb4, .slice P4 m4.length d4, .int .u64 0, .string ⟨#[]⟩, .slice none 0 0] 28)) = W4 at *
    refine wp_region_held_drew (S := (fun X : World => Kept W4 X)) (by kernel_rfl) (by go_grown) (fun hHeld => ?_)
    refine wpAnyH_take (i := 0) (oi := ?o0x0) (v := ?v0x0) ?hi0x0 (by kernel_rfl) (by kernel_rfl) (by kernel_rfl) ?hQ0x0 ?hy0x0 (by assumption) ?rest0x0
    case hi0x0 => (simp only [List.getElem?_toArray, List.getElem?_cons_zero]; rfl)
    case hQ0x0 => exact fun _ _ _ h => h
    case hy0x0 => (refine Or.inl ⟨by rfl, ?_⟩; intro W hSw; (try dsimp only at hSw); go_simp; (try with_reducible rfl))
    try simp only [Act.put, List.setIfInBounds_toArray, List.set_cons_zero, List.set_cons_succ]
    refine wpAnyH_take (i := 1) (oi := ?o1x1) (v := ?v1x1) ?hi1x1 (by kernel_rfl) (by kernel_rfl) (by kernel_rfl) ?hQ1x1 ?hy1x1 (by assumption) ?rest1x1
    case hi1x1 => (simp only [List.getElem?_toArray, List.getElem?_cons_succ, List.getElem?_cons_zero]; rfl)
    case hQ1x1 => exact fun _ _ _ h => h
    case hy1x1 => (refine Or.inl ⟨by rfl, ?_⟩; intro W hSw; (try dsimp only at hSw); go_simp; (try with_reducible rfl))
    try simp only [Act.put, List.setIfInBounds_toArray, List.set_cons_zero, List.set_cons_succ]
    refine wpAnyH_take (i := 2) (oi := ?o2x2) (v := ?v2x2) ?hi2x2 (by kernel_rfl) (by kernel_rfl) (by kernel_rfl) ?hQ2x2 ?hy2x2 (by assumption) ?rest2x2
    case hi2x2 => (simp only [List.getElem?_toArray, List.getElem?_cons_succ, List.getElem?_cons_zero]; rfl)
    case hQ2x2 => exact fun _ _ _ h => h
    case hy2x2 => (refine Or.inl ⟨by rfl, ?_⟩; intro W hSw; (try dsimp only at hSw); go_simp; (try with_reducible rfl))
    try simp only [Act.put, List.setIfInBounds_toArray, List.set_cons_zero, List.set_cons_succ]
    refine wpAnyH_take (i := 3) (oi := ?o3x3) (v := ?v3x3) ?hi3x3 (by kernel_rfl) (by kernel_rfl) (by kernel_rfl) ?hQ3x3 ?hy3x3 (by assumption) ?rest3x3
    case hi3x3 => (simp only [List.getElem?_toArray, List.getElem?_cons_succ, List.getElem?_cons_zero]; rfl)
    case hQ3x3 => exact fun _ _ _ h => h
    case hy3x3 => (refine Or.inl ⟨by rfl, ?_⟩; intro W hSw; (try dsimp only at hSw); go_simp; (try with_reducible rfl))
    try simp only [Act.put, List.setIfInBounds_toArray, List.set_cons_zero, List.set_cons_succ]
    refine wpAnyH_take (i := 4) (oi := ?o4x4) (v := ?v4x4) ?hi4x4 (by kernel_rfl) (by kernel_rfl) (by kernel_rfl) ?hQ4x4 ?hy4x4 (by assumption) ?rest4x4
    case hi4x4 => (simp only [List.getElem?_toArray, List.getElem?_cons_succ, List.getElem?_cons_zero]; rfl)
    case hQ4x4 => exact fun _ _ _ h => h
    case hy4x4 => (refine Or.inl ⟨by rfl, ?_⟩; intro W hSw; (try dsimp only at hSw); go_simp; (try with_reducible rfl))
    try simp only [Act.put, List.setIfInBounds_toArray, List.set_cons_zero, List.set_cons_succ]
    refine wpAnyH_take (i := 5) (oi := ?o5x5) (v := ?v5x5) ?hi5x5 (by kernel_rfl) (by kernel_rfl) (by kernel_rfl) ?hQ5x5 ?hy5x5 (by assumption) ?rest5x5
    case hi5x5 => (simp only [List.getElem?_toArray, List.getElem?_cons_succ, List.getElem?_cons_zero]; rfl)
    case hQ5x5 => exact fun _ _ _ h => h
    case hy5x5 => (refine Or.inl ⟨by rfl, ?_⟩; intro W hSw; (try dsimp only at hSw); go_simp; (try with_reducible rfl))
    try simp only [Act.put, List.setIfInBounds_toArray, List.set_cons_zero, List.set_cons_succ]
    refine wpAnyH_take (i := 6) (oi := ?o6x6) (v := ?v6x6) ?hi6x6 (by kernel_rfl) (by kernel_rfl) (by kernel_rfl) ?hQ6x6 ?hy6x6 (by assumption) ?rest6x6
    case hi6x6 => (simp only [List.getElem?_toArray, List.getElem?_cons_succ, List.getElem?_cons_zero]; rfl)
    case hQ6x6 => exact fun _ _ _ h => h
    case hy6x6 => (refine Or.inl ⟨by rfl, ?_⟩; intro W hSw; (try dsimp only at hSw); go_simp; (try with_reducible rfl))
    try simp only [Act.put, List.setIfInBounds_toArray, List.set_cons_zero, List.set_cons_succ]
    refine wpAnyH_take (i := 7) (oi := ?o7x7) (v := ?v7x7) ?hi7x7 (by kernel_rfl) (by kernel_rfl) (by kernel_rfl) ?hQ7x7 ?hy7x7 (by assumption) ?rest7x7
    case hi7x7 => (simp only [List.getElem?_toArray, List.getElem?_cons_succ, List.getElem?_cons_zero]; rfl)
    case hQ7x7 => exact fun _ _ _ h => h
    case hy7x7 => (refine Or.inl ⟨by rfl, ?_⟩; intro W hSw; (try dsimp only at hSw); go_simp; (try with_reducible rfl))
    try simp only [Act.put, List.setIfInBounds_toArray, List.set_cons_zero, List.set_cons_succ]
    refine wpAnyH_take (i := 8) (oi := ?o8x8) (v := (.agg #[.int .i64 2, .bool (decide (z < 0)), .slice P2 m2.length d2, .int .u64 0, .string ⟨#[]⟩, .slice none 0 0])) ?hi8x8 (by kernel_rfl) (by kernel_rfl) (by kernel_rfl) ?hQ8x8 ?hy8x8 (by assumption) ?rest8x8
    case hi8x8 => (simp only [List.getElem?_toArray, List.getElem?_cons_succ, List.getElem?_cons_zero]; rfl)
    case hQ8x8 => exact fun _ _ _ h => h
    case hy8x8 => exact yields_row_g (by rfl) 28 (.tmp 7) (by rfl) w2.heap.size (by rfl) _ _ _ (fun X hX => HB2.out.below hX) Tryz.underlying28 (by rfl) info_Val
    try simp only [Act.put, List.setIfInBounds_toArray, List.set_cons_zero, List.set_cons_succ]
    refine wpAnyH_take (i := 9) (oi := ?o9x9) (v := (.agg #[.bool f, .slice XX n e'])) ?hi9x9 (by kernel_rfl) (by kernel_rfl) (by kernel_rfl) ?hQ9x9 ?hy9x9 (by assumption) ?rest9x9
    case hi9x9 => (simp only [List.getElem?_toArray, List.getElem?_cons_succ, List.getElem?_cons_zero]; rfl)
    case hQ9x9 => exact fun _ _ _ h => h
    case hy9x9 => exact yields_row_g (by rfl) 24 (.tmp 5) (by rfl) w1.heap.size (by rfl) _ _ _ (fun X hX => HPX.out.below hX) Tryz.underlying24 (by rfl) info_SI
    try simp only [Act.put, List.setIfInBounds_toArray, List.set_cons_zero, List.set_cons_succ]
    refine wpAnyH_ready (rs := [10]) (by kernel_rfl) (by simp) ?_
    refine (AllReadyH.cons rfl (fun K hK => ?_) AllReadyH.nil)
    go_simp
    (with_reducible refine Calls.mono (is_any _ _ z _ (HU2.out.below (by go_grown)) (HXa.out.below (by go_grown))) ?_)
    rintro e w5 ⟨rfl, hk5⟩
    have hK5 : Kept W4 w5 := ⟨hk5.os, hk5.tape, hk5.output, hk5.size, hk5.block⟩
    refine hK.out _ _ ?_ (fun hHeld => ?_)
    · (go_grown)
    clear hK K
    try simp only [Act.put, List.setIfInBounds_toArray, List.set_cons_zero, List.set_cons_succ]
    refine wpAnyH_take (i := 11) (oi := ?o11x10) (v := ?v11x10) ?hi11x10 (by kernel_rfl) (by kernel_rfl) (by kernel_rfl) ?hQ11x10 ?hy11x10 (by assumption) ?rest11x10
    case hi11x10 => (simp only [List.getElem?_toArray, List.getElem?_cons_succ, List.getElem?_cons_zero]; rfl)
    case hQ11x10 => exact fun _ _ _ h => h
    case hy11x10 => (refine Or.inl ⟨by rfl, ?_⟩; intro W hSw; (try dsimp only at hSw); go_simp; (try with_reducible rfl))
    try simp only [Act.put, List.setIfInBounds_toArray, List.set_cons_zero, List.set_cons_succ]
    refine wpAnyH_take (i := 12) (oi := ?o12x11) (v := ?v12x11) ?hi12x11 (by kernel_rfl) (by kernel_rfl) (by kernel_rfl) ?hQ12x11 ?hy12x11 (by assumption) ?rest12x11
    case hi12x11 => (simp only [List.getElem?_toArray, List.getElem?_cons_succ, List.getElem?_cons_zero]; rfl)
    case hQ12x11 => exact fun _ _ _ h => h
    case hy12x11 => (refine Or.inl ⟨by rfl, ?_⟩; intro W hSw; (try dsimp only at hSw); go_simp; (try with_reducible rfl))
    try simp only [Act.put, List.setIfInBounds_toArray, List.set_cons_zero, List.set_cons_succ]
    refine wpAnyH_take (i := 13) (oi := ?o13x12) (v := (.agg #[.int .i64 2, .bool bb3, .slice P3 m3.length d3, .int .u64 0, .string ⟨#[]⟩, .slice none 0 0])) ?hi13x12 (by kernel_rfl) (by kernel_rfl) (by kernel_rfl) ?hQ13x12 ?hy13x12 (by assumption) ?rest13x12
    case hi13x12 => (simp only [List.getElem?_toArray, List.getElem?_cons_succ, List.getElem?_cons_zero]; rfl)
    case hQ13x12 => exact fun _ _ _ h => h
    case hy13x12 => exact yields_row_g (by rfl) 28 (.tmp 9) (by rfl) w3.heap.size (by rfl) _ _ _ (fun X hX => HB3.out.below hX) Tryz.underlying28 (by rfl) info_Val
    try simp only [Act.put, List.setIfInBounds_toArray, List.set_cons_zero, List.set_cons_succ]
    refine wpAnyH_take (i := 14) (oi := ?o14x13) (v := (.agg #[.bool f, .slice XX n e'])) ?hi14x13 (by kernel_rfl) (by kernel_rfl) (by kernel_rfl) ?hQ14x13 ?hy14x13 (by assumption) ?rest14x13
    case hi14x13 => (simp only [List.getElem?_toArray, List.getElem?_cons_succ, List.getElem?_cons_zero]; rfl)
    case hQ14x13 => exact fun _ _ _ h => h
    case hy14x13 => exact yields_row_g (by rfl) 24 (.tmp 5) (by rfl) w1.heap.size (by rfl) _ _ _ (fun X hX => HPX.out.below hX) Tryz.underlying24 (by rfl) info_SI
    try simp only [Act.put, List.setIfInBounds_toArray, List.set_cons_zero, List.set_cons_succ]
    refine wpAnyH_ready (rs := [15]) (by kernel_rfl) (by simp) ?_
    refine (AllReadyH.cons rfl (fun K hK => ?_) AllReadyH.nil)
    go_simp
    (with_reducible refine Calls.mono (sMinus_any _ _ _ _ z HZC.out _ (HXa.out.below (by go_grown))) ?_)
    rintro e w6 ⟨v6, rfl, hs6, hk6⟩
    have hK6 : Kept W4 w6 := hK5.trans hk6
    have HS6 := Lib.hid hs6.toSI
    clear hs6
    refine hK.out _ _ ?_ (fun hHeld => ?_)
    · (go_grown)
    clear hK K
    try simp only [Act.put, List.setIfInBounds_toArray, List.set_cons_zero, List.set_cons_succ]
    refine wpAnyH_ready (rs := [16]) (by kernel_rfl) (by simp) ?_
    refine (AllReadyH.cons rfl (fun K hK => ?_) AllReadyH.nil)
    go_simp
    (with_reducible refine Calls.mono (is_any _ _ (-z) _ (HU3.out.below (by go_grown)) HS6.out) ?_)
    rintro e w7 ⟨rfl, hk7⟩
    have hK7 : Kept W4 w7 := hK6.trans hk7
    refine hK.out _ _ ?_ (fun hHeld => ?_)
    · (go_grown)
    clear hK K
    try simp only [Act.put, List.setIfInBounds_toArray, List.set_cons_zero, List.set_cons_succ]
    refine wpAnyH_take (i := 17) (oi := ?o17x14) (v := ?v17x14) ?hi17x14 (by kernel_rfl) (by kernel_rfl) (by kernel_rfl) ?hQ17x14 ?hy17x14 (by assumption) ?rest17x14
    case hi17x14 => (simp only [List.getElem?_toArray, List.getElem?_cons_succ, List.getElem?_cons_zero]; rfl)
    case hQ17x14 => exact fun _ _ _ h => h
    case hy17x14 => (refine Or.inl ⟨by rfl, ?_⟩; intro W hSw; (try dsimp only at hSw); go_simp; (try with_reducible rfl))
    try simp only [Act.put, List.setIfInBounds_toArray, List.set_cons_zero, List.set_cons_succ]
    refine wpAnyH_take (i := 18) (oi := ?o18x15) (v := ?v18x15) ?hi18x15 (by kernel_rfl) (by kernel_rfl) (by kernel_rfl) ?hQ18x15 ?hy18x15 (by assumption) ?rest18x15
    case hi18x15 => (simp only [List.getElem?_toArray, List.getElem?_cons_succ, List.getElem?_cons_zero]; rfl)
    case hQ18x15 => exact fun _ _ _ h => h
    case hy18x15 => (refine Or.inl ⟨by rfl, ?_⟩; intro W hSw; (try dsimp only at hSw); go_simp; (try with_reducible rfl))
    try simp only [Act.put, List.setIfInBounds_toArray, List.set_cons_zero, List.set_cons_succ]
    refine wpAnyH_take (i := 19) (oi := ?o19x16) (v := (.agg #[.int .i64 2, .bool bb4, .slice P4 m4.length d4, .int .u64 0, .string ⟨#[]⟩, .slice none 0 0])) ?hi19x16 (by kernel_rfl) (by kernel_rfl) (by kernel_rfl) ?hQ19x16 ?hy19x16 (by assumption) ?rest19x16
    case hi19x16 => (simp only [List.getElem?_toArray, List.getElem?_cons_succ, List.getElem?_cons_zero]; rfl)
    case hQ19x16 => exact fun _ _ _ h => h
    case hy19x16 => exact yields_row_g (by rfl) 28 (.tmp 11) (by rfl) w4.heap.size (by rfl) _ _ _ (fun X hX => HB4.out.below hX) Tryz.underlying28 (by rfl) info_Val
    try simp only [Act.put, List.setIfInBounds_toArray, List.set_cons_zero, List.set_cons_succ]
    refine wpAnyH_take (i := 20) (oi := ?o20x17) (v := (.agg #[.bool f, .slice XX n e'])) ?hi20x17 (by kernel_rfl) (by kernel_rfl) (by kernel_rfl) ?hQ20x17 ?hy20x17 (by assumption) ?rest20x17
    case hi20x17 => (simp only [List.getElem?_toArray, List.getElem?_cons_succ, List.getElem?_cons_zero]; rfl)
    case hQ20x17 => exact fun _ _ _ h => h
    case hy20x17 => exact yields_row_g (by rfl) 24 (.tmp 5) (by rfl) w1.heap.size (by rfl) _ _ _ (fun X hX => HPX.out.below hX) Tryz.underlying24 (by rfl) info_SI
    try simp only [Act.put, List.setIfInBounds_toArray, List.set_cons_zero, List.set_cons_succ]
    refine wpAnyH_ready (rs := [21]) (by kernel_rfl) (by simp) ?_
    refine (AllReadyH.cons rfl (fun K hK => ?_) AllReadyH.nil)
    go_simp
    (with_reducible refine Calls.mono (sNot_any _ _ _ _ z HZC.out _ (HXa.out.below (by go_grown))) ?_)
    rintro e w8 ⟨v8, rfl, hs8, hk8⟩
    have hK8 : Kept W4 w8 := hK7.trans hk8
    have HS8 := Lib.hid hs8.toSI
    clear hs8
    refine hK.out _ _ ?_ (fun hHeld => ?_)
    · (go_grown)
    clear hK K
    try simp only [Act.put, List.setIfInBounds_toArray, List.set_cons_zero, List.set_cons_succ]
    refine wpAnyH_ready (rs := [22]) (by kernel_rfl) (by simp) ?_
    refine (AllReadyH.cons rfl (fun K hK => ?_) AllReadyH.nil)
    go_simp
    (with_reducible refine Calls.mono (is_any _ _ (-z - 1) _ (HU4.out.below (by go_grown)) HS8.out) ?_)
    rintro e w9 ⟨rfl, hk9⟩
    have hK9 : Kept W4 w9 := hK8.trans hk9
    refine hK.out _ _ ?_ (fun hHeld => ?_)
    · (go_grown)
    clear hK K
    try simp only [Act.put, List.setIfInBounds_toArray, List.set_cons_zero, List.set_cons_succ]
    refine wpAnyH_take (i := 23) (oi := ?o23x18) (v := ?v23x18) ?hi23x18 (by kernel_rfl) (by kernel_rfl) (by kernel_rfl) ?hQ23x18 ?hy23x18 (by assumption) ?rest23x18
    case hi23x18 => (simp only [List.getElem?_toArray, List.getElem?_cons_succ, List.getElem?_cons_zero]; rfl)
    case hQ23x18 => exact fun _ _ _ h => h
    case hy23x18 => (refine Or.inl ⟨by rfl, ?_⟩; intro W hSw; (try dsimp only at hSw); go_simp; (try with_reducible rfl))
    try simp only [Act.put, List.setIfInBounds_toArray, List.set_cons_zero, List.set_cons_succ]
    refine wpAnyH_take (i := 24) (oi := ?o24x19) (v := ?v24x19) ?hi24x19 (by kernel_rfl) (by kernel_rfl) (by kernel_rfl) ?hQ24x19 ?hy24x19 (by assumption) ?rest24x19
    case hi24x19 => (simp only [List.getElem?_toArray, List.getElem?_cons_succ, List.getElem?_cons_zero]; rfl)
    case hQ24x19 => exact fun _ _ _ h => h
    case hy24x19 => (refine Or.inl ⟨by rfl, ?_⟩; intro W hSw; (try dsimp only at hSw); go_simp; (try with_reducible rfl))
    try simp only [Act.put, List.setIfInBounds_toArray, List.set_cons_zero, List.set_cons_succ]
    refine wpAnyH_done (by kernel_rfl) ?_ _
    go_wp2_with fail
    go_ret
    exact ⟨rfl, HKK1.out.trans hK9⟩
  · have hl' : (2147483647 : Int) < (l.length : Int) := by omega
    go_enter Tryz.func3, Tryz.ntmps3
    go_wp2_with fail
    go_ret
    exact ⟨rfl, Below.refl _ _⟩
end Go.Proofs.YtamocmelhnmkeaaGreat
