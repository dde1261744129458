/- A big float of one word is rounded to 53 bits. -/
import Derived.Test.YtnheiigdgklbcaaF6
import Derived.Deep.RegionHeld3
import Derived.Laws.BitsAllLaws
namespace Go.Proofs.Ytnheiigdgklbcaa
open Go.ChangeShapes Go.WideShapes Go.ChangeAt Go.RowKit
set_option linter.unusedVariables false
set_option maxRecDepth 100000 in
set_option maxHeartbeats 8000000 in
theorem round53_zero (g gr cap W X : Nat) (ng : Bool) (ac ex : Int) (hne : g ≠ gr) (hW0 : W = 0) (hW : W + 1 ≤ cap) (hcap : cap ≤ 1000000) (hex0 : 0 ≤ ex) (hex1 : ex ≤ 100000) (w : World)
    (hf : FB w g 53 ac 1 ng (.slice (some ⟨gr, 0, none⟩) (W + 1) cap) ex) (hr : Rw w gr cap (W + 1) X) (ht63 : 9223372036854775808 ≤ Num.dg Num.B64 X W) :
    Calls Try.prog 70 #[.pointer (some ⟨g, 0, none⟩), .int .u64 0] w
      (RndP w g gr cap (Num.dg Num.B64 X W / 2048 + (if Num.dg Num.B64 X W / 1024 % 2 = 1 ∧ (stk X (64 * W + 10) = 1 ∨ Num.dg Num.B64 X W / 2048 % 2 = 1) then 1 else 0)) ng ex) := by
  have HW0 := Lib.hid hW0
  clear hW0
  obtain ⟨c0, c1, c2, c3, c4, c5, c6⟩ := hf.cells
  have fz2 := Blk.frozen hf 2
  have hf1 := hf.acc 0
  obtain ⟨d0, d1, d2, d3, d4, d5, d6⟩ := hf1.cells
  have hr1 := hr.far (set_grown w g 2 (.int .i8 0)) (fun e => hne e.symm)
  have ht1 := (Two.refl g gr w).set1 2 (.int .i8 0)
  have hWI : (W : Int) ≤ 999999 := by omega
  have w0 : (0 : Int) ≤ (W : Int) := by omega
  have u1 : IntKind.u32.wrap ((W : Int) + 1) = (W : Int) + 1 := by rw [IntKind.wrap_u32]; omega
  have u2 : IntKind.u32.wrap (((W : Int) + 1) * 64) = ((W : Int) + 1) * 64 := by rw [IntKind.wrap_u32]; omega
  have hle : ¬ ((W : Int) + 1) * 64 ≤ 53 := by omega
  obtain ⟨r1, hr1e⟩ : ∃ r1 : Int, r1 = 64 * (W : Int) + 11 := ⟨_, rfl⟩
  obtain ⟨r0, hr0e⟩ : ∃ r0 : Int, r0 = 64 * (W : Int) + 10 := ⟨_, rfl⟩
  have u3 : IntKind.u32.wrap (((W : Int) + 1) * 64 - 53) = r1 := by rw [IntKind.wrap_u32]; omega
  have u4 : IntKind.u32.wrap (r1 - 1) = r0 := by rw [IntKind.wrap_u32]; omega
  have u8 : IntKind.u64.wrap r0 = r0 := by rw [IntKind.wrap_u64]; omega
  have l116 : IntKind.u32.wrap 116 = 116 := by rw [IntKind.wrap_u32]; omega
  have l64 : IntKind.u32.wrap 64 = 64 := by rw [IntKind.wrap_u32]; omega
  have l11 : IntKind.u32.wrap 11 = 11 := by rw [IntKind.wrap_u32]; omega
  have l0 : IntKind.u32.wrap 0 = 0 := by rw [IntKind.wrap_u32]; omega
  have m2047 : IntKind.u64.wrap 2047 = 2047 := by rw [IntKind.wrap_u64]; omega
  have hshl : Op.shift .shl .u64 1 .u32 11 = pure (.int .u64 2048) := by
    rw [shift_shl_any _ _ _ _ (by omega)]
    rfl
  have wx : IntKind.i32.wrap (ex + 1) = ex + 1 := by rw [IntKind.wrap_i32]; omega
  have hexl : ¬ (2147483647 : Int) ≤ ex := by omega
  have hcW := hr1.cell hW W (by omega)
  have htl : Num.dg Num.B64 X W < 18446744073709551616 := Num.dg_lt Num.B64_pos X W
  have hb := bit_any gr cap (W + 1) cap X W 10 (by omega) (by omega) hW hcap _ hr1
  have hs := sticky_any gr cap (W + 1) cap X W 10 (by omega) (by omega) hW hcap hW _ hr1
  rw [show (64 * (W : Int) + ((10 : Nat) : Int)) = r0 from hr0e.symm] at hb hs
  rw [show (2 : Nat) ^ 10 = 1024 by decide] at hb
  have hsk : stk X (64 * W + 10) = 0 ∨ stk X (64 * W + 10) = 1 := by unfold stk; split <;> simp
  generalize stk X (64 * W + 10) = sk at *
  have hrow : ∃ f, (w.setCell ⟨g, 2, none⟩ (.int .i8 0)).rowIs gr 100 cap f ∧ f W = .int .u64 ((Num.dg Num.B64 X W : Nat) : Int) := by
    obtain ⟨f, h1, h2⟩ := hr1
    exact ⟨f, h1, h2 W (by omega)⟩
  obtain ⟨f, hrow, hfW⟩ := hrow
  generalize Num.dg Num.B64 X W = t at *
  obtain ⟨bb, hbb⟩ : ∃ bb, bb = t / 1024 % 2 := ⟨_, rfl⟩
  rw [← hbb] at hb ⊢
  have CB := Lib.hid hb
  have CS := Lib.hid hs
  have hbb2 : bb = 0 ∨ bb = 1 := by omega
  have and10 : bits .and .u64 0 1 = 0 := and1 0 (by omega)
  have and11 : bits .and .u64 1 1 = 1 := and1 1 (by omega)
  have or00 : bits .or .u64 0 0 = 0 := u64_or_nat 0 0 (by omega) (by omega)
  have or01 : bits .or .u64 0 1 = 1 := u64_or_nat 0 1 (by omega) (by omega)
  have or10 : bits .or .u64 1 0 = 1 := u64_or_nat 1 0 (by omega) (by omega)
  have or11 : bits .or .u64 1 1 = 1 := u64_or_nat 1 1 (by omega) (by omega)
  have hg2 : gr ≠ g := fun e => hne e.symm
  have hcap1 : 1 ≤ cap := by omega
  have HF1 := Lib.hid hf1
  have HT1 := Lib.hid ht1
  have HROW := Lib.hid hrow
  have HWW := Lib.hid hW
  have HB := Lib.hid hbb
  have HT63 := Lib.hid ht63
  have HTL := Lib.hid htl
  have hA2048 := and_2048 t htl
  have hN2047 := andNot_2047 t htl
  have Hex0 := Lib.hid hex0
  have Hex1 := Lib.hid hex1
  have HCAP := Lib.hid hcap
  have s1 := fun wx => run_hi_u32 (some ⟨gr, 0, none⟩) (W + 1) cap 1 hcap1 wx
  have s2 : 0 < W → ∀ wx : World, (Instr.slice 57 (.slice (some ⟨gr, 0, none⟩) (W + 1) cap) (some (.int .u32 (W : Int))) none none).run Try.prog wx = .ok (.slice (some ⟨gr, W, none⟩) 1 (cap - W)) wx := fun h wx => by
    have := run_from_u32 gr (W + 1) cap W (by omega) (by omega) h wx
    rwa [show W + 1 - W = 1 by omega] at this
  have S1 := Lib.hid s1
  have S2 := Lib.hid s2
  have u9 : IntKind.u32.wrap (W : Int) = (W : Int) := by rw [IntKind.wrap_u32]; omega
  have fzr : (w.setCell ⟨g, 2, none⟩ (.int .i8 0)).frozen? ⟨gr, 0, none⟩ = false := hrow.frozen 0
  have n2 : IntKind.u64.wrap 2048 = 2048 := by rw [IntKind.wrap_u64]; omega
  obtain ⟨K, hK⟩ : ∃ K, K = t / 2048 + (if bb = 1 ∧ (sk = 1 ∨ t / 2048 % 2 = 1) then 1 else 0) := ⟨_, rfl⟩
  rw [← hK]
  have HK := Lib.hid hK
  clear hK
  clear s1 s2 hf hf1 hr hr1 ht1 hrow c0 c1 c4 c5 c6 hb hs hW hbb ht63 htl hr0e hr1e hex0 hex1 hcap
  rcases hbb2 with rfl | rfl
  · have HKN : Hid (K = t / 2048) := Lib.hid (by rw [HK.out, if_neg (by omega), Nat.add_zero])
    rcases hsk with rfl | rfl
    · have hcond : ¬ (1 : Int) < (W : Int) + 1 := by have := HW0.out; omega
      have hf1 : FB (w.setCell ⟨g, 2, none⟩ (.int .i8 0)) g 53 0 1 ng (.slice (some ⟨gr, 0, none⟩) 1 cap) ex := by
        have := HF1.out
        rwa [HW0.out] at this
      have hf0 : f 0 = .int .u64 (t : Int) := by rw [← HW0.out]; exact hfW
      have hrow := HROW.out
      have hT1 := HT1.out
      have hcc := hrow.cell (i := 0) (by omega)
      rw [hf0] at hcc
      have HFF1 := Lib.hid hf1
      have HTT1 := Lib.hid hT1
      have HRR := Lib.hid hrow
      clear hf1 hT1 hrow
      go_enter Try.func70, Try.ntmps70
      go_wp2_with fail
      (with_reducible refine Calls.mono CB.out ?_)
      rintro e w1 ⟨rfl, rfl⟩
      go_wp2_with fail
      (with_reducible refine Calls.mono CS.out ?_)
      rintro e w1 ⟨rfl, rfl⟩
      have FIN : Hid (RndP w g gr cap K ng ex (.returned (.tuple #[])) ((w.setCell ⟨g, 2, none⟩ (.int .i8 0)).setCell ⟨gr, 0, none⟩ (.int .u64 ((t / 2048 * 2048 : Nat) : Int)))) := Lib.hid (RndP.of HFF1.out hcap1 HRR.out HTT1.out hne (by rw [if_neg (by have := HKN.out; have := HTL.out; omega), HKN.out]) (by rw [if_neg (by have := HKN.out; have := HTL.out; omega)]))
      obtain ⟨y, hy⟩ : ∃ y, y = t / 2048 * 2048 := ⟨_, rfl⟩
      rw [← hy] at FIN hN2047
      clear hy
      go_wp2_with fail
      go_end0
      exact FIN.out
    · have hcond : ¬ (1 : Int) < (W : Int) + 1 := by have := HW0.out; omega
      have hf1 : FB (w.setCell ⟨g, 2, none⟩ (.int .i8 0)) g 53 0 1 ng (.slice (some ⟨gr, 0, none⟩) 1 cap) ex := by
        have := HF1.out
        rwa [HW0.out] at this
      have hf0 : f 0 = .int .u64 (t : Int) := by rw [← HW0.out]; exact hfW
      have hrow := HROW.out
      have hT1 := HT1.out
      have hcc := hrow.cell (i := 0) (by omega)
      rw [hf0] at hcc
      have HFF1 := Lib.hid hf1
      have HTT1 := Lib.hid hT1
      have HRR := Lib.hid hrow
      clear hf1 hT1 hrow
      go_enter Try.func70, Try.ntmps70
      go_wp2_with fail
      (with_reducible refine Calls.mono CB.out ?_)
      rintro e w1 ⟨rfl, rfl⟩
      go_wp2_with fail
      (with_reducible refine Calls.mono CS.out ?_)
      rintro e w1 ⟨rfl, rfl⟩
      go_wp2_with fail
      (with_reducible refine Calls.mono (makeAcc_ex _ _) ?_)
      rintro e w9 ⟨⟨a, rfl⟩, rfl⟩
      have G1 := HFF1.out.acc a
      obtain ⟨g0, g1, g2, g3, g4, g5, g6⟩ := G1.cells
      have T1 := HTT1.out.set1 2 (.int .i8 a)
      have R1 := HRR.out.setOther (a := ⟨g, 2, none⟩) hg2 (.int .i8 a)
      have gc := R1.cell (i := 0) (by omega)
      rw [hf0] at gc
      have gf := R1.frozen 0
      have FIN : Hid (RndP w g gr cap K ng ex (.returned (.tuple #[])) (((w.setCell ⟨g, 2, none⟩ (.int .i8 0)).setCell ⟨g, 2, none⟩ (.int .i8 a)).setCell ⟨gr, 0, none⟩ (.int .u64 ((t / 2048 * 2048 : Nat) : Int)))) := Lib.hid (RndP.of G1 hcap1 R1 T1 hne (by rw [if_neg (by have := HKN.out; have := HTL.out; omega), HKN.out]) (by rw [if_neg (by have := HKN.out; have := HTL.out; omega)]))
      obtain ⟨y, hy⟩ : ∃ y, y = t / 2048 * 2048 := ⟨_, rfl⟩
      rw [← hy] at FIN hN2047
      clear hy
      clear G1 T1 R1
      go_wp2_with fail
      go_end0
      exact FIN.out
  · rcases hsk with rfl | rfl
    · by_cases ho : t / 2048 % 2 = 1
      · have HKI : Hid (K = t / 2048 + 1) := Lib.hid (by rw [HK.out, if_pos ⟨rfl, .inr ho⟩])
        rw [ho] at hA2048
        have hcond : ¬ (1 : Int) < (W : Int) + 1 := by have := HW0.out; omega
        have hf1 : FB (w.setCell ⟨g, 2, none⟩ (.int .i8 0)) g 53 0 1 ng (.slice (some ⟨gr, 0, none⟩) 1 cap) ex := by
          have := HF1.out
          rwa [HW0.out] at this
        have hf0 : f 0 = .int .u64 (t : Int) := by rw [← HW0.out]; exact hfW
        have hrow := HROW.out
        have hT1 := HT1.out
        have hcc := hrow.cell (i := 0) (by omega)
        rw [hf0] at hcc
        have HFF1 := Lib.hid hf1
        have HTT1 := Lib.hid hT1
        have HRR := Lib.hid hrow
        clear hf1 hT1 hrow
        go_enter Try.func70, Try.ntmps70
        go_wp2_with fail
        (with_reducible refine Calls.mono CB.out ?_)
        rintro e w1 ⟨rfl, rfl⟩
        go_wp2_with fail
        (with_reducible refine Calls.mono CS.out ?_)
        rintro e w1 ⟨rfl, rfl⟩
        go_wp2_with fail
        (with_reducible refine Calls.mono (makeAcc_ex _ _) ?_)
        rintro e w9 ⟨⟨a, rfl⟩, rfl⟩
        have G1 := HFF1.out.acc a
        obtain ⟨g0, g1, g2, g3, g4, g5, g6⟩ := G1.cells
        have T1 := HTT1.out.set1 2 (.int .i8 a)
        have R1 := HRR.out.setOther (a := ⟨g, 2, none⟩) hg2 (.int .i8 a)
        have gc := R1.cell (i := 0) (by omega)
        rw [hf0] at gc
        have gf := R1.frozen 0
        have G1h := Lib.hid G1
        have T1h := Lib.hid T1
        have R1h := Lib.hid R1
        clear G1 T1 R1
        go_wp2_with fail
        have hD5 : ((w.setCell ⟨g, 2, none⟩ (.int .i8 0)).setCell ⟨g, 2, none⟩ (.int .i8 a)).drew.cell? ⟨g, 5, none⟩ = some (.slice (some ⟨gr, 0, none⟩) 1 cap) := g5
        have hRD : Hid (((w.setCell ⟨g, 2, none⟩ (.int .i8 0)).setCell ⟨g, 2, none⟩ (.int .i8 a)).drew.rowIs gr 100 cap f) := Lib.hid R1h.out
        have hFD : Hid (FB ((w.setCell ⟨g, 2, none⟩ (.int .i8 0)).setCell ⟨g, 2, none⟩ (.int .i8 a)).drew g 53 a 1 ng (.slice (some ⟨gr, 0, none⟩) 1 cap) ex) := Lib.hid G1h.out
        have hTD : Hid (Two g gr w ((w.setCell ⟨g, 2, none⟩ (.int .i8 0)).setCell ⟨g, 2, none⟩ (.int .i8 a)).drew) := Lib.hid ((T1h.out).grown1 ⟨rfl, rfl, rfl, Nat.le_refl _, fun _ _ _ => rfl⟩)
        clear G1h T1h R1h
        refine wp_region_lastL _ _ _ (by simp only [List.dropLast]; rfl) (by simp only [List.getLast?_cons_cons, List.getLast?_singleton]; rfl) (fun X : World => X.cell? ⟨g, 5, none⟩ = some (.slice (some ⟨gr, 0, none⟩) 1 cap)) (by kernel_rfl) (by kernel_rfl) (hD5) (fun hHeld => ?_)
        generalize ((w.setCell ⟨g, 2, none⟩ (.int .i8 0)).setCell ⟨g, 2, none⟩ (.int .i8 a)).drew = vd at *
        clear hHeld
        refine wpAnyH_take (i := 0) (oi := ?o0x300) (v := ?v0x300) ?hi0x300 (by kernel_rfl) (by kernel_rfl) (by kernel_rfl) ?hQ0x300 ?hy0x300 hD5 ?rest0x300
        case hi0x300 => (simp only [List.getElem?_toArray, List.getElem?_cons_zero]; rfl)
        case hQ0x300 => exact fun _ _ _ h => h
        case hy0x300 => (refine Or.inl ⟨by rfl, ?_⟩; intro W hSw; (try dsimp only at hSw); go_simp; (try with_reducible rfl))
        try simp only [Act.put, List.setIfInBounds_toArray, List.set_cons_zero, List.set_cons_succ]
        refine wpAnyH_take (i := 1) (oi := ?o1x301) (v := ?v1x301) ?hi1x301 (by kernel_rfl) (by kernel_rfl) (by kernel_rfl) ?hQ1x301 ?hy1x301 hD5 ?rest1x301
        case hi1x301 => (simp only [List.getElem?_toArray, List.getElem?_cons_succ, List.getElem?_cons_zero]; rfl)
        case hQ1x301 => exact fun _ _ _ h => h
        case hy1x301 => (refine Or.inl ⟨by rfl, ?_⟩; intro W hSw; (try dsimp only at hSw); go_simp; (try with_reducible rfl))
        try simp only [Act.put, List.setIfInBounds_toArray, List.set_cons_zero, List.set_cons_succ]
        refine wpAnyH_take (i := 2) (oi := ?o2x302) (v := ?v2x302) ?hi2x302 (by kernel_rfl) (by kernel_rfl) (by kernel_rfl) ?hQ2x302 ?hy2x302 hD5 ?rest2x302
        case hi2x302 => (simp only [List.getElem?_toArray, List.getElem?_cons_succ, List.getElem?_cons_zero]; rfl)
        case hQ2x302 => exact fun _ _ _ h => h
        case hy2x302 => (refine Or.inl ⟨by rfl, ?_⟩; intro W hSw; (try dsimp only at hSw); go_simp; (try with_reducible rfl))
        try simp only [Act.put, List.setIfInBounds_toArray, List.set_cons_zero, List.set_cons_succ]
        refine wpAnyH_take (i := 3) (oi := ?o3x303) (v := ?v3x303) ?hi3x303 (by kernel_rfl) (by kernel_rfl) (by kernel_rfl) ?hQ3x303 ?hy3x303 hD5 ?rest3x303
        case hi3x303 => (simp only [List.getElem?_toArray, List.getElem?_cons_succ, List.getElem?_cons_zero]; rfl)
        case hQ3x303 => exact fun _ _ _ h => h
        case hy3x303 => (refine Or.inl ⟨by rfl, ?_⟩; intro W hSw; (try dsimp only at hSw); go_simp; (try with_reducible rfl))
        try simp only [Act.put, List.setIfInBounds_toArray, List.set_cons_zero, List.set_cons_succ]
        refine wpAnyH_take (i := 4) (oi := ?o4x304) (v := ?v4x304) ?hi4x304 (by kernel_rfl) (by kernel_rfl) (by kernel_rfl) ?hQ4x304 ?hy4x304 hD5 ?rest4x304
        case hi4x304 => (simp only [List.getElem?_toArray, List.getElem?_cons_succ, List.getElem?_cons_zero]; rfl)
        case hQ4x304 => exact fun _ _ _ h => h
        case hy4x304 => (refine Or.inl ⟨by rfl, ?_⟩; intro W hSw; (try dsimp only at hSw); go_simp; (try with_reducible rfl))
        try simp only [Act.put, List.setIfInBounds_toArray, List.set_cons_zero, List.set_cons_succ]
        refine wpAnyH_take (i := 5) (oi := ?o5x305) (v := ?v5x305) ?hi5x305 (by kernel_rfl) (by kernel_rfl) (by kernel_rfl) ?hQ5x305 ?hy5x305 hD5 ?rest5x305
        case hi5x305 => (simp only [List.getElem?_toArray, List.getElem?_cons_succ, List.getElem?_cons_zero]; rfl)
        case hQ5x305 => exact fun _ _ _ h => h
        case hy5x305 => (refine Or.inl ⟨by rfl, ?_⟩; intro W hSw; (try dsimp only at hSw); go_simp; (try with_reducible rfl))
        try simp only [Act.put, List.setIfInBounds_toArray, List.set_cons_zero, List.set_cons_succ]
        refine wpAnyH_take (i := 6) (oi := ?o6x306) (v := ?v6x306) ?hi6x306 (by kernel_rfl) (by kernel_rfl) (by kernel_rfl) ?hQ6x306 ?hy6x306 hD5 ?rest6x306
        case hi6x306 => (simp only [List.getElem?_toArray, List.getElem?_cons_succ, List.getElem?_cons_zero]; rfl)
        case hQ6x306 => exact fun _ _ _ h => h
        case hy6x306 => (refine Or.inl ⟨by rfl, ?_⟩; intro W hSw; (try dsimp only at hSw); go_simp; (try with_reducible rfl))
        try simp only [Act.put, List.setIfInBounds_toArray, List.set_cons_zero, List.set_cons_succ]
        refine wpAnyH_take (i := 7) (oi := ?o7x307) (v := ?v7x307) ?hi7x307 (by kernel_rfl) (by kernel_rfl) (by kernel_rfl) ?hQ7x307 ?hy7x307 hD5 ?rest7x307
        case hi7x307 => (simp only [List.getElem?_toArray, List.getElem?_cons_succ, List.getElem?_cons_zero]; rfl)
        case hQ7x307 => exact fun _ _ _ h => h
        case hy7x307 => (refine Or.inl ⟨by rfl, ?_⟩; intro W hSw; (try dsimp only at hSw); go_simp; (try with_reducible rfl))
        try simp only [Act.put, List.setIfInBounds_toArray, List.set_cons_zero, List.set_cons_succ]
        refine wpAnyH_take (i := 8) (oi := ?o8x308) (v := ?v8x308) ?hi8x308 (by kernel_rfl) (by kernel_rfl) (by kernel_rfl) ?hQ8x308 ?hy8x308 hD5 ?rest8x308
        case hi8x308 => (simp only [List.getElem?_toArray, List.getElem?_cons_succ, List.getElem?_cons_zero]; rfl)
        case hQ8x308 => exact fun _ _ _ h => h
        case hy8x308 => (refine Or.inl ⟨by rfl, ?_⟩; intro W hSw; (try dsimp only at hSw); go_simp; (try with_reducible rfl))
        try simp only [Act.put, List.setIfInBounds_toArray, List.set_cons_zero, List.set_cons_succ]
        by_cases hcar : t < 18446744073709549568
        · have hz2 : t + 2048 < 18446744073709551616 := by omega
          have hsum : t + 2048 + 18446744073709551616 * 0 = t + 2048 := by omega
          refine wpAnyH_ready (rs := [9]) (by kernel_rfl) (by simp) ?_
          refine (AllReadyH.cons rfl (fun K hK => ?_) AllReadyH.nil)
          go_simp
          (with_reducible refine Calls.mono (addVW1_any gr cap cap t 2048 (t + 2048) 0 hz2 (by omega) hsum f hf0 hcap1 hcap1 _ hRD.out) ?_)
          rintro e V2 ⟨rfl, hRow2, hGr2⟩
          have hF2 := hFD.out.far hGr2 hne
          have hD52 : V2.cell? ⟨g, 5, none⟩ = some (.slice (some ⟨gr, 0, none⟩) 1 cap) := Blk.cell hF2 5
          refine hK.out _ _ ?_ (fun hHeld => ?_)
          · (exact hD52)
          clear hK K
          try simp only [Act.put, List.setIfInBounds_toArray, List.set_cons_zero, List.set_cons_succ]
          refine wpAnyH_done (by kernel_rfl) ?_ _
          simp only [lastQ]
          obtain ⟨h0, h1, h2, h3, h4, h5, h6⟩ := hF2.cells
          have hT2 := hTD.out.grown2 hGr2
          have hc2 := hRow2.cell (i := 0) (by omega)
          rw [if_pos rfl] at hc2
          have hz3 := hRow2.frozen 0
          have hN3 := andNot_2047 (t + 2048) hz2
          have FIN : Hid (RndP w g gr cap K ng ex (.returned (.tuple #[])) (V2.setCell ⟨gr, 0, none⟩ (.int .u64 (((t + 2048) / 2048 * 2048 : Nat) : Int)))) := Lib.hid (RndP.of hF2 hcap1 hRow2 hT2 hne (by rw [if_neg (by have := HKI.out; omega), HKI.out]; omega) (by rw [if_neg (by have := HKI.out; omega)]))
          obtain ⟨y, hy⟩ : ∃ y, y = (t + 2048) / 2048 * 2048 := ⟨_, rfl⟩
          rw [← hy] at FIN hN3
          obtain ⟨z, hzz⟩ : ∃ z, z = t + 2048 := ⟨_, rfl⟩
          rw [← hzz] at hc2 hN3
          clear hy hzz hz2 hsum hcar hF2 hT2 hRow2 hGr2 hD5 hD52
          go_wp2_with fail
          go_end0
          exact FIN.out
        · have htlt := HTL.out
          obtain ⟨z, hzz⟩ : ∃ z, z = t + 2048 - 18446744073709551616 := ⟨_, rfl⟩
          have hz2 : z < 18446744073709551616 := by omega
          have hzs : z < 2048 := by omega
          have hsum : z + 18446744073709551616 * 1 = t + 2048 := by omega
          have hKc : K = 9007199254740992 := by have := HKI.out; omega
          refine wpAnyH_ready (rs := [9]) (by kernel_rfl) (by simp) ?_
          refine (AllReadyH.cons rfl (fun K hK => ?_) AllReadyH.nil)
          go_simp
          (with_reducible refine Calls.mono (addVW1_any gr cap cap t 2048 z 1 hz2 (by omega) hsum f hf0 hcap1 hcap1 _ hRD.out) ?_)
          rintro e V2 ⟨rfl, hRow2, hGr2⟩
          have hF2 := hFD.out.far hGr2 hne
          have hD52 : V2.cell? ⟨g, 5, none⟩ = some (.slice (some ⟨gr, 0, none⟩) 1 cap) := Blk.cell hF2 5
          refine hK.out _ _ ?_ (fun hHeld => ?_)
          · (exact hD52)
          clear hK K
          try simp only [Act.put, List.setIfInBounds_toArray, List.set_cons_zero, List.set_cons_succ]
          refine wpAnyH_done (by kernel_rfl) ?_ _
          simp only [lastQ]
          obtain ⟨h0, h1, h2, h3, h4, h5, h6⟩ := hF2.cells
          have hz6 := Blk.frozen hF2 6
          have hT2 := hTD.out.grown2 hGr2
          have hF3 := hF2.exp (ex + 1)
          have hT3 := hT2.set1 6 (.int .i32 (ex + 1))
          have hRow3 := hRow2.setOther (a := ⟨g, 6, none⟩) hg2 (.int .i32 (ex + 1))
          have hD53 : (V2.setCell ⟨g, 6, none⟩ (.int .i32 (ex + 1))).drew.cell? ⟨g, 5, none⟩ = some (.slice (some ⟨gr, 0, none⟩) 1 cap) := Blk.cell hF3 5
          have hRD3 : Hid ((V2.setCell ⟨g, 6, none⟩ (.int .i32 (ex + 1))).drew.rowIs gr 100 cap (fun j => if j = 0 then .int .u64 ((z : Nat) : Int) else f j)) := Lib.hid hRow3
          have hFD3 : Hid (FB (V2.setCell ⟨g, 6, none⟩ (.int .i32 (ex + 1))).drew g 53 a 1 ng (.slice (some ⟨gr, 0, none⟩) 1 cap) (ex + 1)) := Lib.hid hF3
          have hTD3 : Hid (Two g gr w (V2.setCell ⟨g, 6, none⟩ (.int .i32 (ex + 1))).drew) := Lib.hid (hT3.grown1 ⟨rfl, rfl, rfl, Nat.le_refl _, fun _ _ _ => rfl⟩)
          have HZ2 := Lib.hid hz2
          have HZS := Lib.hid hzs
          have HKC := Lib.hid hKc
          clear hzz hz2 hsum hcar hF2 hT2 hRow2 hGr2 hD5 hD52 hF3 hT3 hRow3 htlt hzs hKc
          go_wp2_with fail
          refine wp_region_lastL _ _ _ (by simp only [List.dropLast]; rfl) (by simp only [List.getLast?_cons_cons, List.getLast?_singleton]; rfl) (fun X : World => X.cell? ⟨g, 5, none⟩ = some (.slice (some ⟨gr, 0, none⟩) 1 cap)) (by kernel_rfl) (by kernel_rfl) (hD53) (fun hHeld => ?_)
          generalize (V2.setCell ⟨g, 6, none⟩ (.int .i32 (ex + 1))).drew = v3 at *
          clear hHeld
          refine wpAnyH_take (i := 0) (oi := ?o0x309) (v := ?v0x309) ?hi0x309 (by kernel_rfl) (by kernel_rfl) (by kernel_rfl) ?hQ0x309 ?hy0x309 hD53 ?rest0x309
          case hi0x309 => (simp only [List.getElem?_toArray, List.getElem?_cons_zero]; rfl)
          case hQ0x309 => exact fun _ _ _ h => h
          case hy0x309 => (refine Or.inl ⟨by rfl, ?_⟩; intro W hSw; (try dsimp only at hSw); go_simp; (try with_reducible rfl))
          try simp only [Act.put, List.setIfInBounds_toArray, List.set_cons_zero, List.set_cons_succ]
          refine wpAnyH_take (i := 1) (oi := ?o1x310) (v := ?v1x310) ?hi1x310 (by kernel_rfl) (by kernel_rfl) (by kernel_rfl) ?hQ1x310 ?hy1x310 hD53 ?rest1x310
          case hi1x310 => (simp only [List.getElem?_toArray, List.getElem?_cons_succ, List.getElem?_cons_zero]; rfl)
          case hQ1x310 => exact fun _ _ _ h => h
          case hy1x310 => (refine Or.inl ⟨by rfl, ?_⟩; intro W hSw; (try dsimp only at hSw); go_simp; (try with_reducible rfl))
          try simp only [Act.put, List.setIfInBounds_toArray, List.set_cons_zero, List.set_cons_succ]
          refine wpAnyH_take (i := 2) (oi := ?o2x311) (v := ?v2x311) ?hi2x311 (by kernel_rfl) (by kernel_rfl) (by kernel_rfl) ?hQ2x311 ?hy2x311 hD53 ?rest2x311
          case hi2x311 => (simp only [List.getElem?_toArray, List.getElem?_cons_succ, List.getElem?_cons_zero]; rfl)
          case hQ2x311 => exact fun _ _ _ h => h
          case hy2x311 => (refine Or.inl ⟨by rfl, ?_⟩; intro W hSw; (try dsimp only at hSw); go_simp; (try with_reducible rfl))
          try simp only [Act.put, List.setIfInBounds_toArray, List.set_cons_zero, List.set_cons_succ]
          refine wpAnyH_take (i := 3) (oi := ?o3x312) (v := ?v3x312) ?hi3x312 (by kernel_rfl) (by kernel_rfl) (by kernel_rfl) ?hQ3x312 ?hy3x312 hD53 ?rest3x312
          case hi3x312 => (simp only [List.getElem?_toArray, List.getElem?_cons_succ, List.getElem?_cons_zero]; rfl)
          case hQ3x312 => exact fun _ _ _ h => h
          case hy3x312 => (refine Or.inl ⟨by rfl, ?_⟩; intro W hSw; (try dsimp only at hSw); go_simp; (try with_reducible rfl))
          try simp only [Act.put, List.setIfInBounds_toArray, List.set_cons_zero, List.set_cons_succ]
          refine wpAnyH_take (i := 4) (oi := ?o4x313) (v := ?v4x313) ?hi4x313 (by kernel_rfl) (by kernel_rfl) (by kernel_rfl) ?hQ4x313 ?hy4x313 hD53 ?rest4x313
          case hi4x313 => (simp only [List.getElem?_toArray, List.getElem?_cons_succ, List.getElem?_cons_zero]; rfl)
          case hQ4x313 => exact fun _ _ _ h => h
          case hy4x313 => (refine Or.inl ⟨by rfl, ?_⟩; intro W hSw; (try dsimp only at hSw); go_simp; (try with_reducible rfl))
          try simp only [Act.put, List.setIfInBounds_toArray, List.set_cons_zero, List.set_cons_succ]
          refine wpAnyH_take (i := 5) (oi := ?o5x314) (v := ?v5x314) ?hi5x314 (by kernel_rfl) (by kernel_rfl) (by kernel_rfl) ?hQ5x314 ?hy5x314 hD53 ?rest5x314
          case hi5x314 => (simp only [List.getElem?_toArray, List.getElem?_cons_succ, List.getElem?_cons_zero]; rfl)
          case hQ5x314 => exact fun _ _ _ h => h
          case hy5x314 => (refine Or.inl ⟨by rfl, ?_⟩; intro W hSw; (try dsimp only at hSw); go_simp; (try with_reducible rfl))
          try simp only [Act.put, List.setIfInBounds_toArray, List.set_cons_zero, List.set_cons_succ]
          refine wpAnyH_take (i := 6) (oi := ?o6x315) (v := ?v6x315) ?hi6x315 (by kernel_rfl) (by kernel_rfl) (by kernel_rfl) ?hQ6x315 ?hy6x315 hD53 ?rest6x315
          case hi6x315 => (simp only [List.getElem?_toArray, List.getElem?_cons_succ, List.getElem?_cons_zero]; rfl)
          case hQ6x315 => exact fun _ _ _ h => h
          case hy6x315 => (refine Or.inl ⟨by rfl, ?_⟩; intro W hSw; (try dsimp only at hSw); go_simp; (try with_reducible rfl))
          try simp only [Act.put, List.setIfInBounds_toArray, List.set_cons_zero, List.set_cons_succ]
          refine wpAnyH_take (i := 7) (oi := ?o7x316) (v := ?v7x316) ?hi7x316 (by kernel_rfl) (by kernel_rfl) (by kernel_rfl) ?hQ7x316 ?hy7x316 hD53 ?rest7x316
          case hi7x316 => (simp only [List.getElem?_toArray, List.getElem?_cons_succ, List.getElem?_cons_zero]; rfl)
          case hQ7x316 => exact fun _ _ _ h => h
          case hy7x316 => (refine Or.inl ⟨by rfl, ?_⟩; intro W hSw; (try dsimp only at hSw); go_simp; (try with_reducible rfl))
          try simp only [Act.put, List.setIfInBounds_toArray, List.set_cons_zero, List.set_cons_succ]
          refine wpAnyH_done (by kernel_rfl) ?_ _
          simp only [lastQ]
          go_simp
          (with_reducible refine Calls.mono (rshVU1_any gr cap cap z HZ2.out _ rfl hcap1 hcap1 _ hRD3.out) ?_)
          rintro e V4 ⟨⟨k4, rfl⟩, hRow4, hGr4⟩
          have hzh : z / 2 < 9223372036854775808 := by have := HZS.out; omega
          have hor := or_top (z / 2) hzh
          have hF4 := hFD3.out.far hGr4 hne
          have hT4 := hTD3.out.grown2 hGr4
          obtain ⟨x2, hx2⟩ : ∃ x2 : Nat, x2 = 9223372036854775808 + z / 2 := ⟨_, rfl⟩
          have hx2l : x2 < 18446744073709551616 := by omega
          rw [← hx2] at hor
          have hN5 := andNot_2047 x2 hx2l
          rw [show x2 / 2048 * 2048 = 9223372036854775808 by have := HZS.out; omega] at hN5
          have hc4 := hRow4.cell (i := 0) (by omega)
          rw [if_pos rfl] at hc4
          have hz4 := hRow4.frozen 0
          obtain ⟨h0, h1, h2, h3, h4, h5, h6⟩ := hF4.cells
          have hRow5 := hRow4.set 0 (.int .u64 ((x2 : Nat) : Int))
          have hF5 := hF4.far (set_grown _ gr 0 (.int .u64 ((x2 : Nat) : Int))) hne
          have hT5 := hT4.set2 0 (.int .u64 ((x2 : Nat) : Int))
          obtain ⟨i0, i1, i2, i3, i4, i5, i6⟩ := hF5.cells
          have hc5 := hRow5.cell (i := 0) (by omega)
          rw [if_pos rfl] at hc5
          have hz5 := hRow5.frozen 0
          have FIN : Hid (RndP w g gr cap K ng ex (.returned (.tuple #[])) ((V4.setCell ⟨gr, 0, none⟩ (.int .u64 ((x2 : Nat) : Int))).setCell ⟨gr, 0, none⟩ (.int .u64 ((9223372036854775808 : Nat) : Int)))) := Lib.hid (RndP.of hF5 hcap1 hRow5 hT5 hne (by rw [if_pos HKC.out]) (by rw [if_pos HKC.out]))
          obtain ⟨zh, hzhe⟩ : ∃ zh, zh = z / 2 := ⟨_, rfl⟩
          rw [← hzhe] at hc4 hor
          clear hzh hx2 hx2l hF4 hT4 hRow4 hGr4 hF5 hT5 hRow5 hD53 hzhe
          go_wp2_with fail
          go_end0
          exact FIN.out
      · have HKN : Hid (K = t / 2048) := Lib.hid (by rw [HK.out, if_neg (by omega), Nat.add_zero])
        rw [show t / 2048 % 2 = 0 by omega] at hA2048
        have hcond : ¬ (1 : Int) < (W : Int) + 1 := by have := HW0.out; omega
        have hf1 : FB (w.setCell ⟨g, 2, none⟩ (.int .i8 0)) g 53 0 1 ng (.slice (some ⟨gr, 0, none⟩) 1 cap) ex := by
          have := HF1.out
          rwa [HW0.out] at this
        have hf0 : f 0 = .int .u64 (t : Int) := by rw [← HW0.out]; exact hfW
        have hrow := HROW.out
        have hT1 := HT1.out
        have hcc := hrow.cell (i := 0) (by omega)
        rw [hf0] at hcc
        have HFF1 := Lib.hid hf1
        have HTT1 := Lib.hid hT1
        have HRR := Lib.hid hrow
        clear hf1 hT1 hrow
        go_enter Try.func70, Try.ntmps70
        go_wp2_with fail
        (with_reducible refine Calls.mono CB.out ?_)
        rintro e w1 ⟨rfl, rfl⟩
        go_wp2_with fail
        (with_reducible refine Calls.mono CS.out ?_)
        rintro e w1 ⟨rfl, rfl⟩
        go_wp2_with fail
        (with_reducible refine Calls.mono (makeAcc_ex _ _) ?_)
        rintro e w9 ⟨⟨a, rfl⟩, rfl⟩
        have G1 := HFF1.out.acc a
        obtain ⟨g0, g1, g2, g3, g4, g5, g6⟩ := G1.cells
        have T1 := HTT1.out.set1 2 (.int .i8 a)
        have R1 := HRR.out.setOther (a := ⟨g, 2, none⟩) hg2 (.int .i8 a)
        have gc := R1.cell (i := 0) (by omega)
        rw [hf0] at gc
        have gf := R1.frozen 0
        have FIN : Hid (RndP w g gr cap K ng ex (.returned (.tuple #[])) (((w.setCell ⟨g, 2, none⟩ (.int .i8 0)).setCell ⟨g, 2, none⟩ (.int .i8 a)).setCell ⟨gr, 0, none⟩ (.int .u64 ((t / 2048 * 2048 : Nat) : Int)))) := Lib.hid (RndP.of G1 hcap1 R1 T1 hne (by rw [if_neg (by have := HKN.out; have := HTL.out; omega), HKN.out]) (by rw [if_neg (by have := HKN.out; have := HTL.out; omega)]))
        obtain ⟨y, hy⟩ : ∃ y, y = t / 2048 * 2048 := ⟨_, rfl⟩
        rw [← hy] at FIN hN2047
        clear hy
        clear G1 T1 R1
        go_wp2_with fail
        go_end0
        exact FIN.out
    · have HKI : Hid (K = t / 2048 + 1) := Lib.hid (by rw [HK.out, if_pos ⟨rfl, .inl rfl⟩])
      have hcond : ¬ (1 : Int) < (W : Int) + 1 := by have := HW0.out; omega
      have hf1 : FB (w.setCell ⟨g, 2, none⟩ (.int .i8 0)) g 53 0 1 ng (.slice (some ⟨gr, 0, none⟩) 1 cap) ex := by
        have := HF1.out
        rwa [HW0.out] at this
      have hf0 : f 0 = .int .u64 (t : Int) := by rw [← HW0.out]; exact hfW
      have hrow := HROW.out
      have hT1 := HT1.out
      have hcc := hrow.cell (i := 0) (by omega)
      rw [hf0] at hcc
      have HFF1 := Lib.hid hf1
      have HTT1 := Lib.hid hT1
      have HRR := Lib.hid hrow
      clear hf1 hT1 hrow
      go_enter Try.func70, Try.ntmps70
      go_wp2_with fail
      (with_reducible refine Calls.mono CB.out ?_)
      rintro e w1 ⟨rfl, rfl⟩
      go_wp2_with fail
      (with_reducible refine Calls.mono CS.out ?_)
      rintro e w1 ⟨rfl, rfl⟩
      go_wp2_with fail
      (with_reducible refine Calls.mono (makeAcc_ex _ _) ?_)
      rintro e w9 ⟨⟨a, rfl⟩, rfl⟩
      have G1 := HFF1.out.acc a
      obtain ⟨g0, g1, g2, g3, g4, g5, g6⟩ := G1.cells
      have T1 := HTT1.out.set1 2 (.int .i8 a)
      have R1 := HRR.out.setOther (a := ⟨g, 2, none⟩) hg2 (.int .i8 a)
      have gc := R1.cell (i := 0) (by omega)
      rw [hf0] at gc
      have gf := R1.frozen 0
      have G1h := Lib.hid G1
      have T1h := Lib.hid T1
      have R1h := Lib.hid R1
      clear G1 T1 R1
      go_wp2_with fail
      have hD5 : ((w.setCell ⟨g, 2, none⟩ (.int .i8 0)).setCell ⟨g, 2, none⟩ (.int .i8 a)).drew.cell? ⟨g, 5, none⟩ = some (.slice (some ⟨gr, 0, none⟩) 1 cap) := g5
      have hRD : Hid (((w.setCell ⟨g, 2, none⟩ (.int .i8 0)).setCell ⟨g, 2, none⟩ (.int .i8 a)).drew.rowIs gr 100 cap f) := Lib.hid R1h.out
      have hFD : Hid (FB ((w.setCell ⟨g, 2, none⟩ (.int .i8 0)).setCell ⟨g, 2, none⟩ (.int .i8 a)).drew g 53 a 1 ng (.slice (some ⟨gr, 0, none⟩) 1 cap) ex) := Lib.hid G1h.out
      have hTD : Hid (Two g gr w ((w.setCell ⟨g, 2, none⟩ (.int .i8 0)).setCell ⟨g, 2, none⟩ (.int .i8 a)).drew) := Lib.hid ((T1h.out).grown1 ⟨rfl, rfl, rfl, Nat.le_refl _, fun _ _ _ => rfl⟩)
      clear G1h T1h R1h
      refine wp_region_lastL _ _ _ (by simp only [List.dropLast]; rfl) (by simp only [List.getLast?_cons_cons, List.getLast?_singleton]; rfl) (fun X : World => X.cell? ⟨g, 5, none⟩ = some (.slice (some ⟨gr, 0, none⟩) 1 cap)) (by kernel_rfl) (by kernel_rfl) (hD5) (fun hHeld => ?_)
      generalize ((w.setCell ⟨g, 2, none⟩ (.int .i8 0)).setCell ⟨g, 2, none⟩ (.int .i8 a)).drew = vd at *
      clear hHeld
      refine wpAnyH_take (i := 0) (oi := ?o0x317) (v := ?v0x317) ?hi0x317 (by kernel_rfl) (by kernel_rfl) (by kernel_rfl) ?hQ0x317 ?hy0x317 hD5 ?rest0x317
      case hi0x317 => (simp only [List.getElem?_toArray, List.getElem?_cons_zero]; rfl)
      case hQ0x317 => exact fun _ _ _ h => h
      case hy0x317 => (refine Or.inl ⟨by rfl, ?_⟩; intro W hSw; (try dsimp only at hSw); go_simp; (try with_reducible rfl))
      try simp only [Act.put, List.setIfInBounds_toArray, List.set_cons_zero, List.set_cons_succ]
      refine wpAnyH_take (i := 1) (oi := ?o1x318) (v := ?v1x318) ?hi1x318 (by kernel_rfl) (by kernel_rfl) (by kernel_rfl) ?hQ1x318 ?hy1x318 hD5 ?rest1x318
      case hi1x318 => (simp only [List.getElem?_toArray, List.getElem?_cons_succ, List.getElem?_cons_zero]; rfl)
      case hQ1x318 => exact fun _ _ _ h => h
      case hy1x318 => (refine Or.inl ⟨by rfl, ?_⟩; intro W hSw; (try dsimp only at hSw); go_simp; (try with_reducible rfl))
      try simp only [Act.put, List.setIfInBounds_toArray, List.set_cons_zero, List.set_cons_succ]
      refine wpAnyH_take (i := 2) (oi := ?o2x319) (v := ?v2x319) ?hi2x319 (by kernel_rfl) (by kernel_rfl) (by kernel_rfl) ?hQ2x319 ?hy2x319 hD5 ?rest2x319
      case hi2x319 => (simp only [List.getElem?_toArray, List.getElem?_cons_succ, List.getElem?_cons_zero]; rfl)
      case hQ2x319 => exact fun _ _ _ h => h
      case hy2x319 => (refine Or.inl ⟨by rfl, ?_⟩; intro W hSw; (try dsimp only at hSw); go_simp; (try with_reducible rfl))
      try simp only [Act.put, List.setIfInBounds_toArray, List.set_cons_zero, List.set_cons_succ]
      refine wpAnyH_take (i := 3) (oi := ?o3x320) (v := ?v3x320) ?hi3x320 (by kernel_rfl) (by kernel_rfl) (by kernel_rfl) ?hQ3x320 ?hy3x320 hD5 ?rest3x320
      case hi3x320 => (simp only [List.getElem?_toArray, List.getElem?_cons_succ, List.getElem?_cons_zero]; rfl)
      case hQ3x320 => exact fun _ _ _ h => h
      case hy3x320 => (refine Or.inl ⟨by rfl, ?_⟩; intro W hSw; (try dsimp only at hSw); go_simp; (try with_reducible rfl))
      try simp only [Act.put, List.setIfInBounds_toArray, List.set_cons_zero, List.set_cons_succ]
      refine wpAnyH_take (i := 4) (oi := ?o4x321) (v := ?v4x321) ?hi4x321 (by kernel_rfl) (by kernel_rfl) (by kernel_rfl) ?hQ4x321 ?hy4x321 hD5 ?rest4x321
      case hi4x321 => (simp only [List.getElem?_toArray, List.getElem?_cons_succ, List.getElem?_cons_zero]; rfl)
      case hQ4x321 => exact fun _ _ _ h => h
      case hy4x321 => (refine Or.inl ⟨by rfl, ?_⟩; intro W hSw; (try dsimp only at hSw); go_simp; (try with_reducible rfl))
      try simp only [Act.put, List.setIfInBounds_toArray, List.set_cons_zero, List.set_cons_succ]
      refine wpAnyH_take (i := 5) (oi := ?o5x322) (v := ?v5x322) ?hi5x322 (by kernel_rfl) (by kernel_rfl) (by kernel_rfl) ?hQ5x322 ?hy5x322 hD5 ?rest5x322
      case hi5x322 => (simp only [List.getElem?_toArray, List.getElem?_cons_succ, List.getElem?_cons_zero]; rfl)
      case hQ5x322 => exact fun _ _ _ h => h
      case hy5x322 => (refine Or.inl ⟨by rfl, ?_⟩; intro W hSw; (try dsimp only at hSw); go_simp; (try with_reducible rfl))
      try simp only [Act.put, List.setIfInBounds_toArray, List.set_cons_zero, List.set_cons_succ]
      refine wpAnyH_take (i := 6) (oi := ?o6x323) (v := ?v6x323) ?hi6x323 (by kernel_rfl) (by kernel_rfl) (by kernel_rfl) ?hQ6x323 ?hy6x323 hD5 ?rest6x323
      case hi6x323 => (simp only [List.getElem?_toArray, List.getElem?_cons_succ, List.getElem?_cons_zero]; rfl)
      case hQ6x323 => exact fun _ _ _ h => h
      case hy6x323 => (refine Or.inl ⟨by rfl, ?_⟩; intro W hSw; (try dsimp only at hSw); go_simp; (try with_reducible rfl))
      try simp only [Act.put, List.setIfInBounds_toArray, List.set_cons_zero, List.set_cons_succ]
      refine wpAnyH_take (i := 7) (oi := ?o7x324) (v := ?v7x324) ?hi7x324 (by kernel_rfl) (by kernel_rfl) (by kernel_rfl) ?hQ7x324 ?hy7x324 hD5 ?rest7x324
      case hi7x324 => (simp only [List.getElem?_toArray, List.getElem?_cons_succ, List.getElem?_cons_zero]; rfl)
      case hQ7x324 => exact fun _ _ _ h => h
      case hy7x324 => (refine Or.inl ⟨by rfl, ?_⟩; intro W hSw; (try dsimp only at hSw); go_simp; (try with_reducible rfl))
      try simp only [Act.put, List.setIfInBounds_toArray, List.set_cons_zero, List.set_cons_succ]
      refine wpAnyH_take (i := 8) (oi := ?o8x325) (v := ?v8x325) ?hi8x325 (by kernel_rfl) (by kernel_rfl) (by kernel_rfl) ?hQ8x325 ?hy8x325 hD5 ?rest8x325
      case hi8x325 => (simp only [List.getElem?_toArray, List.getElem?_cons_succ, List.getElem?_cons_zero]; rfl)
      case hQ8x325 => exact fun _ _ _ h => h
      case hy8x325 => (refine Or.inl ⟨by rfl, ?_⟩; intro W hSw; (try dsimp only at hSw); go_simp; (try with_reducible rfl))
      try simp only [Act.put, List.setIfInBounds_toArray, List.set_cons_zero, List.set_cons_succ]
      by_cases hcar : t < 18446744073709549568
      · have hz2 : t + 2048 < 18446744073709551616 := by omega
        have hsum : t + 2048 + 18446744073709551616 * 0 = t + 2048 := by omega
        refine wpAnyH_ready (rs := [9]) (by kernel_rfl) (by simp) ?_
        refine (AllReadyH.cons rfl (fun K hK => ?_) AllReadyH.nil)
        go_simp
        (with_reducible refine Calls.mono (addVW1_any gr cap cap t 2048 (t + 2048) 0 hz2 (by omega) hsum f hf0 hcap1 hcap1 _ hRD.out) ?_)
        rintro e V2 ⟨rfl, hRow2, hGr2⟩
        have hF2 := hFD.out.far hGr2 hne
        have hD52 : V2.cell? ⟨g, 5, none⟩ = some (.slice (some ⟨gr, 0, none⟩) 1 cap) := Blk.cell hF2 5
        refine hK.out _ _ ?_ (fun hHeld => ?_)
        · (exact hD52)
        clear hK K
        try simp only [Act.put, List.setIfInBounds_toArray, List.set_cons_zero, List.set_cons_succ]
        refine wpAnyH_done (by kernel_rfl) ?_ _
        simp only [lastQ]
        obtain ⟨h0, h1, h2, h3, h4, h5, h6⟩ := hF2.cells
        have hT2 := hTD.out.grown2 hGr2
        have hc2 := hRow2.cell (i := 0) (by omega)
        rw [if_pos rfl] at hc2
        have hz3 := hRow2.frozen 0
        have hN3 := andNot_2047 (t + 2048) hz2
        have FIN : Hid (RndP w g gr cap K ng ex (.returned (.tuple #[])) (V2.setCell ⟨gr, 0, none⟩ (.int .u64 (((t + 2048) / 2048 * 2048 : Nat) : Int)))) := Lib.hid (RndP.of hF2 hcap1 hRow2 hT2 hne (by rw [if_neg (by have := HKI.out; omega), HKI.out]; omega) (by rw [if_neg (by have := HKI.out; omega)]))
        obtain ⟨y, hy⟩ : ∃ y, y = (t + 2048) / 2048 * 2048 := ⟨_, rfl⟩
        rw [← hy] at FIN hN3
        obtain ⟨z, hzz⟩ : ∃ z, z = t + 2048 := ⟨_, rfl⟩
        rw [← hzz] at hc2 hN3
        clear hy hzz hz2 hsum hcar hF2 hT2 hRow2 hGr2 hD5 hD52
        go_wp2_with fail
        go_end0
        exact FIN.out
      · have htlt := HTL.out
        obtain ⟨z, hzz⟩ : ∃ z, z = t + 2048 - 18446744073709551616 := ⟨_, rfl⟩
        have hz2 : z < 18446744073709551616 := by omega
        have hzs : z < 2048 := by omega
        have hsum : z + 18446744073709551616 * 1 = t + 2048 := by omega
        have hKc : K = 9007199254740992 := by have := HKI.out; omega
        refine wpAnyH_ready (rs := [9]) (by kernel_rfl) (by simp) ?_
        refine (AllReadyH.cons rfl (fun K hK => ?_) AllReadyH.nil)
        go_simp
        (with_reducible refine Calls.mono (addVW1_any gr cap cap t 2048 z 1 hz2 (by omega) hsum f hf0 hcap1 hcap1 _ hRD.out) ?_)
        rintro e V2 ⟨rfl, hRow2, hGr2⟩
        have hF2 := hFD.out.far hGr2 hne
        have hD52 : V2.cell? ⟨g, 5, none⟩ = some (.slice (some ⟨gr, 0, none⟩) 1 cap) := Blk.cell hF2 5
        refine hK.out _ _ ?_ (fun hHeld => ?_)
        · (exact hD52)
        clear hK K
        try simp only [Act.put, List.setIfInBounds_toArray, List.set_cons_zero, List.set_cons_succ]
        refine wpAnyH_done (by kernel_rfl) ?_ _
        simp only [lastQ]
        obtain ⟨h0, h1, h2, h3, h4, h5, h6⟩ := hF2.cells
        have hz6 := Blk.frozen hF2 6
        have hT2 := hTD.out.grown2 hGr2
        have hF3 := hF2.exp (ex + 1)
        have hT3 := hT2.set1 6 (.int .i32 (ex + 1))
        have hRow3 := hRow2.setOther (a := ⟨g, 6, none⟩) hg2 (.int .i32 (ex + 1))
        have hD53 : (V2.setCell ⟨g, 6, none⟩ (.int .i32 (ex + 1))).drew.cell? ⟨g, 5, none⟩ = some (.slice (some ⟨gr, 0, none⟩) 1 cap) := Blk.cell hF3 5
        have hRD3 : Hid ((V2.setCell ⟨g, 6, none⟩ (.int .i32 (ex + 1))).drew.rowIs gr 100 cap (fun j => if j = 0 then .int .u64 ((z : Nat) : Int) else f j)) := Lib.hid hRow3
        have hFD3 : Hid (FB (V2.setCell ⟨g, 6, none⟩ (.int .i32 (ex + 1))).drew g 53 a 1 ng (.slice (some ⟨gr, 0, none⟩) 1 cap) (ex + 1)) := Lib.hid hF3
        have hTD3 : Hid (Two g gr w (V2.setCell ⟨g, 6, none⟩ (.int .i32 (ex + 1))).drew) := Lib.hid (hT3.grown1 ⟨rfl, rfl, rfl, Nat.le_refl _, fun _ _ _ => rfl⟩)
        have HZ2 := Lib.hid hz2
        have HZS := Lib.hid hzs
        have HKC := Lib.hid hKc
        clear hzz hz2 hsum hcar hF2 hT2 hRow2 hGr2 hD5 hD52 hF3 hT3 hRow3 htlt hzs hKc
        go_wp2_with fail
        refine wp_region_lastL _ _ _ (by simp only [List.dropLast]; rfl) (by simp only [List.getLast?_cons_cons, List.getLast?_singleton]; rfl) (fun X : World => X.cell? ⟨g, 5, none⟩ = some (.slice (some ⟨gr, 0, none⟩) 1 cap)) (by kernel_rfl) (by kernel_rfl) (hD53) (fun hHeld => ?_)
        generalize (V2.setCell ⟨g, 6, none⟩ (.int .i32 (ex + 1))).drew = v3 at *
        clear hHeld
        refine wpAnyH_take (i := 0) (oi := ?o0x326) (v := ?v0x326) ?hi0x326 (by kernel_rfl) (by kernel_rfl) (by kernel_rfl) ?hQ0x326 ?hy0x326 hD53 ?rest0x326
        case hi0x326 => (simp only [List.getElem?_toArray, List.getElem?_cons_zero]; rfl)
        case hQ0x326 => exact fun _ _ _ h => h
        case hy0x326 => (refine Or.inl ⟨by rfl, ?_⟩; intro W hSw; (try dsimp only at hSw); go_simp; (try with_reducible rfl))
        try simp only [Act.put, List.setIfInBounds_toArray, List.set_cons_zero, List.set_cons_succ]
        refine wpAnyH_take (i := 1) (oi := ?o1x327) (v := ?v1x327) ?hi1x327 (by kernel_rfl) (by kernel_rfl) (by kernel_rfl) ?hQ1x327 ?hy1x327 hD53 ?rest1x327
        case hi1x327 => (simp only [List.getElem?_toArray, List.getElem?_cons_succ, List.getElem?_cons_zero]; rfl)
        case hQ1x327 => exact fun _ _ _ h => h
        case hy1x327 => (refine Or.inl ⟨by rfl, ?_⟩; intro W hSw; (try dsimp only at hSw); go_simp; (try with_reducible rfl))
        try simp only [Act.put, List.setIfInBounds_toArray, List.set_cons_zero, List.set_cons_succ]
        refine wpAnyH_take (i := 2) (oi := ?o2x328) (v := ?v2x328) ?hi2x328 (by kernel_rfl) (by kernel_rfl) (by kernel_rfl) ?hQ2x328 ?hy2x328 hD53 ?rest2x328
        case hi2x328 => (simp only [List.getElem?_toArray, List.getElem?_cons_succ, List.getElem?_cons_zero]; rfl)
        case hQ2x328 => exact fun _ _ _ h => h
        case hy2x328 => (refine Or.inl ⟨by rfl, ?_⟩; intro W hSw; (try dsimp only at hSw); go_simp; (try with_reducible rfl))
        try simp only [Act.put, List.setIfInBounds_toArray, List.set_cons_zero, List.set_cons_succ]
        refine wpAnyH_take (i := 3) (oi := ?o3x329) (v := ?v3x329) ?hi3x329 (by kernel_rfl) (by kernel_rfl) (by kernel_rfl) ?hQ3x329 ?hy3x329 hD53 ?rest3x329
        case hi3x329 => (simp only [List.getElem?_toArray, List.getElem?_cons_succ, List.getElem?_cons_zero]; rfl)
        case hQ3x329 => exact fun _ _ _ h => h
        case hy3x329 => (refine Or.inl ⟨by rfl, ?_⟩; intro W hSw; (try dsimp only at hSw); go_simp; (try with_reducible rfl))
        try simp only [Act.put, List.setIfInBounds_toArray, List.set_cons_zero, List.set_cons_succ]
        refine wpAnyH_take (i := 4) (oi := ?o4x330) (v := ?v4x330) ?hi4x330 (by kernel_rfl) (by kernel_rfl) (by kernel_rfl) ?hQ4x330 ?hy4x330 hD53 ?rest4x330
        case hi4x330 => (simp only [List.getElem?_toArray, List.getElem?_cons_succ, List.getElem?_cons_zero]; rfl)
        case hQ4x330 => exact fun _ _ _ h => h
        case hy4x330 => (refine Or.inl ⟨by rfl, ?_⟩; intro W hSw; (try dsimp only at hSw); go_simp; (try with_reducible rfl))
        try simp only [Act.put, List.setIfInBounds_toArray, List.set_cons_zero, List.set_cons_succ]
        refine wpAnyH_take (i := 5) (oi := ?o5x331) (v := ?v5x331) ?hi5x331 (by kernel_rfl) (by kernel_rfl) (by kernel_rfl) ?hQ5x331 ?hy5x331 hD53 ?rest5x331
        case hi5x331 => (simp only [List.getElem?_toArray, List.getElem?_cons_succ, List.getElem?_cons_zero]; rfl)
        case hQ5x331 => exact fun _ _ _ h => h
        case hy5x331 => (refine Or.inl ⟨by rfl, ?_⟩; intro W hSw; (try dsimp only at hSw); go_simp; (try with_reducible rfl))
        try simp only [Act.put, List.setIfInBounds_toArray, List.set_cons_zero, List.set_cons_succ]
        refine wpAnyH_take (i := 6) (oi := ?o6x332) (v := ?v6x332) ?hi6x332 (by kernel_rfl) (by kernel_rfl) (by kernel_rfl) ?hQ6x332 ?hy6x332 hD53 ?rest6x332
        case hi6x332 => (simp only [List.getElem?_toArray, List.getElem?_cons_succ, List.getElem?_cons_zero]; rfl)
        case hQ6x332 => exact fun _ _ _ h => h
        case hy6x332 => (refine Or.inl ⟨by rfl, ?_⟩; intro W hSw; (try dsimp only at hSw); go_simp; (try with_reducible rfl))
        try simp only [Act.put, List.setIfInBounds_toArray, List.set_cons_zero, List.set_cons_succ]
        refine wpAnyH_take (i := 7) (oi := ?o7x333) (v := ?v7x333) ?hi7x333 (by kernel_rfl) (by kernel_rfl) (by kernel_rfl) ?hQ7x333 ?hy7x333 hD53 ?rest7x333
        case hi7x333 => (simp only [List.getElem?_toArray, List.getElem?_cons_succ, List.getElem?_cons_zero]; rfl)
        case hQ7x333 => exact fun _ _ _ h => h
        case hy7x333 => (refine Or.inl ⟨by rfl, ?_⟩; intro W hSw; (try dsimp only at hSw); go_simp; (try with_reducible rfl))
        try simp only [Act.put, List.setIfInBounds_toArray, List.set_cons_zero, List.set_cons_succ]
        refine wpAnyH_done (by kernel_rfl) ?_ _
        simp only [lastQ]
        go_simp
        (with_reducible refine Calls.mono (rshVU1_any gr cap cap z HZ2.out _ rfl hcap1 hcap1 _ hRD3.out) ?_)
        rintro e V4 ⟨⟨k4, rfl⟩, hRow4, hGr4⟩
        have hzh : z / 2 < 9223372036854775808 := by have := HZS.out; omega
        have hor := or_top (z / 2) hzh
        have hF4 := hFD3.out.far hGr4 hne
        have hT4 := hTD3.out.grown2 hGr4
        obtain ⟨x2, hx2⟩ : ∃ x2 : Nat, x2 = 9223372036854775808 + z / 2 := ⟨_, rfl⟩
        have hx2l : x2 < 18446744073709551616 := by omega
        rw [← hx2] at hor
        have hN5 := andNot_2047 x2 hx2l
        rw [show x2 / 2048 * 2048 = 9223372036854775808 by have := HZS.out; omega] at hN5
        have hc4 := hRow4.cell (i := 0) (by omega)
        rw [if_pos rfl] at hc4
        have hz4 := hRow4.frozen 0
        obtain ⟨h0, h1, h2, h3, h4, h5, h6⟩ := hF4.cells
        have hRow5 := hRow4.set 0 (.int .u64 ((x2 : Nat) : Int))
        have hF5 := hF4.far (set_grown _ gr 0 (.int .u64 ((x2 : Nat) : Int))) hne
        have hT5 := hT4.set2 0 (.int .u64 ((x2 : Nat) : Int))
        obtain ⟨i0, i1, i2, i3, i4, i5, i6⟩ := hF5.cells
        have hc5 := hRow5.cell (i := 0) (by omega)
        rw [if_pos rfl] at hc5
        have hz5 := hRow5.frozen 0
        have FIN : Hid (RndP w g gr cap K ng ex (.returned (.tuple #[])) ((V4.setCell ⟨gr, 0, none⟩ (.int .u64 ((x2 : Nat) : Int))).setCell ⟨gr, 0, none⟩ (.int .u64 ((9223372036854775808 : Nat) : Int)))) := Lib.hid (RndP.of hF5 hcap1 hRow5 hT5 hne (by rw [if_pos HKC.out]) (by rw [if_pos HKC.out]))
        obtain ⟨zh, hzhe⟩ : ∃ zh, zh = z / 2 := ⟨_, rfl⟩
        rw [← hzhe] at hc4 hor
        clear hzh hx2 hx2l hF4 hT4 hRow4 hGr4 hF5 hT5 hRow5 hD53 hzhe
        go_wp2_with fail
        go_end0
        exact FIN.out
end Go.Proofs.Ytnheiigdgklbcaa
