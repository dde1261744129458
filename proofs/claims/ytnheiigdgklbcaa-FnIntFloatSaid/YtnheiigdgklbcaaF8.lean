/- A big float of several words is rounded to 53 bits. -/
import Derived.Test.YtnheiigdgklbcaaF6
import Derived.Deep.RegionHeld3
import Derived.Laws.BitsAllLaws
namespace Go.Proofs.Ytnheiigdgklbcaa
open Go.ChangeShapes Go.WideShapes Go.ChangeAt Go.RowKit
set_option linter.unusedVariables false
set_option maxRecDepth 100000 in
set_option maxHeartbeats 8000000 in
theorem round53_pos (g gr cap W X : Nat) (ng : Bool) (ac ex : Int) (hne : g ≠ gr) (hW0 : W ≠ 0) (hW : W + 1 ≤ cap) (hcap : cap ≤ 1000000) (hex0 : 0 ≤ ex) (hex1 : ex ≤ 100000) (w : World)
    (hf : FB w g 53 ac 1 ng (.slice (some ⟨gr, 0, none⟩) (W + 1) cap) ex) (hr : Rw w gr cap (W + 1) X) (ht63 : 9223372036854775808 ≤ Num.dg Num.B64 X W) :
    Calls Try.prog 70 #[.pointer (some ⟨g, 0, none⟩), .int .u64 0] w
      (RndP w g gr cap (Num.dg Num.B64 X W / 2048 + (if Num.dg Num.B64 X W / 1024 % 2 = 1 ∧ (stk X (64 * W + 10) = 1 ∨ Num.dg Num.B64 X W / 2048 % 2 = 1) then 1 else 0)) ng ex) := by
  have HW0 := Lib.hid hW0
  clear hW0
  obtain ⟨c0, c1, c2, c3, c4, c5, c6⟩ := hf.cells
  have fz2 := Blk.frozen hf 2
  have hf1 := hf.acc 0
  obtain ⟨d0, d1, d2, d3, d4, d5, d6⟩ := hf1.cells
  have hr1 := hr.far (set_grown w g 2 (.int .i8 0)) (fun e => hne e.symm)
  have ht1 := (Two.refl g gr w).set1 2 (.int .i8 0)
  have hWI : (W : Int) ≤ 999999 := by omega
  have w0 : (0 : Int) ≤ (W : Int) := by omega
  have u1 : IntKind.u32.wrap ((W : Int) + 1) = (W : Int) + 1 := by rw [IntKind.wrap_u32]; omega
  have u2 : IntKind.u32.wrap (((W : Int) + 1) * 64) = ((W : Int) + 1) * 64 := by rw [IntKind.wrap_u32]; omega
  have hle : ¬ ((W : Int) + 1) * 64 ≤ 53 := by omega
  obtain ⟨r1, hr1e⟩ : ∃ r1 : Int, r1 = 64 * (W : Int) + 11 := ⟨_, rfl⟩
  obtain ⟨r0, hr0e⟩ : ∃ r0 : Int, r0 = 64 * (W : Int) + 10 := ⟨_, rfl⟩
  have u3 : IntKind.u32.wrap (((W : Int) + 1) * 64 - 53) = r1 := by rw [IntKind.wrap_u32]; omega
  have u4 : IntKind.u32.wrap (r1 - 1) = r0 := by rw [IntKind.wrap_u32]; omega
  have u8 : IntKind.u64.wrap r0 = r0 := by rw [IntKind.wrap_u64]; omega
  have l116 : IntKind.u32.wrap 116 = 116 := by rw [IntKind.wrap_u32]; omega
  have l64 : IntKind.u32.wrap 64 = 64 := by rw [IntKind.wrap_u32]; omega
  have l11 : IntKind.u32.wrap 11 = 11 := by rw [IntKind.wrap_u32]; omega
  have l0 : IntKind.u32.wrap 0 = 0 := by rw [IntKind.wrap_u32]; omega
  have m2047 : IntKind.u64.wrap 2047 = 2047 := by rw [IntKind.wrap_u64]; omega
  have hshl : Op.shift .shl .u64 1 .u32 11 = pure (.int .u64 2048) := by
    rw [shift_shl_any _ _ _ _ (by omega)]
    rfl
  have wx : IntKind.i32.wrap (ex + 1) = ex + 1 := by rw [IntKind.wrap_i32]; omega
  have hexl : ¬ (2147483647 : Int) ≤ ex := by omega
  have hcW := hr1.cell hW W (by omega)
  have htl : Num.dg Num.B64 X W < 18446744073709551616 := Num.dg_lt Num.B64_pos X W
  have hb := bit_any gr cap (W + 1) cap X W 10 (by omega) (by omega) hW hcap _ hr1
  have hs := sticky_any gr cap (W + 1) cap X W 10 (by omega) (by omega) hW hcap hW _ hr1
  rw [show (64 * (W : Int) + ((10 : Nat) : Int)) = r0 from hr0e.symm] at hb hs
  rw [show (2 : Nat) ^ 10 = 1024 by decide] at hb
  have hsk : stk X (64 * W + 10) = 0 ∨ stk X (64 * W + 10) = 1 := by unfold stk; split <;> simp
  generalize stk X (64 * W + 10) = sk at *
  have hrow : ∃ f, (w.setCell ⟨g, 2, none⟩ (.int .i8 0)).rowIs gr 100 cap f ∧ f W = .int .u64 ((Num.dg Num.B64 X W : Nat) : Int) := by
    obtain ⟨f, h1, h2⟩ := hr1
    exact ⟨f, h1, h2 W (by omega)⟩
  obtain ⟨f, hrow, hfW⟩ := hrow
  generalize Num.dg Num.B64 X W = t at *
  obtain ⟨bb, hbb⟩ : ∃ bb, bb = t / 1024 % 2 := ⟨_, rfl⟩
  rw [← hbb] at hb ⊢
  have CB := Lib.hid hb
  have CS := Lib.hid hs
  have hbb2 : bb = 0 ∨ bb = 1 := by omega
  have and10 : bits .and .u64 0 1 = 0 := and1 0 (by omega)
  have and11 : bits .and .u64 1 1 = 1 := and1 1 (by omega)
  have or00 : bits .or .u64 0 0 = 0 := u64_or_nat 0 0 (by omega) (by omega)
  have or01 : bits .or .u64 0 1 = 1 := u64_or_nat 0 1 (by omega) (by omega)
  have or10 : bits .or .u64 1 0 = 1 := u64_or_nat 1 0 (by omega) (by omega)
  have or11 : bits .or .u64 1 1 = 1 := u64_or_nat 1 1 (by omega) (by omega)
  have hg2 : gr ≠ g := fun e => hne e.symm
  have hcap1 : 1 ≤ cap := by omega
  have HF1 := Lib.hid hf1
  have HT1 := Lib.hid ht1
  have HROW := Lib.hid hrow
  have HWW := Lib.hid hW
  have HB := Lib.hid hbb
  have HT63 := Lib.hid ht63
  have HTL := Lib.hid htl
  have hA2048 := and_2048 t htl
  have hN2047 := andNot_2047 t htl
  have Hex0 := Lib.hid hex0
  have Hex1 := Lib.hid hex1
  have HCAP := Lib.hid hcap
  have s1 := fun wx => run_hi_u32 (some ⟨gr, 0, none⟩) (W + 1) cap 1 hcap1 wx
  have s2 : 0 < W → ∀ wx : World, (Instr.slice 57 (.slice (some ⟨gr, 0, none⟩) (W + 1) cap) (some (.int .u32 (W : Int))) none none).run Try.prog wx = .ok (.slice (some ⟨gr, W, none⟩) 1 (cap - W)) wx := fun h wx => by
    have := run_from_u32 gr (W + 1) cap W (by omega) (by omega) h wx
    rwa [show W + 1 - W = 1 by omega] at this
  have S1 := Lib.hid s1
  have S2 := Lib.hid s2
  have u9 : IntKind.u32.wrap (W : Int) = (W : Int) := by rw [IntKind.wrap_u32]; omega
  have fzr : (w.setCell ⟨g, 2, none⟩ (.int .i8 0)).frozen? ⟨gr, 0, none⟩ = false := hrow.frozen 0
  have n2 : IntKind.u64.wrap 2048 = 2048 := by rw [IntKind.wrap_u64]; omega
  obtain ⟨K, hK⟩ : ∃ K, K = t / 2048 + (if bb = 1 ∧ (sk = 1 ∨ t / 2048 % 2 = 1) then 1 else 0) := ⟨_, rfl⟩
  rw [← hK]
  have HK := Lib.hid hK
  clear hK
  clear s1 s2 hf hf1 hr hr1 ht1 hrow c0 c1 c4 c5 c6 hb hs hW hbb ht63 htl hr0e hr1e hex0 hex1 hcap
  rcases hbb2 with rfl | rfl
  · have HKN : Hid (K = t / 2048) := Lib.hid (by rw [HK.out, if_neg (by omega), Nat.add_zero])
    rcases hsk with rfl | rfl
    · have hcond : (1 : Int) < (W : Int) + 1 := by have := HW0.out; omega
      have hcond2 : (0 : Int) < (W : Int) := by have := HW0.out; omega
      have hd5 : (w.setCell ⟨g, 2, none⟩ (.int .i8 0)).drew.cell? ⟨g, 5, none⟩ = some (.slice (some ⟨gr, 0, none⟩) (W + 1) cap) := d5
      have s2 := S2.out (by have := HW0.out; omega)
      go_enter Try.func70, Try.ntmps70
      go_wp2_with fail
      (with_reducible refine Calls.mono CB.out ?_)
      rintro e w1 ⟨rfl, rfl⟩
      go_wp2_with fail
      (with_reducible refine Calls.mono CS.out ?_)
      rintro e w1 ⟨rfl, rfl⟩
      go_wp2_with fail
      refine wp_region_lastL _ _ _ (by simp only [List.dropLast]; rfl) (by simp only [List.getLast?_cons_cons, List.getLast?_singleton]; rfl) (fun X : World => X.cell? ⟨g, 5, none⟩ = some (.slice (some ⟨gr, 0, none⟩) (W + 1) cap)) (by kernel_rfl) (by kernel_rfl) (hd5) (fun hHeld => ?_)
      refine wpAnyH_take (i := 0) (oi := ?o0x300) (v := ?v0x300) ?hi0x300 (by kernel_rfl) (by kernel_rfl) (by kernel_rfl) ?hQ0x300 ?hy0x300 hd5 ?rest0x300
      case hi0x300 => (simp only [List.getElem?_toArray, List.getElem?_cons_zero]; rfl)
      case hQ0x300 => exact fun _ _ _ h => h
      case hy0x300 => (refine Or.inl ⟨by rfl, ?_⟩; intro W hSw; (try dsimp only at hSw); go_simp; (try with_reducible rfl))
      try simp only [Act.put, List.setIfInBounds_toArray, List.set_cons_zero, List.set_cons_succ]
      refine wpAnyH_take (i := 1) (oi := ?o1x301) (v := ?v1x301) ?hi1x301 (by kernel_rfl) (by kernel_rfl) (by kernel_rfl) ?hQ1x301 ?hy1x301 hd5 ?rest1x301
      case hi1x301 => (simp only [List.getElem?_toArray, List.getElem?_cons_succ, List.getElem?_cons_zero]; rfl)
      case hQ1x301 => exact fun _ _ _ h => h
      case hy1x301 => (refine Or.inl ⟨by rfl, ?_⟩; intro W hSw; (try dsimp only at hSw); go_simp; (try with_reducible rfl))
      try simp only [Act.put, List.setIfInBounds_toArray, List.set_cons_zero, List.set_cons_succ]
      refine wpAnyH_take (i := 2) (oi := ?o2x302) (v := ?v2x302) ?hi2x302 (by kernel_rfl) (by kernel_rfl) (by kernel_rfl) ?hQ2x302 ?hy2x302 hd5 ?rest2x302
      case hi2x302 => (simp only [List.getElem?_toArray, List.getElem?_cons_succ, List.getElem?_cons_zero]; rfl)
      case hQ2x302 => exact fun _ _ _ h => h
      case hy2x302 => (refine Or.inl ⟨by rfl, ?_⟩; intro W hSw; (try dsimp only at hSw); go_simp; (try with_reducible rfl))
      try simp only [Act.put, List.setIfInBounds_toArray, List.set_cons_zero, List.set_cons_succ]
      refine wpAnyH_take (i := 3) (oi := ?o3x303) (v := ?v3x303) ?hi3x303 (by kernel_rfl) (by kernel_rfl) (by kernel_rfl) ?hQ3x303 ?hy3x303 hd5 ?rest3x303
      case hi3x303 => (simp only [List.getElem?_toArray, List.getElem?_cons_succ, List.getElem?_cons_zero]; rfl)
      case hQ3x303 => exact fun _ _ _ h => h
      case hy3x303 => (refine Or.inl ⟨by rfl, ?_⟩; intro W hSw; (try dsimp only at hSw); go_simp; (try with_reducible rfl))
      try simp only [Act.put, List.setIfInBounds_toArray, List.set_cons_zero, List.set_cons_succ]
      refine wpAnyH_take (i := 4) (oi := ?o4x304) (v := ?v4x304) ?hi4x304 (by kernel_rfl) (by kernel_rfl) (by kernel_rfl) ?hQ4x304 ?hy4x304 hd5 ?rest4x304
      case hi4x304 => (simp only [List.getElem?_toArray, List.getElem?_cons_succ, List.getElem?_cons_zero]; rfl)
      case hQ4x304 => exact fun _ _ _ h => h
      case hy4x304 => (refine Or.inl ⟨by rfl, ?_⟩; intro W hSw; (try dsimp only at hSw); go_simp; (try with_reducible rfl))
      try simp only [Act.put, List.setIfInBounds_toArray, List.set_cons_zero, List.set_cons_succ]
      refine wpAnyH_take (i := 5) (oi := ?o5x305) (v := ?v5x305) ?hi5x305 (by kernel_rfl) (by kernel_rfl) (by kernel_rfl) ?hQ5x305 ?hy5x305 hd5 ?rest5x305
      case hi5x305 => (simp only [List.getElem?_toArray, List.getElem?_cons_succ, List.getElem?_cons_zero]; rfl)
      case hQ5x305 => exact fun _ _ _ h => h
      case hy5x305 => (refine Or.inl ⟨by rfl, ?_⟩; intro W hSw; (try dsimp only at hSw); go_simp; (try with_reducible rfl))
      try simp only [Act.put, List.setIfInBounds_toArray, List.set_cons_zero, List.set_cons_succ]
      refine wpAnyH_take (i := 6) (oi := ?o6x306) (v := ?v6x306) ?hi6x306 (by kernel_rfl) (by kernel_rfl) (by kernel_rfl) ?hQ6x306 ?hy6x306 hd5 ?rest6x306
      case hi6x306 => (simp only [List.getElem?_toArray, List.getElem?_cons_succ, List.getElem?_cons_zero]; rfl)
      case hQ6x306 => exact fun _ _ _ h => h
      case hy6x306 => (refine Or.inl ⟨by rfl, ?_⟩; intro W hSw; (try dsimp only at hSw); go_simp; (try with_reducible rfl))
      try simp only [Act.put, List.setIfInBounds_toArray, List.set_cons_zero, List.set_cons_succ]
      refine wpAnyH_take (i := 7) (oi := ?o7x307) (v := ?v7x307) ?hi7x307 (by kernel_rfl) (by kernel_rfl) (by kernel_rfl) ?hQ7x307 ?hy7x307 hd5 ?rest7x307
      case hi7x307 => (simp only [List.getElem?_toArray, List.getElem?_cons_succ, List.getElem?_cons_zero]; rfl)
      case hQ7x307 => exact fun _ _ _ h => h
      case hy7x307 => (refine Or.inl ⟨by rfl, ?_⟩; intro W hSw; (try dsimp only at hSw); go_simp; (try with_reducible rfl))
      try simp only [Act.put, List.setIfInBounds_toArray, List.set_cons_zero, List.set_cons_succ]
      refine wpAnyH_take (i := 8) (oi := ?o8x308) (v := ?v8x308) ?hi8x308 (by kernel_rfl) (by kernel_rfl) (by kernel_rfl) ?hQ8x308 ?hy8x308 hd5 ?rest8x308
      case hi8x308 => (simp only [List.getElem?_toArray, List.getElem?_cons_succ, List.getElem?_cons_zero]; rfl)
      case hQ8x308 => exact fun _ _ _ h => h
      case hy8x308 => (refine Or.inl ⟨by rfl, ?_⟩; intro W hSw; (try dsimp only at hSw); go_simp; (try with_reducible rfl))
      try simp only [Act.put, List.setIfInBounds_toArray, List.set_cons_zero, List.set_cons_succ]
      refine wpAnyH_take (i := 9) (oi := ?o9x309) (v := ?v9x309) ?hi9x309 (by kernel_rfl) (by kernel_rfl) (by kernel_rfl) ?hQ9x309 ?hy9x309 hd5 ?rest9x309
      case hi9x309 => (simp only [List.getElem?_toArray, List.getElem?_cons_succ, List.getElem?_cons_zero]; rfl)
      case hQ9x309 => exact fun _ _ _ h => h
      case hy9x309 => (refine Or.inl ⟨by rfl, ?_⟩; intro W hSw; (try dsimp only at hSw); go_simp; (try with_reducible rfl))
      try simp only [Act.put, List.setIfInBounds_toArray, List.set_cons_zero, List.set_cons_succ]
      refine wpAnyH_take (i := 10) (oi := ?o10x310) (v := ?v10x310) ?hi10x310 (by kernel_rfl) (by kernel_rfl) (by kernel_rfl) ?hQ10x310 ?hy10x310 hd5 ?rest10x310
      case hi10x310 => (simp only [List.getElem?_toArray, List.getElem?_cons_succ, List.getElem?_cons_zero]; rfl)
      case hQ10x310 => exact fun _ _ _ h => h
      case hy10x310 => (refine Or.inl ⟨by rfl, ?_⟩; intro W hSw; (try dsimp only at hSw); go_simp; (try with_reducible rfl))
      try simp only [Act.put, List.setIfInBounds_toArray, List.set_cons_zero, List.set_cons_succ]
      refine wpAnyH_take (i := 11) (oi := ?o11x311) (v := ?v11x311) ?hi11x311 (by kernel_rfl) (by kernel_rfl) (by kernel_rfl) ?hQ11x311 ?hy11x311 hd5 ?rest11x311
      case hi11x311 => (simp only [List.getElem?_toArray, List.getElem?_cons_succ, List.getElem?_cons_zero]; rfl)
      case hQ11x311 => exact fun _ _ _ h => h
      case hy11x311 => (refine Or.inl ⟨by rfl, ?_⟩; intro W hSw; (try dsimp only at hSw); go_simp; (try with_reducible rfl))
      try simp only [Act.put, List.setIfInBounds_toArray, List.set_cons_zero, List.set_cons_succ]
      refine wpAnyH_done (by kernel_rfl) ?_ _
      simp only [lastQ]
      refine wp_copy_row (.tmp 82) (.tmp 90) _ _ rfl 100 Try.underlying57 size_word _ _ _ _ _ _ rfl rfl gr 0 1 cap 100 f (fun _ => .int .u64 (t : Int)) (show (w.setCell ⟨g, 2, none⟩ (.int .i8 0)).drew.rowIs gr 100 cap f from HROW.out) (by show 1 = min 1 (W + 1); omega) (fun _ => ⟨rfl, gr, W, rfl, fun j hj => by rw [show j = 0 by omega]; exact hcW⟩) (by omega) (fun _ _ => rfl) ?_
      intro v2 hrow2 hgr2
      have hF2 : FB v2 g 53 0 1 ng (.slice (some ⟨gr, 0, none⟩) (W + 1) cap) ex := FB.far (w := (w.setCell ⟨g, 2, none⟩ (.int .i8 0)).drew) HF1.out hgr2 hne
      have hT2 : Two g gr w v2 := (show Two g gr w (w.setCell ⟨g, 2, none⟩ (.int .i8 0)).drew from HT1.out.grown1 ⟨rfl, rfl, rfl, Nat.le_refl _, fun _ _ _ => rfl⟩).grown2 hgr2
      obtain ⟨b0, b1, b2, b3, b4, b5, b6⟩ := hF2.cells
      have bz5 := Blk.frozen hF2 5
      have hF3 := hF2.mant (.slice (some ⟨gr, 0, none⟩) 1 cap)
      have hT3 := hT2.set1 5 (.slice (some ⟨gr, 0, none⟩) 1 cap)
      have hrow3 := hrow2.setOther (a := ⟨g, 5, none⟩) hg2 (.slice (some ⟨gr, 0, none⟩) 1 cap)
      obtain ⟨f2, hf2e⟩ : ∃ f2 : Nat → Value, f2 = (fun j => if 0 ≤ j ∧ j < 0 + 1 then (fun _ => Value.int .u64 (t : Int)) (j - 0) else f j) := ⟨_, rfl⟩
      rw [← hf2e] at hrow3
      have hf20 : f2 0 = .int .u64 (t : Int) := by rw [hf2e]; rfl
      have HFF3 := Lib.hid hF3
      have HTT3 := Lib.hid hT3
      have HRR3 := Lib.hid hrow3
      obtain ⟨e0, e1, e2, e3, e4, e5, e6⟩ := hF3.cells
      have ez2 := Blk.frozen hF3 2
      have ec := hrow3.cell (i := 0) (by omega)
      rw [hf20] at ec
      have ef := hrow3.frozen 0
      have s1 := S1.out
      clear hF2 hT2 hF3 hT3 hrow3 hrow2 hgr2 hf2e hd5
      have FIN : Hid (RndP w g gr cap K ng ex (.returned (.tuple #[])) ((v2.setCell ⟨g, 5, none⟩ (.slice (some ⟨gr, 0, none⟩) 1 cap)).setCell ⟨gr, 0, none⟩ (.int .u64 ((t / 2048 * 2048 : Nat) : Int)))) := Lib.hid (RndP.of HFF3.out hcap1 HRR3.out HTT3.out hne (by rw [if_neg (by have := HKN.out; have := HTL.out; omega), HKN.out]) (by rw [if_neg (by have := HKN.out; have := HTL.out; omega)]))
      obtain ⟨y, hy⟩ : ∃ y, y = t / 2048 * 2048 := ⟨_, rfl⟩
      rw [← hy] at FIN hN2047
      clear hy
      go_wp2_with fail
      go_end0
      exact FIN.out
    · have hcond : (1 : Int) < (W : Int) + 1 := by have := HW0.out; omega
      have hcond2 : (0 : Int) < (W : Int) := by have := HW0.out; omega
      have hd5 : (w.setCell ⟨g, 2, none⟩ (.int .i8 0)).drew.cell? ⟨g, 5, none⟩ = some (.slice (some ⟨gr, 0, none⟩) (W + 1) cap) := d5
      have s2 := S2.out (by have := HW0.out; omega)
      go_enter Try.func70, Try.ntmps70
      go_wp2_with fail
      (with_reducible refine Calls.mono CB.out ?_)
      rintro e w1 ⟨rfl, rfl⟩
      go_wp2_with fail
      (with_reducible refine Calls.mono CS.out ?_)
      rintro e w1 ⟨rfl, rfl⟩
      go_wp2_with fail
      refine wp_region_lastL _ _ _ (by simp only [List.dropLast]; rfl) (by simp only [List.getLast?_cons_cons, List.getLast?_singleton]; rfl) (fun X : World => X.cell? ⟨g, 5, none⟩ = some (.slice (some ⟨gr, 0, none⟩) (W + 1) cap)) (by kernel_rfl) (by kernel_rfl) (hd5) (fun hHeld => ?_)
      refine wpAnyH_take (i := 0) (oi := ?o0x312) (v := ?v0x312) ?hi0x312 (by kernel_rfl) (by kernel_rfl) (by kernel_rfl) ?hQ0x312 ?hy0x312 hd5 ?rest0x312
      case hi0x312 => (simp only [List.getElem?_toArray, List.getElem?_cons_zero]; rfl)
      case hQ0x312 => exact fun _ _ _ h => h
      case hy0x312 => (refine Or.inl ⟨by rfl, ?_⟩; intro W hSw; (try dsimp only at hSw); go_simp; (try with_reducible rfl))
      try simp only [Act.put, List.setIfInBounds_toArray, List.set_cons_zero, List.set_cons_succ]
      refine wpAnyH_take (i := 1) (oi := ?o1x313) (v := ?v1x313) ?hi1x313 (by kernel_rfl) (by kernel_rfl) (by kernel_rfl) ?hQ1x313 ?hy1x313 hd5 ?rest1x313
      case hi1x313 => (simp only [List.getElem?_toArray, List.getElem?_cons_succ, List.getElem?_cons_zero]; rfl)
      case hQ1x313 => exact fun _ _ _ h => h
      case hy1x313 => (refine Or.inl ⟨by rfl, ?_⟩; intro W hSw; (try dsimp only at hSw); go_simp; (try with_reducible rfl))
      try simp only [Act.put, List.setIfInBounds_toArray, List.set_cons_zero, List.set_cons_succ]
      refine wpAnyH_take (i := 2) (oi := ?o2x314) (v := ?v2x314) ?hi2x314 (by kernel_rfl) (by kernel_rfl) (by kernel_rfl) ?hQ2x314 ?hy2x314 hd5 ?rest2x314
      case hi2x314 => (simp only [List.getElem?_toArray, List.getElem?_cons_succ, List.getElem?_cons_zero]; rfl)
      case hQ2x314 => exact fun _ _ _ h => h
      case hy2x314 => (refine Or.inl ⟨by rfl, ?_⟩; intro W hSw; (try dsimp only at hSw); go_simp; (try with_reducible rfl))
      try simp only [Act.put, List.setIfInBounds_toArray, List.set_cons_zero, List.set_cons_succ]
      refine wpAnyH_take (i := 3) (oi := ?o3x315) (v := ?v3x315) ?hi3x315 (by kernel_rfl) (by kernel_rfl) (by kernel_rfl) ?hQ3x315 ?hy3x315 hd5 ?rest3x315
      case hi3x315 => (simp only [List.getElem?_toArray, List.getElem?_cons_succ, List.getElem?_cons_zero]; rfl)
      case hQ3x315 => exact fun _ _ _ h => h
      case hy3x315 => (refine Or.inl ⟨by rfl, ?_⟩; intro W hSw; (try dsimp only at hSw); go_simp; (try with_reducible rfl))
      try simp only [Act.put, List.setIfInBounds_toArray, List.set_cons_zero, List.set_cons_succ]
      refine wpAnyH_take (i := 4) (oi := ?o4x316) (v := ?v4x316) ?hi4x316 (by kernel_rfl) (by kernel_rfl) (by kernel_rfl) ?hQ4x316 ?hy4x316 hd5 ?rest4x316
      case hi4x316 => (simp only [List.getElem?_toArray, List.getElem?_cons_succ, List.getElem?_cons_zero]; rfl)
      case hQ4x316 => exact fun _ _ _ h => h
      case hy4x316 => (refine Or.inl ⟨by rfl, ?_⟩; intro W hSw; (try dsimp only at hSw); go_simp; (try with_reducible rfl))
      try simp only [Act.put, List.setIfInBounds_toArray, List.set_cons_zero, List.set_cons_succ]
      refine wpAnyH_take (i := 5) (oi := ?o5x317) (v := ?v5x317) ?hi5x317 (by kernel_rfl) (by kernel_rfl) (by kernel_rfl) ?hQ5x317 ?hy5x317 hd5 ?rest5x317
      case hi5x317 => (simp only [List.getElem?_toArray, List.getElem?_cons_succ, List.getElem?_cons_zero]; rfl)
      case hQ5x317 => exact fun _ _ _ h => h
      case hy5x317 => (refine Or.inl ⟨by rfl, ?_⟩; intro W hSw; (try dsimp only at hSw); go_simp; (try with_reducible rfl))
      try simp only [Act.put, List.setIfInBounds_toArray, List.set_cons_zero, List.set_cons_succ]
      refine wpAnyH_take (i := 6) (oi := ?o6x318) (v := ?v6x318) ?hi6x318 (by kernel_rfl) (by kernel_rfl) (by kernel_rfl) ?hQ6x318 ?hy6x318 hd5 ?rest6x318
      case hi6x318 => (simp only [List.getElem?_toArray, List.getElem?_cons_succ, List.getElem?_cons_zero]; rfl)
      case hQ6x318 => exact fun _ _ _ h => h
      case hy6x318 => (refine Or.inl ⟨by rfl, ?_⟩; intro W hSw; (try dsimp only at hSw); go_simp; (try with_reducible rfl))
      try simp only [Act.put, List.setIfInBounds_toArray, List.set_cons_zero, List.set_cons_succ]
      refine wpAnyH_take (i := 7) (oi := ?o7x319) (v := ?v7x319) ?hi7x319 (by kernel_rfl) (by kernel_rfl) (by kernel_rfl) ?hQ7x319 ?hy7x319 hd5 ?rest7x319
      case hi7x319 => (simp only [List.getElem?_toArray, List.getElem?_cons_succ, List.getElem?_cons_zero]; rfl)
      case hQ7x319 => exact fun _ _ _ h => h
      case hy7x319 => (refine Or.inl ⟨by rfl, ?_⟩; intro W hSw; (try dsimp only at hSw); go_simp; (try with_reducible rfl))
      try simp only [Act.put, List.setIfInBounds_toArray, List.set_cons_zero, List.set_cons_succ]
      refine wpAnyH_take (i := 8) (oi := ?o8x320) (v := ?v8x320) ?hi8x320 (by kernel_rfl) (by kernel_rfl) (by kernel_rfl) ?hQ8x320 ?hy8x320 hd5 ?rest8x320
      case hi8x320 => (simp only [List.getElem?_toArray, List.getElem?_cons_succ, List.getElem?_cons_zero]; rfl)
      case hQ8x320 => exact fun _ _ _ h => h
      case hy8x320 => (refine Or.inl ⟨by rfl, ?_⟩; intro W hSw; (try dsimp only at hSw); go_simp; (try with_reducible rfl))
      try simp only [Act.put, List.setIfInBounds_toArray, List.set_cons_zero, List.set_cons_succ]
      refine wpAnyH_take (i := 9) (oi := ?o9x321) (v := ?v9x321) ?hi9x321 (by kernel_rfl) (by kernel_rfl) (by kernel_rfl) ?hQ9x321 ?hy9x321 hd5 ?rest9x321
      case hi9x321 => (simp only [List.getElem?_toArray, List.getElem?_cons_succ, List.getElem?_cons_zero]; rfl)
      case hQ9x321 => exact fun _ _ _ h => h
      case hy9x321 => (refine Or.inl ⟨by rfl, ?_⟩; intro W hSw; (try dsimp only at hSw); go_simp; (try with_reducible rfl))
      try simp only [Act.put, List.setIfInBounds_toArray, List.set_cons_zero, List.set_cons_succ]
      refine wpAnyH_take (i := 10) (oi := ?o10x322) (v := ?v10x322) ?hi10x322 (by kernel_rfl) (by kernel_rfl) (by kernel_rfl) ?hQ10x322 ?hy10x322 hd5 ?rest10x322
      case hi10x322 => (simp only [List.getElem?_toArray, List.getElem?_cons_succ, List.getElem?_cons_zero]; rfl)
      case hQ10x322 => exact fun _ _ _ h => h
      case hy10x322 => (refine Or.inl ⟨by rfl, ?_⟩; intro W hSw; (try dsimp only at hSw); go_simp; (try with_reducible rfl))
      try simp only [Act.put, List.setIfInBounds_toArray, List.set_cons_zero, List.set_cons_succ]
      refine wpAnyH_take (i := 11) (oi := ?o11x323) (v := ?v11x323) ?hi11x323 (by kernel_rfl) (by kernel_rfl) (by kernel_rfl) ?hQ11x323 ?hy11x323 hd5 ?rest11x323
      case hi11x323 => (simp only [List.getElem?_toArray, List.getElem?_cons_succ, List.getElem?_cons_zero]; rfl)
      case hQ11x323 => exact fun _ _ _ h => h
      case hy11x323 => (refine Or.inl ⟨by rfl, ?_⟩; intro W hSw; (try dsimp only at hSw); go_simp; (try with_reducible rfl))
      try simp only [Act.put, List.setIfInBounds_toArray, List.set_cons_zero, List.set_cons_succ]
      refine wpAnyH_done (by kernel_rfl) ?_ _
      simp only [lastQ]
      refine wp_copy_row (.tmp 82) (.tmp 90) _ _ rfl 100 Try.underlying57 size_word _ _ _ _ _ _ rfl rfl gr 0 1 cap 100 f (fun _ => .int .u64 (t : Int)) (show (w.setCell ⟨g, 2, none⟩ (.int .i8 0)).drew.rowIs gr 100 cap f from HROW.out) (by show 1 = min 1 (W + 1); omega) (fun _ => ⟨rfl, gr, W, rfl, fun j hj => by rw [show j = 0 by omega]; exact hcW⟩) (by omega) (fun _ _ => rfl) ?_
      intro v2 hrow2 hgr2
      have hF2 : FB v2 g 53 0 1 ng (.slice (some ⟨gr, 0, none⟩) (W + 1) cap) ex := FB.far (w := (w.setCell ⟨g, 2, none⟩ (.int .i8 0)).drew) HF1.out hgr2 hne
      have hT2 : Two g gr w v2 := (show Two g gr w (w.setCell ⟨g, 2, none⟩ (.int .i8 0)).drew from HT1.out.grown1 ⟨rfl, rfl, rfl, Nat.le_refl _, fun _ _ _ => rfl⟩).grown2 hgr2
      obtain ⟨b0, b1, b2, b3, b4, b5, b6⟩ := hF2.cells
      have bz5 := Blk.frozen hF2 5
      have hF3 := hF2.mant (.slice (some ⟨gr, 0, none⟩) 1 cap)
      have hT3 := hT2.set1 5 (.slice (some ⟨gr, 0, none⟩) 1 cap)
      have hrow3 := hrow2.setOther (a := ⟨g, 5, none⟩) hg2 (.slice (some ⟨gr, 0, none⟩) 1 cap)
      obtain ⟨f2, hf2e⟩ : ∃ f2 : Nat → Value, f2 = (fun j => if 0 ≤ j ∧ j < 0 + 1 then (fun _ => Value.int .u64 (t : Int)) (j - 0) else f j) := ⟨_, rfl⟩
      rw [← hf2e] at hrow3
      have hf20 : f2 0 = .int .u64 (t : Int) := by rw [hf2e]; rfl
      have HFF3 := Lib.hid hF3
      have HTT3 := Lib.hid hT3
      have HRR3 := Lib.hid hrow3
      obtain ⟨e0, e1, e2, e3, e4, e5, e6⟩ := hF3.cells
      have ez2 := Blk.frozen hF3 2
      have ec := hrow3.cell (i := 0) (by omega)
      rw [hf20] at ec
      have ef := hrow3.frozen 0
      have s1 := S1.out
      clear hF2 hT2 hF3 hT3 hrow3 hrow2 hgr2 hf2e hd5
      go_wp2_with fail
      (with_reducible refine Calls.mono (makeAcc_ex _ _) ?_)
      rintro e w9 ⟨⟨a, rfl⟩, rfl⟩
      have G1 := HFF3.out.acc a
      obtain ⟨g0, g1, g2, g3, g4, g5, g6⟩ := G1.cells
      have T1 := HTT3.out.set1 2 (.int .i8 a)
      have R1 := HRR3.out.setOther (a := ⟨g, 2, none⟩) hg2 (.int .i8 a)
      have gc := R1.cell (i := 0) (by omega)
      rw [hf20] at gc
      have gf := R1.frozen 0
      have FIN : Hid (RndP w g gr cap K ng ex (.returned (.tuple #[])) (((v2.setCell ⟨g, 5, none⟩ (.slice (some ⟨gr, 0, none⟩) 1 cap)).setCell ⟨g, 2, none⟩ (.int .i8 a)).setCell ⟨gr, 0, none⟩ (.int .u64 ((t / 2048 * 2048 : Nat) : Int)))) := Lib.hid (RndP.of G1 hcap1 R1 T1 hne (by rw [if_neg (by have := HKN.out; have := HTL.out; omega), HKN.out]) (by rw [if_neg (by have := HKN.out; have := HTL.out; omega)]))
      obtain ⟨y, hy⟩ : ∃ y, y = t / 2048 * 2048 := ⟨_, rfl⟩
      rw [← hy] at FIN hN2047
      clear hy
      clear G1 T1 R1
      go_wp2_with fail
      go_end0
      exact FIN.out
  · rcases hsk with rfl | rfl
    · by_cases ho : t / 2048 % 2 = 1
      · have HKI : Hid (K = t / 2048 + 1) := Lib.hid (by rw [HK.out, if_pos ⟨rfl, .inr ho⟩])
        rw [ho] at hA2048
        have hcond : (1 : Int) < (W : Int) + 1 := by have := HW0.out; omega
        have hcond2 : (0 : Int) < (W : Int) := by have := HW0.out; omega
        have hd5 : (w.setCell ⟨g, 2, none⟩ (.int .i8 0)).drew.cell? ⟨g, 5, none⟩ = some (.slice (some ⟨gr, 0, none⟩) (W + 1) cap) := d5
        have s2 := S2.out (by have := HW0.out; omega)
        go_enter Try.func70, Try.ntmps70
        go_wp2_with fail
        (with_reducible refine Calls.mono CB.out ?_)
        rintro e w1 ⟨rfl, rfl⟩
        go_wp2_with fail
        (with_reducible refine Calls.mono CS.out ?_)
        rintro e w1 ⟨rfl, rfl⟩
        go_wp2_with fail
        refine wp_region_lastL _ _ _ (by simp only [List.dropLast]; rfl) (by simp only [List.getLast?_cons_cons, List.getLast?_singleton]; rfl) (fun X : World => X.cell? ⟨g, 5, none⟩ = some (.slice (some ⟨gr, 0, none⟩) (W + 1) cap)) (by kernel_rfl) (by kernel_rfl) (hd5) (fun hHeld => ?_)
        refine wpAnyH_take (i := 0) (oi := ?o0x324) (v := ?v0x324) ?hi0x324 (by kernel_rfl) (by kernel_rfl) (by kernel_rfl) ?hQ0x324 ?hy0x324 hd5 ?rest0x324
        case hi0x324 => (simp only [List.getElem?_toArray, List.getElem?_cons_zero]; rfl)
        case hQ0x324 => exact fun _ _ _ h => h
        case hy0x324 => (refine Or.inl ⟨by rfl, ?_⟩; intro W hSw; (try dsimp only at hSw); go_simp; (try with_reducible rfl))
        try simp only [Act.put, List.setIfInBounds_toArray, List.set_cons_zero, List.set_cons_succ]
        refine wpAnyH_take (i := 1) (oi := ?o1x325) (v := ?v1x325) ?hi1x325 (by kernel_rfl) (by kernel_rfl) (by kernel_rfl) ?hQ1x325 ?hy1x325 hd5 ?rest1x325
        case hi1x325 => (simp only [List.getElem?_toArray, List.getElem?_cons_succ, List.getElem?_cons_zero]; rfl)
        case hQ1x325 => exact fun _ _ _ h => h
        case hy1x325 => (refine Or.inl ⟨by rfl, ?_⟩; intro W hSw; (try dsimp only at hSw); go_simp; (try with_reducible rfl))
        try simp only [Act.put, List.setIfInBounds_toArray, List.set_cons_zero, List.set_cons_succ]
        refine wpAnyH_take (i := 2) (oi := ?o2x326) (v := ?v2x326) ?hi2x326 (by kernel_rfl) (by kernel_rfl) (by kernel_rfl) ?hQ2x326 ?hy2x326 hd5 ?rest2x326
        case hi2x326 => (simp only [List.getElem?_toArray, List.getElem?_cons_succ, List.getElem?_cons_zero]; rfl)
        case hQ2x326 => exact fun _ _ _ h => h
        case hy2x326 => (refine Or.inl ⟨by rfl, ?_⟩; intro W hSw; (try dsimp only at hSw); go_simp; (try with_reducible rfl))
        try simp only [Act.put, List.setIfInBounds_toArray, List.set_cons_zero, List.set_cons_succ]
        refine wpAnyH_take (i := 3) (oi := ?o3x327) (v := ?v3x327) ?hi3x327 (by kernel_rfl) (by kernel_rfl) (by kernel_rfl) ?hQ3x327 ?hy3x327 hd5 ?rest3x327
        case hi3x327 => (simp only [List.getElem?_toArray, List.getElem?_cons_succ, List.getElem?_cons_zero]; rfl)
        case hQ3x327 => exact fun _ _ _ h => h
        case hy3x327 => (refine Or.inl ⟨by rfl, ?_⟩; intro W hSw; (try dsimp only at hSw); go_simp; (try with_reducible rfl))
        try simp only [Act.put, List.setIfInBounds_toArray, List.set_cons_zero, List.set_cons_succ]
        refine wpAnyH_take (i := 4) (oi := ?o4x328) (v := ?v4x328) ?hi4x328 (by kernel_rfl) (by kernel_rfl) (by kernel_rfl) ?hQ4x328 ?hy4x328 hd5 ?rest4x328
        case hi4x328 => (simp only [List.getElem?_toArray, List.getElem?_cons_succ, List.getElem?_cons_zero]; rfl)
        case hQ4x328 => exact fun _ _ _ h => h
        case hy4x328 => (refine Or.inl ⟨by rfl, ?_⟩; intro W hSw; (try dsimp only at hSw); go_simp; (try with_reducible rfl))
        try simp only [Act.put, List.setIfInBounds_toArray, List.set_cons_zero, List.set_cons_succ]
        refine wpAnyH_take (i := 5) (oi := ?o5x329) (v := ?v5x329) ?hi5x329 (by kernel_rfl) (by kernel_rfl) (by kernel_rfl) ?hQ5x329 ?hy5x329 hd5 ?rest5x329
        case hi5x329 => (simp only [List.getElem?_toArray, List.getElem?_cons_succ, List.getElem?_cons_zero]; rfl)
        case hQ5x329 => exact fun _ _ _ h => h
        case hy5x329 => (refine Or.inl ⟨by rfl, ?_⟩; intro W hSw; (try dsimp only at hSw); go_simp; (try with_reducible rfl))
        try simp only [Act.put, List.setIfInBounds_toArray, List.set_cons_zero, List.set_cons_succ]
        refine wpAnyH_take (i := 6) (oi := ?o6x330) (v := ?v6x330) ?hi6x330 (by kernel_rfl) (by kernel_rfl) (by kernel_rfl) ?hQ6x330 ?hy6x330 hd5 ?rest6x330
        case hi6x330 => (simp only [List.getElem?_toArray, List.getElem?_cons_succ, List.getElem?_cons_zero]; rfl)
        case hQ6x330 => exact fun _ _ _ h => h
        case hy6x330 => (refine Or.inl ⟨by rfl, ?_⟩; intro W hSw; (try dsimp only at hSw); go_simp; (try with_reducible rfl))
        try simp only [Act.put, List.setIfInBounds_toArray, List.set_cons_zero, List.set_cons_succ]
        refine wpAnyH_take (i := 7) (oi := ?o7x331) (v := ?v7x331) ?hi7x331 (by kernel_rfl) (by kernel_rfl) (by kernel_rfl) ?hQ7x331 ?hy7x331 hd5 ?rest7x331
        case hi7x331 => (simp only [List.getElem?_toArray, List.getElem?_cons_succ, List.getElem?_cons_zero]; rfl)
        case hQ7x331 => exact fun _ _ _ h => h
        case hy7x331 => (refine Or.inl ⟨by rfl, ?_⟩; intro W hSw; (try dsimp only at hSw); go_simp; (try with_reducible rfl))
        try simp only [Act.put, List.setIfInBounds_toArray, List.set_cons_zero, List.set_cons_succ]
        refine wpAnyH_take (i := 8) (oi := ?o8x332) (v := ?v8x332) ?hi8x332 (by kernel_rfl) (by kernel_rfl) (by kernel_rfl) ?hQ8x332 ?hy8x332 hd5 ?rest8x332
        case hi8x332 => (simp only [List.getElem?_toArray, List.getElem?_cons_succ, List.getElem?_cons_zero]; rfl)
        case hQ8x332 => exact fun _ _ _ h => h
        case hy8x332 => (refine Or.inl ⟨by rfl, ?_⟩; intro W hSw; (try dsimp only at hSw); go_simp; (try with_reducible rfl))
        try simp only [Act.put, List.setIfInBounds_toArray, List.set_cons_zero, List.set_cons_succ]
        refine wpAnyH_take (i := 9) (oi := ?o9x333) (v := ?v9x333) ?hi9x333 (by kernel_rfl) (by kernel_rfl) (by kernel_rfl) ?hQ9x333 ?hy9x333 hd5 ?rest9x333
        case hi9x333 => (simp only [List.getElem?_toArray, List.getElem?_cons_succ, List.getElem?_cons_zero]; rfl)
        case hQ9x333 => exact fun _ _ _ h => h
        case hy9x333 => (refine Or.inl ⟨by rfl, ?_⟩; intro W hSw; (try dsimp only at hSw); go_simp; (try with_reducible rfl))
        try simp only [Act.put, List.setIfInBounds_toArray, List.set_cons_zero, List.set_cons_succ]
        refine wpAnyH_take (i := 10) (oi := ?o10x334) (v := ?v10x334) ?hi10x334 (by kernel_rfl) (by kernel_rfl) (by kernel_rfl) ?hQ10x334 ?hy10x334 hd5 ?rest10x334
        case hi10x334 => (simp only [List.getElem?_toArray, List.getElem?_cons_succ, List.getElem?_cons_zero]; rfl)
        case hQ10x334 => exact fun _ _ _ h => h
        case hy10x334 => (refine Or.inl ⟨by rfl, ?_⟩; intro W hSw; (try dsimp only at hSw); go_simp; (try with_reducible rfl))
        try simp only [Act.put, List.setIfInBounds_toArray, List.set_cons_zero, List.set_cons_succ]
        refine wpAnyH_take (i := 11) (oi := ?o11x335) (v := ?v11x335) ?hi11x335 (by kernel_rfl) (by kernel_rfl) (by kernel_rfl) ?hQ11x335 ?hy11x335 hd5 ?rest11x335
        case hi11x335 => (simp only [List.getElem?_toArray, List.getElem?_cons_succ, List.getElem?_cons_zero]; rfl)
        case hQ11x335 => exact fun _ _ _ h => h
        case hy11x335 => (refine Or.inl ⟨by rfl, ?_⟩; intro W hSw; (try dsimp only at hSw); go_simp; (try with_reducible rfl))
        try simp only [Act.put, List.setIfInBounds_toArray, List.set_cons_zero, List.set_cons_succ]
        refine wpAnyH_done (by kernel_rfl) ?_ _
        simp only [lastQ]
        refine wp_copy_row (.tmp 82) (.tmp 90) _ _ rfl 100 Try.underlying57 size_word _ _ _ _ _ _ rfl rfl gr 0 1 cap 100 f (fun _ => .int .u64 (t : Int)) (show (w.setCell ⟨g, 2, none⟩ (.int .i8 0)).drew.rowIs gr 100 cap f from HROW.out) (by show 1 = min 1 (W + 1); omega) (fun _ => ⟨rfl, gr, W, rfl, fun j hj => by rw [show j = 0 by omega]; exact hcW⟩) (by omega) (fun _ _ => rfl) ?_
        intro v2 hrow2 hgr2
        have hF2 : FB v2 g 53 0 1 ng (.slice (some ⟨gr, 0, none⟩) (W + 1) cap) ex := FB.far (w := (w.setCell ⟨g, 2, none⟩ (.int .i8 0)).drew) HF1.out hgr2 hne
        have hT2 : Two g gr w v2 := (show Two g gr w (w.setCell ⟨g, 2, none⟩ (.int .i8 0)).drew from HT1.out.grown1 ⟨rfl, rfl, rfl, Nat.le_refl _, fun _ _ _ => rfl⟩).grown2 hgr2
        obtain ⟨b0, b1, b2, b3, b4, b5, b6⟩ := hF2.cells
        have bz5 := Blk.frozen hF2 5
        have hF3 := hF2.mant (.slice (some ⟨gr, 0, none⟩) 1 cap)
        have hT3 := hT2.set1 5 (.slice (some ⟨gr, 0, none⟩) 1 cap)
        have hrow3 := hrow2.setOther (a := ⟨g, 5, none⟩) hg2 (.slice (some ⟨gr, 0, none⟩) 1 cap)
        obtain ⟨f2, hf2e⟩ : ∃ f2 : Nat → Value, f2 = (fun j => if 0 ≤ j ∧ j < 0 + 1 then (fun _ => Value.int .u64 (t : Int)) (j - 0) else f j) := ⟨_, rfl⟩
        rw [← hf2e] at hrow3
        have hf20 : f2 0 = .int .u64 (t : Int) := by rw [hf2e]; rfl
        have HFF3 := Lib.hid hF3
        have HTT3 := Lib.hid hT3
        have HRR3 := Lib.hid hrow3
        obtain ⟨e0, e1, e2, e3, e4, e5, e6⟩ := hF3.cells
        have ez2 := Blk.frozen hF3 2
        have ec := hrow3.cell (i := 0) (by omega)
        rw [hf20] at ec
        have ef := hrow3.frozen 0
        have s1 := S1.out
        clear hF2 hT2 hF3 hT3 hrow3 hrow2 hgr2 hf2e hd5
        go_wp2_with fail
        (with_reducible refine Calls.mono (makeAcc_ex _ _) ?_)
        rintro e w9 ⟨⟨a, rfl⟩, rfl⟩
        have G1 := HFF3.out.acc a
        obtain ⟨g0, g1, g2, g3, g4, g5, g6⟩ := G1.cells
        have T1 := HTT3.out.set1 2 (.int .i8 a)
        have R1 := HRR3.out.setOther (a := ⟨g, 2, none⟩) hg2 (.int .i8 a)
        have gc := R1.cell (i := 0) (by omega)
        rw [hf20] at gc
        have gf := R1.frozen 0
        have G1h := Lib.hid G1
        have T1h := Lib.hid T1
        have R1h := Lib.hid R1
        clear G1 T1 R1
        go_wp2_with fail
        have hD5 : ((v2.setCell ⟨g, 5, none⟩ (.slice (some ⟨gr, 0, none⟩) 1 cap)).setCell ⟨g, 2, none⟩ (.int .i8 a)).drew.cell? ⟨g, 5, none⟩ = some (.slice (some ⟨gr, 0, none⟩) 1 cap) := g5
        have hRD : Hid (((v2.setCell ⟨g, 5, none⟩ (.slice (some ⟨gr, 0, none⟩) 1 cap)).setCell ⟨g, 2, none⟩ (.int .i8 a)).drew.rowIs gr 100 cap f2) := Lib.hid R1h.out
        have hFD : Hid (FB ((v2.setCell ⟨g, 5, none⟩ (.slice (some ⟨gr, 0, none⟩) 1 cap)).setCell ⟨g, 2, none⟩ (.int .i8 a)).drew g 53 a 1 ng (.slice (some ⟨gr, 0, none⟩) 1 cap) ex) := Lib.hid G1h.out
        have hTD : Hid (Two g gr w ((v2.setCell ⟨g, 5, none⟩ (.slice (some ⟨gr, 0, none⟩) 1 cap)).setCell ⟨g, 2, none⟩ (.int .i8 a)).drew) := Lib.hid ((T1h.out).grown1 ⟨rfl, rfl, rfl, Nat.le_refl _, fun _ _ _ => rfl⟩)
        clear G1h T1h R1h
        refine wp_region_lastL _ _ _ (by simp only [List.dropLast]; rfl) (by simp only [List.getLast?_cons_cons, List.getLast?_singleton]; rfl) (fun X : World => X.cell? ⟨g, 5, none⟩ = some (.slice (some ⟨gr, 0, none⟩) 1 cap)) (by kernel_rfl) (by kernel_rfl) (hD5) (fun hHeld => ?_)
        generalize ((v2.setCell ⟨g, 5, none⟩ (.slice (some ⟨gr, 0, none⟩) 1 cap)).setCell ⟨g, 2, none⟩ (.int .i8 a)).drew = vd at *
        clear hHeld
        refine wpAnyH_take (i := 0) (oi := ?o0x336) (v := ?v0x336) ?hi0x336 (by kernel_rfl) (by kernel_rfl) (by kernel_rfl) ?hQ0x336 ?hy0x336 hD5 ?rest0x336
        case hi0x336 => (simp only [List.getElem?_toArray, List.getElem?_cons_zero]; rfl)
        case hQ0x336 => exact fun _ _ _ h => h
        case hy0x336 => (refine Or.inl ⟨by rfl, ?_⟩; intro W hSw; (try dsimp only at hSw); go_simp; (try with_reducible rfl))
        try simp only [Act.put, List.setIfInBounds_toArray, List.set_cons_zero, List.set_cons_succ]
        refine wpAnyH_take (i := 1) (oi := ?o1x337) (v := ?v1x337) ?hi1x337 (by kernel_rfl) (by kernel_rfl) (by kernel_rfl) ?hQ1x337 ?hy1x337 hD5 ?rest1x337
        case hi1x337 => (simp only [List.getElem?_toArray, List.getElem?_cons_succ, List.getElem?_cons_zero]; rfl)
        case hQ1x337 => exact fun _ _ _ h => h
        case hy1x337 => (refine Or.inl ⟨by rfl, ?_⟩; intro W hSw; (try dsimp only at hSw); go_simp; (try with_reducible rfl))
        try simp only [Act.put, List.setIfInBounds_toArray, List.set_cons_zero, List.set_cons_succ]
        refine wpAnyH_take (i := 2) (oi := ?o2x338) (v := ?v2x338) ?hi2x338 (by kernel_rfl) (by kernel_rfl) (by kernel_rfl) ?hQ2x338 ?hy2x338 hD5 ?rest2x338
        case hi2x338 => (simp only [List.getElem?_toArray, List.getElem?_cons_succ, List.getElem?_cons_zero]; rfl)
        case hQ2x338 => exact fun _ _ _ h => h
        case hy2x338 => (refine Or.inl ⟨by rfl, ?_⟩; intro W hSw; (try dsimp only at hSw); go_simp; (try with_reducible rfl))
        try simp only [Act.put, List.setIfInBounds_toArray, List.set_cons_zero, List.set_cons_succ]
        refine wpAnyH_take (i := 3) (oi := ?o3x339) (v := ?v3x339) ?hi3x339 (by kernel_rfl) (by kernel_rfl) (by kernel_rfl) ?hQ3x339 ?hy3x339 hD5 ?rest3x339
        case hi3x339 => (simp only [List.getElem?_toArray, List.getElem?_cons_succ, List.getElem?_cons_zero]; rfl)
        case hQ3x339 => exact fun _ _ _ h => h
        case hy3x339 => (refine Or.inl ⟨by rfl, ?_⟩; intro W hSw; (try dsimp only at hSw); go_simp; (try with_reducible rfl))
        try simp only [Act.put, List.setIfInBounds_toArray, List.set_cons_zero, List.set_cons_succ]
        refine wpAnyH_take (i := 4) (oi := ?o4x340) (v := ?v4x340) ?hi4x340 (by kernel_rfl) (by kernel_rfl) (by kernel_rfl) ?hQ4x340 ?hy4x340 hD5 ?rest4x340
        case hi4x340 => (simp only [List.getElem?_toArray, List.getElem?_cons_succ, List.getElem?_cons_zero]; rfl)
        case hQ4x340 => exact fun _ _ _ h => h
        case hy4x340 => (refine Or.inl ⟨by rfl, ?_⟩; intro W hSw; (try dsimp only at hSw); go_simp; (try with_reducible rfl))
        try simp only [Act.put, List.setIfInBounds_toArray, List.set_cons_zero, List.set_cons_succ]
        refine wpAnyH_take (i := 5) (oi := ?o5x341) (v := ?v5x341) ?hi5x341 (by kernel_rfl) (by kernel_rfl) (by kernel_rfl) ?hQ5x341 ?hy5x341 hD5 ?rest5x341
        case hi5x341 => (simp only [List.getElem?_toArray, List.getElem?_cons_succ, List.getElem?_cons_zero]; rfl)
        case hQ5x341 => exact fun _ _ _ h => h
        case hy5x341 => (refine Or.inl ⟨by rfl, ?_⟩; intro W hSw; (try dsimp only at hSw); go_simp; (try with_reducible rfl))
        try simp only [Act.put, List.setIfInBounds_toArray, List.set_cons_zero, List.set_cons_succ]
        refine wpAnyH_take (i := 6) (oi := ?o6x342) (v := ?v6x342) ?hi6x342 (by kernel_rfl) (by kernel_rfl) (by kernel_rfl) ?hQ6x342 ?hy6x342 hD5 ?rest6x342
        case hi6x342 => (simp only [List.getElem?_toArray, List.getElem?_cons_succ, List.getElem?_cons_zero]; rfl)
        case hQ6x342 => exact fun _ _ _ h => h
        case hy6x342 => (refine Or.inl ⟨by rfl, ?_⟩; intro W hSw; (try dsimp only at hSw); go_simp; (try with_reducible rfl))
        try simp only [Act.put, List.setIfInBounds_toArray, List.set_cons_zero, List.set_cons_succ]
        refine wpAnyH_take (i := 7) (oi := ?o7x343) (v := ?v7x343) ?hi7x343 (by kernel_rfl) (by kernel_rfl) (by kernel_rfl) ?hQ7x343 ?hy7x343 hD5 ?rest7x343
        case hi7x343 => (simp only [List.getElem?_toArray, List.getElem?_cons_succ, List.getElem?_cons_zero]; rfl)
        case hQ7x343 => exact fun _ _ _ h => h
        case hy7x343 => (refine Or.inl ⟨by rfl, ?_⟩; intro W hSw; (try dsimp only at hSw); go_simp; (try with_reducible rfl))
        try simp only [Act.put, List.setIfInBounds_toArray, List.set_cons_zero, List.set_cons_succ]
        refine wpAnyH_take (i := 8) (oi := ?o8x344) (v := ?v8x344) ?hi8x344 (by kernel_rfl) (by kernel_rfl) (by kernel_rfl) ?hQ8x344 ?hy8x344 hD5 ?rest8x344
        case hi8x344 => (simp only [List.getElem?_toArray, List.getElem?_cons_succ, List.getElem?_cons_zero]; rfl)
        case hQ8x344 => exact fun _ _ _ h => h
        case hy8x344 => (refine Or.inl ⟨by rfl, ?_⟩; intro W hSw; (try dsimp only at hSw); go_simp; (try with_reducible rfl))
        try simp only [Act.put, List.setIfInBounds_toArray, List.set_cons_zero, List.set_cons_succ]
        by_cases hcar : t < 18446744073709549568
        · have hz2 : t + 2048 < 18446744073709551616 := by omega
          have hsum : t + 2048 + 18446744073709551616 * 0 = t + 2048 := by omega
          refine wpAnyH_ready (rs := [9]) (by kernel_rfl) (by simp) ?_
          refine (AllReadyH.cons rfl (fun K hK => ?_) AllReadyH.nil)
          go_simp
          (with_reducible refine Calls.mono (addVW1_any gr cap cap t 2048 (t + 2048) 0 hz2 (by omega) hsum f2 hf20 hcap1 hcap1 _ hRD.out) ?_)
          rintro e V2 ⟨rfl, hRow2, hGr2⟩
          have hF2 := hFD.out.far hGr2 hne
          have hD52 : V2.cell? ⟨g, 5, none⟩ = some (.slice (some ⟨gr, 0, none⟩) 1 cap) := Blk.cell hF2 5
          refine hK.out _ _ ?_ (fun hHeld => ?_)
          · (exact hD52)
          clear hK K
          try simp only [Act.put, List.setIfInBounds_toArray, List.set_cons_zero, List.set_cons_succ]
          refine wpAnyH_done (by kernel_rfl) ?_ _
          simp only [lastQ]
          obtain ⟨h0, h1, h2, h3, h4, h5, h6⟩ := hF2.cells
          have hT2 := hTD.out.grown2 hGr2
          have hc2 := hRow2.cell (i := 0) (by omega)
          rw [if_pos rfl] at hc2
          have hz3 := hRow2.frozen 0
          have hN3 := andNot_2047 (t + 2048) hz2
          have FIN : Hid (RndP w g gr cap K ng ex (.returned (.tuple #[])) (V2.setCell ⟨gr, 0, none⟩ (.int .u64 (((t + 2048) / 2048 * 2048 : Nat) : Int)))) := Lib.hid (RndP.of hF2 hcap1 hRow2 hT2 hne (by rw [if_neg (by have := HKI.out; omega), HKI.out]; omega) (by rw [if_neg (by have := HKI.out; omega)]))
          obtain ⟨y, hy⟩ : ∃ y, y = (t + 2048) / 2048 * 2048 := ⟨_, rfl⟩
          rw [← hy] at FIN hN3
          obtain ⟨z, hzz⟩ : ∃ z, z = t + 2048 := ⟨_, rfl⟩
          rw [← hzz] at hc2 hN3
          clear hy hzz hz2 hsum hcar hF2 hT2 hRow2 hGr2 hD5 hD52
          go_wp2_with fail
          go_end0
          exact FIN.out
        · have htlt := HTL.out
          obtain ⟨z, hzz⟩ : ∃ z, z = t + 2048 - 18446744073709551616 := ⟨_, rfl⟩
          have hz2 : z < 18446744073709551616 := by omega
          have hzs : z < 2048 := by omega
          have hsum : z + 18446744073709551616 * 1 = t + 2048 := by omega
          have hKc : K = 9007199254740992 := by have := HKI.out; omega
          refine wpAnyH_ready (rs := [9]) (by kernel_rfl) (by simp) ?_
          refine (AllReadyH.cons rfl (fun K hK => ?_) AllReadyH.nil)
          go_simp
          (with_reducible refine Calls.mono (addVW1_any gr cap cap t 2048 z 1 hz2 (by omega) hsum f2 hf20 hcap1 hcap1 _ hRD.out) ?_)
          rintro e V2 ⟨rfl, hRow2, hGr2⟩
          have hF2 := hFD.out.far hGr2 hne
          have hD52 : V2.cell? ⟨g, 5, none⟩ = some (.slice (some ⟨gr, 0, none⟩) 1 cap) := Blk.cell hF2 5
          refine hK.out _ _ ?_ (fun hHeld => ?_)
          · (exact hD52)
          clear hK K
          try simp only [Act.put, List.setIfInBounds_toArray, List.set_cons_zero, List.set_cons_succ]
          refine wpAnyH_done (by kernel_rfl) ?_ _
          simp only [lastQ]
          obtain ⟨h0, h1, h2, h3, h4, h5, h6⟩ := hF2.cells
          have hz6 := Blk.frozen hF2 6
          have hT2 := hTD.out.grown2 hGr2
          have hF3 := hF2.exp (ex + 1)
          have hT3 := hT2.set1 6 (.int .i32 (ex + 1))
          have hRow3 := hRow2.setOther (a := ⟨g, 6, none⟩) hg2 (.int .i32 (ex + 1))
          have hD53 : (V2.setCell ⟨g, 6, none⟩ (.int .i32 (ex + 1))).drew.cell? ⟨g, 5, none⟩ = some (.slice (some ⟨gr, 0, none⟩) 1 cap) := Blk.cell hF3 5
          have hRD3 : Hid ((V2.setCell ⟨g, 6, none⟩ (.int .i32 (ex + 1))).drew.rowIs gr 100 cap (fun j => if j = 0 then .int .u64 ((z : Nat) : Int) else f2 j)) := Lib.hid hRow3
          have hFD3 : Hid (FB (V2.setCell ⟨g, 6, none⟩ (.int .i32 (ex + 1))).drew g 53 a 1 ng (.slice (some ⟨gr, 0, none⟩) 1 cap) (ex + 1)) := Lib.hid hF3
          have hTD3 : Hid (Two g gr w (V2.setCell ⟨g, 6, none⟩ (.int .i32 (ex + 1))).drew) := Lib.hid (hT3.grown1 ⟨rfl, rfl, rfl, Nat.le_refl _, fun _ _ _ => rfl⟩)
          have HZ2 := Lib.hid hz2
          have HZS := Lib.hid hzs
          have HKC := Lib.hid hKc
          clear hzz hz2 hsum hcar hF2 hT2 hRow2 hGr2 hD5 hD52 hF3 hT3 hRow3 htlt hzs hKc
          go_wp2_with fail
          refine wp_region_lastL _ _ _ (by simp only [List.dropLast]; rfl) (by simp only [List.getLast?_cons_cons, List.getLast?_singleton]; rfl) (fun X : World => X.cell? ⟨g, 5, none⟩ = some (.slice (some ⟨gr, 0, none⟩) 1 cap)) (by kernel_rfl) (by kernel_rfl) (hD53) (fun hHeld => ?_)
          generalize (V2.setCell ⟨g, 6, none⟩ (.int .i32 (ex + 1))).drew = v3 at *
          clear hHeld
          refine wpAnyH_take (i := 0) (oi := ?o0x345) (v := ?v0x345) ?hi0x345 (by kernel_rfl) (by kernel_rfl) (by kernel_rfl) ?hQ0x345 ?hy0x345 hD53 ?rest0x345
          case hi0x345 => (simp only [List.getElem?_toArray, List.getElem?_cons_zero]; rfl)
          case hQ0x345 => exact fun _ _ _ h => h
          case hy0x345 => (refine Or.inl ⟨by rfl, ?_⟩; intro W hSw; (try dsimp only at hSw); go_simp; (try with_reducible rfl))
          try simp only [Act.put, List.setIfInBounds_toArray, List.set_cons_zero, List.set_cons_succ]
          refine wpAnyH_take (i := 1) (oi := ?o1x346) (v := ?v1x346) ?hi1x346 (by kernel_rfl) (by kernel_rfl) (by kernel_rfl) ?hQ1x346 ?hy1x346 hD53 ?rest1x346
          case hi1x346 => (simp only [List.getElem?_toArray, List.getElem?_cons_succ, List.getElem?_cons_zero]; rfl)
          case hQ1x346 => exact fun _ _ _ h => h
          case hy1x346 => (refine Or.inl ⟨by rfl, ?_⟩; intro W hSw; (try dsimp only at hSw); go_simp; (try with_reducible rfl))
          try simp only [Act.put, List.setIfInBounds_toArray, List.set_cons_zero, List.set_cons_succ]
          refine wpAnyH_take (i := 2) (oi := ?o2x347) (v := ?v2x347) ?hi2x347 (by kernel_rfl) (by kernel_rfl) (by kernel_rfl) ?hQ2x347 ?hy2x347 hD53 ?rest2x347
          case hi2x347 => (simp only [List.getElem?_toArray, List.getElem?_cons_succ, List.getElem?_cons_zero]; rfl)
          case hQ2x347 => exact fun _ _ _ h => h
          case hy2x347 => (refine Or.inl ⟨by rfl, ?_⟩; intro W hSw; (try dsimp only at hSw); go_simp; (try with_reducible rfl))
          try simp only [Act.put, List.setIfInBounds_toArray, List.set_cons_zero, List.set_cons_succ]
          refine wpAnyH_take (i := 3) (oi := ?o3x348) (v := ?v3x348) ?hi3x348 (by kernel_rfl) (by kernel_rfl) (by kernel_rfl) ?hQ3x348 ?hy3x348 hD53 ?rest3x348
          case hi3x348 => (simp only [List.getElem?_toArray, List.getElem?_cons_succ, List.getElem?_cons_zero]; rfl)
          case hQ3x348 => exact fun _ _ _ h => h
          case hy3x348 => (refine Or.inl ⟨by rfl, ?_⟩; intro W hSw; (try dsimp only at hSw); go_simp; (try with_reducible rfl))
          try simp only [Act.put, List.setIfInBounds_toArray, List.set_cons_zero, List.set_cons_succ]
          refine wpAnyH_take (i := 4) (oi := ?o4x349) (v := ?v4x349) ?hi4x349 (by kernel_rfl) (by kernel_rfl) (by kernel_rfl) ?hQ4x349 ?hy4x349 hD53 ?rest4x349
          case hi4x349 => (simp only [List.getElem?_toArray, List.getElem?_cons_succ, List.getElem?_cons_zero]; rfl)
          case hQ4x349 => exact fun _ _ _ h => h
          case hy4x349 => (refine Or.inl ⟨by rfl, ?_⟩; intro W hSw; (try dsimp only at hSw); go_simp; (try with_reducible rfl))
          try simp only [Act.put, List.setIfInBounds_toArray, List.set_cons_zero, List.set_cons_succ]
          refine wpAnyH_take (i := 5) (oi := ?o5x350) (v := ?v5x350) ?hi5x350 (by kernel_rfl) (by kernel_rfl) (by kernel_rfl) ?hQ5x350 ?hy5x350 hD53 ?rest5x350
          case hi5x350 => (simp only [List.getElem?_toArray, List.getElem?_cons_succ, List.getElem?_cons_zero]; rfl)
          case hQ5x350 => exact fun _ _ _ h => h
          case hy5x350 => (refine Or.inl ⟨by rfl, ?_⟩; intro W hSw; (try dsimp only at hSw); go_simp; (try with_reducible rfl))
          try simp only [Act.put, List.setIfInBounds_toArray, List.set_cons_zero, List.set_cons_succ]
          refine wpAnyH_take (i := 6) (oi := ?o6x351) (v := ?v6x351) ?hi6x351 (by kernel_rfl) (by kernel_rfl) (by kernel_rfl) ?hQ6x351 ?hy6x351 hD53 ?rest6x351
          case hi6x351 => (simp only [List.getElem?_toArray, List.getElem?_cons_succ, List.getElem?_cons_zero]; rfl)
          case hQ6x351 => exact fun _ _ _ h => h
          case hy6x351 => (refine Or.inl ⟨by rfl, ?_⟩; intro W hSw; (try dsimp only at hSw); go_simp; (try with_reducible rfl))
          try simp only [Act.put, List.setIfInBounds_toArray, List.set_cons_zero, List.set_cons_succ]
          refine wpAnyH_take (i := 7) (oi := ?o7x352) (v := ?v7x352) ?hi7x352 (by kernel_rfl) (by kernel_rfl) (by kernel_rfl) ?hQ7x352 ?hy7x352 hD53 ?rest7x352
          case hi7x352 => (simp only [List.getElem?_toArray, List.getElem?_cons_succ, List.getElem?_cons_zero]; rfl)
          case hQ7x352 => exact fun _ _ _ h => h
          case hy7x352 => (refine Or.inl ⟨by rfl, ?_⟩; intro W hSw; (try dsimp only at hSw); go_simp; (try with_reducible rfl))
          try simp only [Act.put, List.setIfInBounds_toArray, List.set_cons_zero, List.set_cons_succ]
          refine wpAnyH_done (by kernel_rfl) ?_ _
          simp only [lastQ]
          go_simp
          (with_reducible refine Calls.mono (rshVU1_any gr cap cap z HZ2.out _ rfl hcap1 hcap1 _ hRD3.out) ?_)
          rintro e V4 ⟨⟨k4, rfl⟩, hRow4, hGr4⟩
          have hzh : z / 2 < 9223372036854775808 := by have := HZS.out; omega
          have hor := or_top (z / 2) hzh
          have hF4 := hFD3.out.far hGr4 hne
          have hT4 := hTD3.out.grown2 hGr4
          obtain ⟨x2, hx2⟩ : ∃ x2 : Nat, x2 = 9223372036854775808 + z / 2 := ⟨_, rfl⟩
          have hx2l : x2 < 18446744073709551616 := by omega
          rw [← hx2] at hor
          have hN5 := andNot_2047 x2 hx2l
          rw [show x2 / 2048 * 2048 = 9223372036854775808 by have := HZS.out; omega] at hN5
          have hc4 := hRow4.cell (i := 0) (by omega)
          rw [if_pos rfl] at hc4
          have hz4 := hRow4.frozen 0
          obtain ⟨h0, h1, h2, h3, h4, h5, h6⟩ := hF4.cells
          have hRow5 := hRow4.set 0 (.int .u64 ((x2 : Nat) : Int))
          have hF5 := hF4.far (set_grown _ gr 0 (.int .u64 ((x2 : Nat) : Int))) hne
          have hT5 := hT4.set2 0 (.int .u64 ((x2 : Nat) : Int))
          obtain ⟨i0, i1, i2, i3, i4, i5, i6⟩ := hF5.cells
          have hc5 := hRow5.cell (i := 0) (by omega)
          rw [if_pos rfl] at hc5
          have hz5 := hRow5.frozen 0
          have FIN : Hid (RndP w g gr cap K ng ex (.returned (.tuple #[])) ((V4.setCell ⟨gr, 0, none⟩ (.int .u64 ((x2 : Nat) : Int))).setCell ⟨gr, 0, none⟩ (.int .u64 ((9223372036854775808 : Nat) : Int)))) := Lib.hid (RndP.of hF5 hcap1 hRow5 hT5 hne (by rw [if_pos HKC.out]) (by rw [if_pos HKC.out]))
          obtain ⟨zh, hzhe⟩ : ∃ zh, zh = z / 2 := ⟨_, rfl⟩
          rw [← hzhe] at hc4 hor
          clear hzh hx2 hx2l hF4 hT4 hRow4 hGr4 hF5 hT5 hRow5 hD53 hzhe
          go_wp2_with fail
          go_end0
          exact FIN.out
      · have HKN : Hid (K = t / 2048) := Lib.hid (by rw [HK.out, if_neg (by omega), Nat.add_zero])
        rw [show t / 2048 % 2 = 0 by omega] at hA2048
        have hcond : (1 : Int) < (W : Int) + 1 := by have := HW0.out; omega
        have hcond2 : (0 : Int) < (W : Int) := by have := HW0.out; omega
        have hd5 : (w.setCell ⟨g, 2, none⟩ (.int .i8 0)).drew.cell? ⟨g, 5, none⟩ = some (.slice (some ⟨gr, 0, none⟩) (W + 1) cap) := d5
        have s2 := S2.out (by have := HW0.out; omega)
        go_enter Try.func70, Try.ntmps70
        go_wp2_with fail
        (with_reducible refine Calls.mono CB.out ?_)
        rintro e w1 ⟨rfl, rfl⟩
        go_wp2_with fail
        (with_reducible refine Calls.mono CS.out ?_)
        rintro e w1 ⟨rfl, rfl⟩
        go_wp2_with fail
        refine wp_region_lastL _ _ _ (by simp only [List.dropLast]; rfl) (by simp only [List.getLast?_cons_cons, List.getLast?_singleton]; rfl) (fun X : World => X.cell? ⟨g, 5, none⟩ = some (.slice (some ⟨gr, 0, none⟩) (W + 1) cap)) (by kernel_rfl) (by kernel_rfl) (hd5) (fun hHeld => ?_)
        refine wpAnyH_take (i := 0) (oi := ?o0x353) (v := ?v0x353) ?hi0x353 (by kernel_rfl) (by kernel_rfl) (by kernel_rfl) ?hQ0x353 ?hy0x353 hd5 ?rest0x353
        case hi0x353 => (simp only [List.getElem?_toArray, List.getElem?_cons_zero]; rfl)
        case hQ0x353 => exact fun _ _ _ h => h
        case hy0x353 => (refine Or.inl ⟨by rfl, ?_⟩; intro W hSw; (try dsimp only at hSw); go_simp; (try with_reducible rfl))
        try simp only [Act.put, List.setIfInBounds_toArray, List.set_cons_zero, List.set_cons_succ]
        refine wpAnyH_take (i := 1) (oi := ?o1x354) (v := ?v1x354) ?hi1x354 (by kernel_rfl) (by kernel_rfl) (by kernel_rfl) ?hQ1x354 ?hy1x354 hd5 ?rest1x354
        case hi1x354 => (simp only [List.getElem?_toArray, List.getElem?_cons_succ, List.getElem?_cons_zero]; rfl)
        case hQ1x354 => exact fun _ _ _ h => h
        case hy1x354 => (refine Or.inl ⟨by rfl, ?_⟩; intro W hSw; (try dsimp only at hSw); go_simp; (try with_reducible rfl))
        try simp only [Act.put, List.setIfInBounds_toArray, List.set_cons_zero, List.set_cons_succ]
        refine wpAnyH_take (i := 2) (oi := ?o2x355) (v := ?v2x355) ?hi2x355 (by kernel_rfl) (by kernel_rfl) (by kernel_rfl) ?hQ2x355 ?hy2x355 hd5 ?rest2x355
        case hi2x355 => (simp only [List.getElem?_toArray, List.getElem?_cons_succ, List.getElem?_cons_zero]; rfl)
        case hQ2x355 => exact fun _ _ _ h => h
        case hy2x355 => (refine Or.inl ⟨by rfl, ?_⟩; intro W hSw; (try dsimp only at hSw); go_simp; (try with_reducible rfl))
        try simp only [Act.put, List.setIfInBounds_toArray, List.set_cons_zero, List.set_cons_succ]
        refine wpAnyH_take (i := 3) (oi := ?o3x356) (v := ?v3x356) ?hi3x356 (by kernel_rfl) (by kernel_rfl) (by kernel_rfl) ?hQ3x356 ?hy3x356 hd5 ?rest3x356
        case hi3x356 => (simp only [List.getElem?_toArray, List.getElem?_cons_succ, List.getElem?_cons_zero]; rfl)
        case hQ3x356 => exact fun _ _ _ h => h
        case hy3x356 => (refine Or.inl ⟨by rfl, ?_⟩; intro W hSw; (try dsimp only at hSw); go_simp; (try with_reducible rfl))
        try simp only [Act.put, List.setIfInBounds_toArray, List.set_cons_zero, List.set_cons_succ]
        refine wpAnyH_take (i := 4) (oi := ?o4x357) (v := ?v4x357) ?hi4x357 (by kernel_rfl) (by kernel_rfl) (by kernel_rfl) ?hQ4x357 ?hy4x357 hd5 ?rest4x357
        case hi4x357 => (simp only [List.getElem?_toArray, List.getElem?_cons_succ, List.getElem?_cons_zero]; rfl)
        case hQ4x357 => exact fun _ _ _ h => h
        case hy4x357 => (refine Or.inl ⟨by rfl, ?_⟩; intro W hSw; (try dsimp only at hSw); go_simp; (try with_reducible rfl))
        try simp only [Act.put, List.setIfInBounds_toArray, List.set_cons_zero, List.set_cons_succ]
        refine wpAnyH_take (i := 5) (oi := ?o5x358) (v := ?v5x358) ?hi5x358 (by kernel_rfl) (by kernel_rfl) (by kernel_rfl) ?hQ5x358 ?hy5x358 hd5 ?rest5x358
        case hi5x358 => (simp only [List.getElem?_toArray, List.getElem?_cons_succ, List.getElem?_cons_zero]; rfl)
        case hQ5x358 => exact fun _ _ _ h => h
        case hy5x358 => (refine Or.inl ⟨by rfl, ?_⟩; intro W hSw; (try dsimp only at hSw); go_simp; (try with_reducible rfl))
        try simp only [Act.put, List.setIfInBounds_toArray, List.set_cons_zero, List.set_cons_succ]
        refine wpAnyH_take (i := 6) (oi := ?o6x359) (v := ?v6x359) ?hi6x359 (by kernel_rfl) (by kernel_rfl) (by kernel_rfl) ?hQ6x359 ?hy6x359 hd5 ?rest6x359
        case hi6x359 => (simp only [List.getElem?_toArray, List.getElem?_cons_succ, List.getElem?_cons_zero]; rfl)
        case hQ6x359 => exact fun _ _ _ h => h
        case hy6x359 => (refine Or.inl ⟨by rfl, ?_⟩; intro W hSw; (try dsimp only at hSw); go_simp; (try with_reducible rfl))
        try simp only [Act.put, List.setIfInBounds_toArray, List.set_cons_zero, List.set_cons_succ]
        refine wpAnyH_take (i := 7) (oi := ?o7x360) (v := ?v7x360) ?hi7x360 (by kernel_rfl) (by kernel_rfl) (by kernel_rfl) ?hQ7x360 ?hy7x360 hd5 ?rest7x360
        case hi7x360 => (simp only [List.getElem?_toArray, List.getElem?_cons_succ, List.getElem?_cons_zero]; rfl)
        case hQ7x360 => exact fun _ _ _ h => h
        case hy7x360 => (refine Or.inl ⟨by rfl, ?_⟩; intro W hSw; (try dsimp only at hSw); go_simp; (try with_reducible rfl))
        try simp only [Act.put, List.setIfInBounds_toArray, List.set_cons_zero, List.set_cons_succ]
        refine wpAnyH_take (i := 8) (oi := ?o8x361) (v := ?v8x361) ?hi8x361 (by kernel_rfl) (by kernel_rfl) (by kernel_rfl) ?hQ8x361 ?hy8x361 hd5 ?rest8x361
        case hi8x361 => (simp only [List.getElem?_toArray, List.getElem?_cons_succ, List.getElem?_cons_zero]; rfl)
        case hQ8x361 => exact fun _ _ _ h => h
        case hy8x361 => (refine Or.inl ⟨by rfl, ?_⟩; intro W hSw; (try dsimp only at hSw); go_simp; (try with_reducible rfl))
        try simp only [Act.put, List.setIfInBounds_toArray, List.set_cons_zero, List.set_cons_succ]
        refine wpAnyH_take (i := 9) (oi := ?o9x362) (v := ?v9x362) ?hi9x362 (by kernel_rfl) (by kernel_rfl) (by kernel_rfl) ?hQ9x362 ?hy9x362 hd5 ?rest9x362
        case hi9x362 => (simp only [List.getElem?_toArray, List.getElem?_cons_succ, List.getElem?_cons_zero]; rfl)
        case hQ9x362 => exact fun _ _ _ h => h
        case hy9x362 => (refine Or.inl ⟨by rfl, ?_⟩; intro W hSw; (try dsimp only at hSw); go_simp; (try with_reducible rfl))
        try simp only [Act.put, List.setIfInBounds_toArray, List.set_cons_zero, List.set_cons_succ]
        refine wpAnyH_take (i := 10) (oi := ?o10x363) (v := ?v10x363) ?hi10x363 (by kernel_rfl) (by kernel_rfl) (by kernel_rfl) ?hQ10x363 ?hy10x363 hd5 ?rest10x363
        case hi10x363 => (simp only [List.getElem?_toArray, List.getElem?_cons_succ, List.getElem?_cons_zero]; rfl)
        case hQ10x363 => exact fun _ _ _ h => h
        case hy10x363 => (refine Or.inl ⟨by rfl, ?_⟩; intro W hSw; (try dsimp only at hSw); go_simp; (try with_reducible rfl))
        try simp only [Act.put, List.setIfInBounds_toArray, List.set_cons_zero, List.set_cons_succ]
        refine wpAnyH_take (i := 11) (oi := ?o11x364) (v := ?v11x364) ?hi11x364 (by kernel_rfl) (by kernel_rfl) (by kernel_rfl) ?hQ11x364 ?hy11x364 hd5 ?rest11x364
        case hi11x364 => (simp only [List.getElem?_toArray, List.getElem?_cons_succ, List.getElem?_cons_zero]; rfl)
        case hQ11x364 => exact fun _ _ _ h => h
        case hy11x364 => (refine Or.inl ⟨by rfl, ?_⟩; intro W hSw; (try dsimp only at hSw); go_simp; (try with_reducible rfl))
        try simp only [Act.put, List.setIfInBounds_toArray, List.set_cons_zero, List.set_cons_succ]
        refine wpAnyH_done (by kernel_rfl) ?_ _
        simp only [lastQ]
        refine wp_copy_row (.tmp 82) (.tmp 90) _ _ rfl 100 Try.underlying57 size_word _ _ _ _ _ _ rfl rfl gr 0 1 cap 100 f (fun _ => .int .u64 (t : Int)) (show (w.setCell ⟨g, 2, none⟩ (.int .i8 0)).drew.rowIs gr 100 cap f from HROW.out) (by show 1 = min 1 (W + 1); omega) (fun _ => ⟨rfl, gr, W, rfl, fun j hj => by rw [show j = 0 by omega]; exact hcW⟩) (by omega) (fun _ _ => rfl) ?_
        intro v2 hrow2 hgr2
        have hF2 : FB v2 g 53 0 1 ng (.slice (some ⟨gr, 0, none⟩) (W + 1) cap) ex := FB.far (w := (w.setCell ⟨g, 2, none⟩ (.int .i8 0)).drew) HF1.out hgr2 hne
        have hT2 : Two g gr w v2 := (show Two g gr w (w.setCell ⟨g, 2, none⟩ (.int .i8 0)).drew from HT1.out.grown1 ⟨rfl, rfl, rfl, Nat.le_refl _, fun _ _ _ => rfl⟩).grown2 hgr2
        obtain ⟨b0, b1, b2, b3, b4, b5, b6⟩ := hF2.cells
        have bz5 := Blk.frozen hF2 5
        have hF3 := hF2.mant (.slice (some ⟨gr, 0, none⟩) 1 cap)
        have hT3 := hT2.set1 5 (.slice (some ⟨gr, 0, none⟩) 1 cap)
        have hrow3 := hrow2.setOther (a := ⟨g, 5, none⟩) hg2 (.slice (some ⟨gr, 0, none⟩) 1 cap)
        obtain ⟨f2, hf2e⟩ : ∃ f2 : Nat → Value, f2 = (fun j => if 0 ≤ j ∧ j < 0 + 1 then (fun _ => Value.int .u64 (t : Int)) (j - 0) else f j) := ⟨_, rfl⟩
        rw [← hf2e] at hrow3
        have hf20 : f2 0 = .int .u64 (t : Int) := by rw [hf2e]; rfl
        have HFF3 := Lib.hid hF3
        have HTT3 := Lib.hid hT3
        have HRR3 := Lib.hid hrow3
        obtain ⟨e0, e1, e2, e3, e4, e5, e6⟩ := hF3.cells
        have ez2 := Blk.frozen hF3 2
        have ec := hrow3.cell (i := 0) (by omega)
        rw [hf20] at ec
        have ef := hrow3.frozen 0
        have s1 := S1.out
        clear hF2 hT2 hF3 hT3 hrow3 hrow2 hgr2 hf2e hd5
        go_wp2_with fail
        (with_reducible refine Calls.mono (makeAcc_ex _ _) ?_)
        rintro e w9 ⟨⟨a, rfl⟩, rfl⟩
        have G1 := HFF3.out.acc a
        obtain ⟨g0, g1, g2, g3, g4, g5, g6⟩ := G1.cells
        have T1 := HTT3.out.set1 2 (.int .i8 a)
        have R1 := HRR3.out.setOther (a := ⟨g, 2, none⟩) hg2 (.int .i8 a)
        have gc := R1.cell (i := 0) (by omega)
        rw [hf20] at gc
        have gf := R1.frozen 0
        have FIN : Hid (RndP w g gr cap K ng ex (.returned (.tuple #[])) (((v2.setCell ⟨g, 5, none⟩ (.slice (some ⟨gr, 0, none⟩) 1 cap)).setCell ⟨g, 2, none⟩ (.int .i8 a)).setCell ⟨gr, 0, none⟩ (.int .u64 ((t / 2048 * 2048 : Nat) : Int)))) := Lib.hid (RndP.of G1 hcap1 R1 T1 hne (by rw [if_neg (by have := HKN.out; have := HTL.out; omega), HKN.out]) (by rw [if_neg (by have := HKN.out; have := HTL.out; omega)]))
        obtain ⟨y, hy⟩ : ∃ y, y = t / 2048 * 2048 := ⟨_, rfl⟩
        rw [← hy] at FIN hN2047
        clear hy
        clear G1 T1 R1
        go_wp2_with fail
        go_end0
        exact FIN.out
    · have HKI : Hid (K = t / 2048 + 1) := Lib.hid (by rw [HK.out, if_pos ⟨rfl, .inl rfl⟩])
      have hcond : (1 : Int) < (W : Int) + 1 := by have := HW0.out; omega
      have hcond2 : (0 : Int) < (W : Int) := by have := HW0.out; omega
      have hd5 : (w.setCell ⟨g, 2, none⟩ (.int .i8 0)).drew.cell? ⟨g, 5, none⟩ = some (.slice (some ⟨gr, 0, none⟩) (W + 1) cap) := d5
      have s2 := S2.out (by have := HW0.out; omega)
      go_enter Try.func70, Try.ntmps70
      go_wp2_with fail
      (with_reducible refine Calls.mono CB.out ?_)
      rintro e w1 ⟨rfl, rfl⟩
      go_wp2_with fail
      (with_reducible refine Calls.mono CS.out ?_)
      rintro e w1 ⟨rfl, rfl⟩
      go_wp2_with fail
      refine wp_region_lastL _ _ _ (by simp only [List.dropLast]; rfl) (by simp only [List.getLast?_cons_cons, List.getLast?_singleton]; rfl) (fun X : World => X.cell? ⟨g, 5, none⟩ = some (.slice (some ⟨gr, 0, none⟩) (W + 1) cap)) (by kernel_rfl) (by kernel_rfl) (hd5) (fun hHeld => ?_)
      refine wpAnyH_take (i := 0) (oi := ?o0x365) (v := ?v0x365) ?hi0x365 (by kernel_rfl) (by kernel_rfl) (by kernel_rfl) ?hQ0x365 ?hy0x365 hd5 ?rest0x365
      case hi0x365 => (simp only [List.getElem?_toArray, List.getElem?_cons_zero]; rfl)
      case hQ0x365 => exact fun _ _ _ h => h
      case hy0x365 => (refine Or.inl ⟨by rfl, ?_⟩; intro W hSw; (try dsimp only at hSw); go_simp; (try with_reducible rfl))
      try simp only [Act.put, List.setIfInBounds_toArray, List.set_cons_zero, List.set_cons_succ]
      refine wpAnyH_take (i := 1) (oi := ?o1x366) (v := ?v1x366) ?hi1x366 (by kernel_rfl) (by kernel_rfl) (by kernel_rfl) ?hQ1x366 ?hy1x366 hd5 ?rest1x366
      case hi1x366 => (simp only [List.getElem?_toArray, List.getElem?_cons_succ, List.getElem?_cons_zero]; rfl)
      case hQ1x366 => exact fun _ _ _ h => h
      case hy1x366 => (refine Or.inl ⟨by rfl, ?_⟩; intro W hSw; (try dsimp only at hSw); go_simp; (try with_reducible rfl))
      try simp only [Act.put, List.setIfInBounds_toArray, List.set_cons_zero, List.set_cons_succ]
      refine wpAnyH_take (i := 2) (oi := ?o2x367) (v := ?v2x367) ?hi2x367 (by kernel_rfl) (by kernel_rfl) (by kernel_rfl) ?hQ2x367 ?hy2x367 hd5 ?rest2x367
      case hi2x367 => (simp only [List.getElem?_toArray, List.getElem?_cons_succ, List.getElem?_cons_zero]; rfl)
      case hQ2x367 => exact fun _ _ _ h => h
      case hy2x367 => (refine Or.inl ⟨by rfl, ?_⟩; intro W hSw; (try dsimp only at hSw); go_simp; (try with_reducible rfl))
      try simp only [Act.put, List.setIfInBounds_toArray, List.set_cons_zero, List.set_cons_succ]
      refine wpAnyH_take (i := 3) (oi := ?o3x368) (v := ?v3x368) ?hi3x368 (by kernel_rfl) (by kernel_rfl) (by kernel_rfl) ?hQ3x368 ?hy3x368 hd5 ?rest3x368
      case hi3x368 => (simp only [List.getElem?_toArray, List.getElem?_cons_succ, List.getElem?_cons_zero]; rfl)
      case hQ3x368 => exact fun _ _ _ h => h
      case hy3x368 => (refine Or.inl ⟨by rfl, ?_⟩; intro W hSw; (try dsimp only at hSw); go_simp; (try with_reducible rfl))
      try simp only [Act.put, List.setIfInBounds_toArray, List.set_cons_zero, List.set_cons_succ]
      refine wpAnyH_take (i := 4) (oi := ?o4x369) (v := ?v4x369) ?hi4x369 (by kernel_rfl) (by kernel_rfl) (by kernel_rfl) ?hQ4x369 ?hy4x369 hd5 ?rest4x369
      case hi4x369 => (simp only [List.getElem?_toArray, List.getElem?_cons_succ, List.getElem?_cons_zero]; rfl)
      case hQ4x369 => exact fun _ _ _ h => h
      case hy4x369 => (refine Or.inl ⟨by rfl, ?_⟩; intro W hSw; (try dsimp only at hSw); go_simp; (try with_reducible rfl))
      try simp only [Act.put, List.setIfInBounds_toArray, List.set_cons_zero, List.set_cons_succ]
      refine wpAnyH_take (i := 5) (oi := ?o5x370) (v := ?v5x370) ?hi5x370 (by kernel_rfl) (by kernel_rfl) (by kernel_rfl) ?hQ5x370 ?hy5x370 hd5 ?rest5x370
      case hi5x370 => (simp only [List.getElem?_toArray, List.getElem?_cons_succ, List.getElem?_cons_zero]; rfl)
      case hQ5x370 => exact fun _ _ _ h => h
      case hy5x370 => (refine Or.inl ⟨by rfl, ?_⟩; intro W hSw; (try dsimp only at hSw); go_simp; (try with_reducible rfl))
      try simp only [Act.put, List.setIfInBounds_toArray, List.set_cons_zero, List.set_cons_succ]
      refine wpAnyH_take (i := 6) (oi := ?o6x371) (v := ?v6x371) ?hi6x371 (by kernel_rfl) (by kernel_rfl) (by kernel_rfl) ?hQ6x371 ?hy6x371 hd5 ?rest6x371
      case hi6x371 => (simp only [List.getElem?_toArray, List.getElem?_cons_succ, List.getElem?_cons_zero]; rfl)
      case hQ6x371 => exact fun _ _ _ h => h
      case hy6x371 => (refine Or.inl ⟨by rfl, ?_⟩; intro W hSw; (try dsimp only at hSw); go_simp; (try with_reducible rfl))
      try simp only [Act.put, List.setIfInBounds_toArray, List.set_cons_zero, List.set_cons_succ]
      refine wpAnyH_take (i := 7) (oi := ?o7x372) (v := ?v7x372) ?hi7x372 (by kernel_rfl) (by kernel_rfl) (by kernel_rfl) ?hQ7x372 ?hy7x372 hd5 ?rest7x372
      case hi7x372 => (simp only [List.getElem?_toArray, List.getElem?_cons_succ, List.getElem?_cons_zero]; rfl)
      case hQ7x372 => exact fun _ _ _ h => h
      case hy7x372 => (refine Or.inl ⟨by rfl, ?_⟩; intro W hSw; (try dsimp only at hSw); go_simp; (try with_reducible rfl))
      try simp only [Act.put, List.setIfInBounds_toArray, List.set_cons_zero, List.set_cons_succ]
      refine wpAnyH_take (i := 8) (oi := ?o8x373) (v := ?v8x373) ?hi8x373 (by kernel_rfl) (by kernel_rfl) (by kernel_rfl) ?hQ8x373 ?hy8x373 hd5 ?rest8x373
      case hi8x373 => (simp only [List.getElem?_toArray, List.getElem?_cons_succ, List.getElem?_cons_zero]; rfl)
      case hQ8x373 => exact fun _ _ _ h => h
      case hy8x373 => (refine Or.inl ⟨by rfl, ?_⟩; intro W hSw; (try dsimp only at hSw); go_simp; (try with_reducible rfl))
      try simp only [Act.put, List.setIfInBounds_toArray, List.set_cons_zero, List.set_cons_succ]
      refine wpAnyH_take (i := 9) (oi := ?o9x374) (v := ?v9x374) ?hi9x374 (by kernel_rfl) (by kernel_rfl) (by kernel_rfl) ?hQ9x374 ?hy9x374 hd5 ?rest9x374
      case hi9x374 => (simp only [List.getElem?_toArray, List.getElem?_cons_succ, List.getElem?_cons_zero]; rfl)
      case hQ9x374 => exact fun _ _ _ h => h
      case hy9x374 => (refine Or.inl ⟨by rfl, ?_⟩; intro W hSw; (try dsimp only at hSw); go_simp; (try with_reducible rfl))
      try simp only [Act.put, List.setIfInBounds_toArray, List.set_cons_zero, List.set_cons_succ]
      refine wpAnyH_take (i := 10) (oi := ?o10x375) (v := ?v10x375) ?hi10x375 (by kernel_rfl) (by kernel_rfl) (by kernel_rfl) ?hQ10x375 ?hy10x375 hd5 ?rest10x375
      case hi10x375 => (simp only [List.getElem?_toArray, List.getElem?_cons_succ, List.getElem?_cons_zero]; rfl)
      case hQ10x375 => exact fun _ _ _ h => h
      case hy10x375 => (refine Or.inl ⟨by rfl, ?_⟩; intro W hSw; (try dsimp only at hSw); go_simp; (try with_reducible rfl))
      try simp only [Act.put, List.setIfInBounds_toArray, List.set_cons_zero, List.set_cons_succ]
      refine wpAnyH_take (i := 11) (oi := ?o11x376) (v := ?v11x376) ?hi11x376 (by kernel_rfl) (by kernel_rfl) (by kernel_rfl) ?hQ11x376 ?hy11x376 hd5 ?rest11x376
      case hi11x376 => (simp only [List.getElem?_toArray, List.getElem?_cons_succ, List.getElem?_cons_zero]; rfl)
      case hQ11x376 => exact fun _ _ _ h => h
      case hy11x376 => (refine Or.inl ⟨by rfl, ?_⟩; intro W hSw; (try dsimp only at hSw); go_simp; (try with_reducible rfl))
      try simp only [Act.put, List.setIfInBounds_toArray, List.set_cons_zero, List.set_cons_succ]
      refine wpAnyH_done (by kernel_rfl) ?_ _
      simp only [lastQ]
      refine wp_copy_row (.tmp 82) (.tmp 90) _ _ rfl 100 Try.underlying57 size_word _ _ _ _ _ _ rfl rfl gr 0 1 cap 100 f (fun _ => .int .u64 (t : Int)) (show (w.setCell ⟨g, 2, none⟩ (.int .i8 0)).drew.rowIs gr 100 cap f from HROW.out) (by show 1 = min 1 (W + 1); omega) (fun _ => ⟨rfl, gr, W, rfl, fun j hj => by rw [show j = 0 by omega]; exact hcW⟩) (by omega) (fun _ _ => rfl) ?_
      intro v2 hrow2 hgr2
      have hF2 : FB v2 g 53 0 1 ng (.slice (some ⟨gr, 0, none⟩) (W + 1) cap) ex := FB.far (w := (w.setCell ⟨g, 2, none⟩ (.int .i8 0)).drew) HF1.out hgr2 hne
      have hT2 : Two g gr w v2 := (show Two g gr w (w.setCell ⟨g, 2, none⟩ (.int .i8 0)).drew from HT1.out.grown1 ⟨rfl, rfl, rfl, Nat.le_refl _, fun _ _ _ => rfl⟩).grown2 hgr2
      obtain ⟨b0, b1, b2, b3, b4, b5, b6⟩ := hF2.cells
      have bz5 := Blk.frozen hF2 5
      have hF3 := hF2.mant (.slice (some ⟨gr, 0, none⟩) 1 cap)
      have hT3 := hT2.set1 5 (.slice (some ⟨gr, 0, none⟩) 1 cap)
      have hrow3 := hrow2.setOther (a := ⟨g, 5, none⟩) hg2 (.slice (some ⟨gr, 0, none⟩) 1 cap)
      obtain ⟨f2, hf2e⟩ : ∃ f2 : Nat → Value, f2 = (fun j => if 0 ≤ j ∧ j < 0 + 1 then (fun _ => Value.int .u64 (t : Int)) (j - 0) else f j) := ⟨_, rfl⟩
      rw [← hf2e] at hrow3
      have hf20 : f2 0 = .int .u64 (t : Int) := by rw [hf2e]; rfl
      have HFF3 := Lib.hid hF3
      have HTT3 := Lib.hid hT3
      have HRR3 := Lib.hid hrow3
      obtain ⟨e0, e1, e2, e3, e4, e5, e6⟩ := hF3.cells
      have ez2 := Blk.frozen hF3 2
      have ec := hrow3.cell (i := 0) (by omega)
      rw [hf20] at ec
      have ef := hrow3.frozen 0
      have s1 := S1.out
      clear hF2 hT2 hF3 hT3 hrow3 hrow2 hgr2 hf2e hd5
      go_wp2_with fail
      (with_reducible refine Calls.mono (makeAcc_ex _ _) ?_)
      rintro e w9 ⟨⟨a, rfl⟩, rfl⟩
      have G1 := HFF3.out.acc a
      obtain ⟨g0, g1, g2, g3, g4, g5, g6⟩ := G1.cells
      have T1 := HTT3.out.set1 2 (.int .i8 a)
      have R1 := HRR3.out.setOther (a := ⟨g, 2, none⟩) hg2 (.int .i8 a)
      have gc := R1.cell (i := 0) (by omega)
      rw [hf20] at gc
      have gf := R1.frozen 0
      have G1h := Lib.hid G1
      have T1h := Lib.hid T1
      have R1h := Lib.hid R1
      clear G1 T1 R1
      go_wp2_with fail
      have hD5 : ((v2.setCell ⟨g, 5, none⟩ (.slice (some ⟨gr, 0, none⟩) 1 cap)).setCell ⟨g, 2, none⟩ (.int .i8 a)).drew.cell? ⟨g, 5, none⟩ = some (.slice (some ⟨gr, 0, none⟩) 1 cap) := g5
      have hRD : Hid (((v2.setCell ⟨g, 5, none⟩ (.slice (some ⟨gr, 0, none⟩) 1 cap)).setCell ⟨g, 2, none⟩ (.int .i8 a)).drew.rowIs gr 100 cap f2) := Lib.hid R1h.out
      have hFD : Hid (FB ((v2.setCell ⟨g, 5, none⟩ (.slice (some ⟨gr, 0, none⟩) 1 cap)).setCell ⟨g, 2, none⟩ (.int .i8 a)).drew g 53 a 1 ng (.slice (some ⟨gr, 0, none⟩) 1 cap) ex) := Lib.hid G1h.out
      have hTD : Hid (Two g gr w ((v2.setCell ⟨g, 5, none⟩ (.slice (some ⟨gr, 0, none⟩) 1 cap)).setCell ⟨g, 2, none⟩ (.int .i8 a)).drew) := Lib.hid ((T1h.out).grown1 ⟨rfl, rfl, rfl, Nat.le_refl _, fun _ _ _ => rfl⟩)
      clear G1h T1h R1h
      refine wp_region_lastL _ _ _ (by simp only [List.dropLast]; rfl) (by simp only [List.getLast?_cons_cons, List.getLast?_singleton]; rfl) (fun X : World => X.cell? ⟨g, 5, none⟩ = some (.slice (some ⟨gr, 0, none⟩) 1 cap)) (by kernel_rfl) (by kernel_rfl) (hD5) (fun hHeld => ?_)
      generalize ((v2.setCell ⟨g, 5, none⟩ (.slice (some ⟨gr, 0, none⟩) 1 cap)).setCell ⟨g, 2, none⟩ (.int .i8 a)).drew = vd at *
      clear hHeld
      refine wpAnyH_take (i := 0) (oi := ?o0x377) (v := ?v0x377) ?hi0x377 (by kernel_rfl) (by kernel_rfl) (by kernel_rfl) ?hQ0x377 ?hy0x377 hD5 ?rest0x377
      case hi0x377 => (simp only [List.getElem?_toArray, List.getElem?_cons_zero]; rfl)
      case hQ0x377 => exact fun _ _ _ h => h
      case hy0x377 => (refine Or.inl ⟨by rfl, ?_⟩; intro W hSw; (try dsimp only at hSw); go_simp; (try with_reducible rfl))
      try simp only [Act.put, List.setIfInBounds_toArray, List.set_cons_zero, List.set_cons_succ]
      refine wpAnyH_take (i := 1) (oi := ?o1x378) (v := ?v1x378) ?hi1x378 (by kernel_rfl) (by kernel_rfl) (by kernel_rfl) ?hQ1x378 ?hy1x378 hD5 ?rest1x378
      case hi1x378 => (simp only [List.getElem?_toArray, List.getElem?_cons_succ, List.getElem?_cons_zero]; rfl)
      case hQ1x378 => exact fun _ _ _ h => h
      case hy1x378 => (refine Or.inl ⟨by rfl, ?_⟩; intro W hSw; (try dsimp only at hSw); go_simp; (try with_reducible rfl))
      try simp only [Act.put, List.setIfInBounds_toArray, List.set_cons_zero, List.set_cons_succ]
      refine wpAnyH_take (i := 2) (oi := ?o2x379) (v := ?v2x379) ?hi2x379 (by kernel_rfl) (by kernel_rfl) (by kernel_rfl) ?hQ2x379 ?hy2x379 hD5 ?rest2x379
      case hi2x379 => (simp only [List.getElem?_toArray, List.getElem?_cons_succ, List.getElem?_cons_zero]; rfl)
      case hQ2x379 => exact fun _ _ _ h => h
      case hy2x379 => (refine Or.inl ⟨by rfl, ?_⟩; intro W hSw; (try dsimp only at hSw); go_simp; (try with_reducible rfl))
      try simp only [Act.put, List.setIfInBounds_toArray, List.set_cons_zero, List.set_cons_succ]
      refine wpAnyH_take (i := 3) (oi := ?o3x380) (v := ?v3x380) ?hi3x380 (by kernel_rfl) (by kernel_rfl) (by kernel_rfl) ?hQ3x380 ?hy3x380 hD5 ?rest3x380
      case hi3x380 => (simp only [List.getElem?_toArray, List.getElem?_cons_succ, List.getElem?_cons_zero]; rfl)
      case hQ3x380 => exact fun _ _ _ h => h
      case hy3x380 => (refine Or.inl ⟨by rfl, ?_⟩; intro W hSw; (try dsimp only at hSw); go_simp; (try with_reducible rfl))
      try simp only [Act.put, List.setIfInBounds_toArray, List.set_cons_zero, List.set_cons_succ]
      refine wpAnyH_take (i := 4) (oi := ?o4x381) (v := ?v4x381) ?hi4x381 (by kernel_rfl) (by kernel_rfl) (by kernel_rfl) ?hQ4x381 ?hy4x381 hD5 ?rest4x381
      case hi4x381 => (simp only [List.getElem?_toArray, List.getElem?_cons_succ, List.getElem?_cons_zero]; rfl)
      case hQ4x381 => exact fun _ _ _ h => h
      case hy4x381 => (refine Or.inl ⟨by rfl, ?_⟩; intro W hSw; (try dsimp only at hSw); go_simp; (try with_reducible rfl))
      try simp only [Act.put, List.setIfInBounds_toArray, List.set_cons_zero, List.set_cons_succ]
      refine wpAnyH_take (i := 5) (oi := ?o5x382) (v := ?v5x382) ?hi5x382 (by kernel_rfl) (by kernel_rfl) (by kernel_rfl) ?hQ5x382 ?hy5x382 hD5 ?rest5x382
      case hi5x382 => (simp only [List.getElem?_toArray, List.getElem?_cons_succ, List.getElem?_cons_zero]; rfl)
      case hQ5x382 => exact fun _ _ _ h => h
      case hy5x382 => (refine Or.inl ⟨by rfl, ?_⟩; intro W hSw; (try dsimp only at hSw); go_simp; (try with_reducible rfl))
      try simp only [Act.put, List.setIfInBounds_toArray, List.set_cons_zero, List.set_cons_succ]
      refine wpAnyH_take (i := 6) (oi := ?o6x383) (v := ?v6x383) ?hi6x383 (by kernel_rfl) (by kernel_rfl) (by kernel_rfl) ?hQ6x383 ?hy6x383 hD5 ?rest6x383
      case hi6x383 => (simp only [List.getElem?_toArray, List.getElem?_cons_succ, List.getElem?_cons_zero]; rfl)
      case hQ6x383 => exact fun _ _ _ h => h
      case hy6x383 => (refine Or.inl ⟨by rfl, ?_⟩; intro W hSw; (try dsimp only at hSw); go_simp; (try with_reducible rfl))
      try simp only [Act.put, List.setIfInBounds_toArray, List.set_cons_zero, List.set_cons_succ]
      refine wpAnyH_take (i := 7) (oi := ?o7x384) (v := ?v7x384) ?hi7x384 (by kernel_rfl) (by kernel_rfl) (by kernel_rfl) ?hQ7x384 ?hy7x384 hD5 ?rest7x384
      case hi7x384 => (simp only [List.getElem?_toArray, List.getElem?_cons_succ, List.getElem?_cons_zero]; rfl)
      case hQ7x384 => exact fun _ _ _ h => h
      case hy7x384 => (refine Or.inl ⟨by rfl, ?_⟩; intro W hSw; (try dsimp only at hSw); go_simp; (try with_reducible rfl))
      try simp only [Act.put, List.setIfInBounds_toArray, List.set_cons_zero, List.set_cons_succ]
      refine wpAnyH_take (i := 8) (oi := ?o8x385) (v := ?v8x385) ?hi8x385 (by kernel_rfl) (by kernel_rfl) (by kernel_rfl) ?hQ8x385 ?hy8x385 hD5 ?rest8x385
      case hi8x385 => (simp only [List.getElem?_toArray, List.getElem?_cons_succ, List.getElem?_cons_zero]; rfl)
      case hQ8x385 => exact fun _ _ _ h => h
      case hy8x385 => (refine Or.inl ⟨by rfl, ?_⟩; intro W hSw; (try dsimp only at hSw); go_simp; (try with_reducible rfl))
      try simp only [Act.put, List.setIfInBounds_toArray, List.set_cons_zero, List.set_cons_succ]
      by_cases hcar : t < 18446744073709549568
      · have hz2 : t + 2048 < 18446744073709551616 := by omega
        have hsum : t + 2048 + 18446744073709551616 * 0 = t + 2048 := by omega
        refine wpAnyH_ready (rs := [9]) (by kernel_rfl) (by simp) ?_
        refine (AllReadyH.cons rfl (fun K hK => ?_) AllReadyH.nil)
        go_simp
        (with_reducible refine Calls.mono (addVW1_any gr cap cap t 2048 (t + 2048) 0 hz2 (by omega) hsum f2 hf20 hcap1 hcap1 _ hRD.out) ?_)
        rintro e V2 ⟨rfl, hRow2, hGr2⟩
        have hF2 := hFD.out.far hGr2 hne
        have hD52 : V2.cell? ⟨g, 5, none⟩ = some (.slice (some ⟨gr, 0, none⟩) 1 cap) := Blk.cell hF2 5
        refine hK.out _ _ ?_ (fun hHeld => ?_)
        · (exact hD52)
        clear hK K
        try simp only [Act.put, List.setIfInBounds_toArray, List.set_cons_zero, List.set_cons_succ]
        refine wpAnyH_done (by kernel_rfl) ?_ _
        simp only [lastQ]
        obtain ⟨h0, h1, h2, h3, h4, h5, h6⟩ := hF2.cells
        have hT2 := hTD.out.grown2 hGr2
        have hc2 := hRow2.cell (i := 0) (by omega)
        rw [if_pos rfl] at hc2
        have hz3 := hRow2.frozen 0
        have hN3 := andNot_2047 (t + 2048) hz2
        have FIN : Hid (RndP w g gr cap K ng ex (.returned (.tuple #[])) (V2.setCell ⟨gr, 0, none⟩ (.int .u64 (((t + 2048) / 2048 * 2048 : Nat) : Int)))) := Lib.hid (RndP.of hF2 hcap1 hRow2 hT2 hne (by rw [if_neg (by have := HKI.out; omega), HKI.out]; omega) (by rw [if_neg (by have := HKI.out; omega)]))
        obtain ⟨y, hy⟩ : ∃ y, y = (t + 2048) / 2048 * 2048 := ⟨_, rfl⟩
        rw [← hy] at FIN hN3
        obtain ⟨z, hzz⟩ : ∃ z, z = t + 2048 := ⟨_, rfl⟩
        rw [← hzz] at hc2 hN3
        clear hy hzz hz2 hsum hcar hF2 hT2 hRow2 hGr2 hD5 hD52
        go_wp2_with fail
        go_end0
        exact FIN.out
      · have htlt := HTL.out
        obtain ⟨z, hzz⟩ : ∃ z, z = t + 2048 - 18446744073709551616 := ⟨_, rfl⟩
        have hz2 : z < 18446744073709551616 := by omega
        have hzs : z < 2048 := by omega
        have hsum : z + 18446744073709551616 * 1 = t + 2048 := by omega
        have hKc : K = 9007199254740992 := by have := HKI.out; omega
        refine wpAnyH_ready (rs := [9]) (by kernel_rfl) (by simp) ?_
        refine (AllReadyH.cons rfl (fun K hK => ?_) AllReadyH.nil)
        go_simp
        (with_reducible refine Calls.mono (addVW1_any gr cap cap t 2048 z 1 hz2 (by omega) hsum f2 hf20 hcap1 hcap1 _ hRD.out) ?_)
        rintro e V2 ⟨rfl, hRow2, hGr2⟩
        have hF2 := hFD.out.far hGr2 hne
        have hD52 : V2.cell? ⟨g, 5, none⟩ = some (.slice (some ⟨gr, 0, none⟩) 1 cap) := Blk.cell hF2 5
        refine hK.out _ _ ?_ (fun hHeld => ?_)
        · (exact hD52)
        clear hK K
        try simp only [Act.put, List.setIfInBounds_toArray, List.set_cons_zero, List.set_cons_succ]
        refine wpAnyH_done (by kernel_rfl) ?_ _
        simp only [lastQ]
        obtain ⟨h0, h1, h2, h3, h4, h5, h6⟩ := hF2.cells
        have hz6 := Blk.frozen hF2 6
        have hT2 := hTD.out.grown2 hGr2
        have hF3 := hF2.exp (ex + 1)
        have hT3 := hT2.set1 6 (.int .i32 (ex + 1))
        have hRow3 := hRow2.setOther (a := ⟨g, 6, none⟩) hg2 (.int .i32 (ex + 1))
        have hD53 : (V2.setCell ⟨g, 6, none⟩ (.int .i32 (ex + 1))).drew.cell? ⟨g, 5, none⟩ = some (.slice (some ⟨gr, 0, none⟩) 1 cap) := Blk.cell hF3 5
        have hRD3 : Hid ((V2.setCell ⟨g, 6, none⟩ (.int .i32 (ex + 1))).drew.rowIs gr 100 cap (fun j => if j = 0 then .int .u64 ((z : Nat) : Int) else f2 j)) := Lib.hid hRow3
        have hFD3 : Hid (FB (V2.setCell ⟨g, 6, none⟩ (.int .i32 (ex + 1))).drew g 53 a 1 ng (.slice (some ⟨gr, 0, none⟩) 1 cap) (ex + 1)) := Lib.hid hF3
        have hTD3 : Hid (Two g gr w (V2.setCell ⟨g, 6, none⟩ (.int .i32 (ex + 1))).drew) := Lib.hid (hT3.grown1 ⟨rfl, rfl, rfl, Nat.le_refl _, fun _ _ _ => rfl⟩)
        have HZ2 := Lib.hid hz2
        have HZS := Lib.hid hzs
        have HKC := Lib.hid hKc
        clear hzz hz2 hsum hcar hF2 hT2 hRow2 hGr2 hD5 hD52 hF3 hT3 hRow3 htlt hzs hKc
        go_wp2_with fail
        refine wp_region_lastL _ _ _ (by simp only [List.dropLast]; rfl) (by simp only [List.getLast?_cons_cons, List.getLast?_singleton]; rfl) (fun X : World => X.cell? ⟨g, 5, none⟩ = some (.slice (some ⟨gr, 0, none⟩) 1 cap)) (by kernel_rfl) (by kernel_rfl) (hD53) (fun hHeld => ?_)
        generalize (V2.setCell ⟨g, 6, none⟩ (.int .i32 (ex + 1))).drew = v3 at *
        clear hHeld
        refine wpAnyH_take (i := 0) (oi := ?o0x386) (v := ?v0x386) ?hi0x386 (by kernel_rfl) (by kernel_rfl) (by kernel_rfl) ?hQ0x386 ?hy0x386 hD53 ?rest0x386
        case hi0x386 => (simp only [List.getElem?_toArray, List.getElem?_cons_zero]; rfl)
        case hQ0x386 => exact fun _ _ _ h => h
        case hy0x386 => (refine Or.inl ⟨by rfl, ?_⟩; intro W hSw; (try dsimp only at hSw); go_simp; (try with_reducible rfl))
        try simp only [Act.put, List.setIfInBounds_toArray, List.set_cons_zero, List.set_cons_succ]
        refine wpAnyH_take (i := 1) (oi := ?o1x387) (v := ?v1x387) ?hi1x387 (by kernel_rfl) (by kernel_rfl) (by kernel_rfl) ?hQ1x387 ?hy1x387 hD53 ?rest1x387
        case hi1x387 => (simp only [List.getElem?_toArray, List.getElem?_cons_succ, List.getElem?_cons_zero]; rfl)
        case hQ1x387 => exact fun _ _ _ h => h
        case hy1x387 => (refine Or.inl ⟨by rfl, ?_⟩; intro W hSw; (try dsimp only at hSw); go_simp; (try with_reducible rfl))
        try simp only [Act.put, List.setIfInBounds_toArray, List.set_cons_zero, List.set_cons_succ]
        refine wpAnyH_take (i := 2) (oi := ?o2x388) (v := ?v2x388) ?hi2x388 (by kernel_rfl) (by kernel_rfl) (by kernel_rfl) ?hQ2x388 ?hy2x388 hD53 ?rest2x388
        case hi2x388 => (simp only [List.getElem?_toArray, List.getElem?_cons_succ, List.getElem?_cons_zero]; rfl)
        case hQ2x388 => exact fun _ _ _ h => h
        case hy2x388 => (refine Or.inl ⟨by rfl, ?_⟩; intro W hSw; (try dsimp only at hSw); go_simp; (try with_reducible rfl))
        try simp only [Act.put, List.setIfInBounds_toArray, List.set_cons_zero, List.set_cons_succ]
        refine wpAnyH_take (i := 3) (oi := ?o3x389) (v := ?v3x389) ?hi3x389 (by kernel_rfl) (by kernel_rfl) (by kernel_rfl) ?hQ3x389 ?hy3x389 hD53 ?rest3x389
        case hi3x389 => (simp only [List.getElem?_toArray, List.getElem?_cons_succ, List.getElem?_cons_zero]; rfl)
        case hQ3x389 => exact fun _ _ _ h => h
        case hy3x389 => (refine Or.inl ⟨by rfl, ?_⟩; intro W hSw; (try dsimp only at hSw); go_simp; (try with_reducible rfl))
        try simp only [Act.put, List.setIfInBounds_toArray, List.set_cons_zero, List.set_cons_succ]
        refine wpAnyH_take (i := 4) (oi := ?o4x390) (v := ?v4x390) ?hi4x390 (by kernel_rfl) (by kernel_rfl) (by kernel_rfl) ?hQ4x390 ?hy4x390 hD53 ?rest4x390
        case hi4x390 => (simp only [List.getElem?_toArray, List.getElem?_cons_succ, List.getElem?_cons_zero]; rfl)
        case hQ4x390 => exact fun _ _ _ h => h
        case hy4x390 => (refine Or.inl ⟨by rfl, ?_⟩; intro W hSw; (try dsimp only at hSw); go_simp; (try with_reducible rfl))
        try simp only [Act.put, List.setIfInBounds_toArray, List.set_cons_zero, List.set_cons_succ]
        refine wpAnyH_take (i := 5) (oi := ?o5x391) (v := ?v5x391) ?hi5x391 (by kernel_rfl) (by kernel_rfl) (by kernel_rfl) ?hQ5x391 ?hy5x391 hD53 ?rest5x391
        case hi5x391 => (simp only [List.getElem?_toArray, List.getElem?_cons_succ, List.getElem?_cons_zero]; rfl)
        case hQ5x391 => exact fun _ _ _ h => h
        case hy5x391 => (refine Or.inl ⟨by rfl, ?_⟩; intro W hSw; (try dsimp only at hSw); go_simp; (try with_reducible rfl))
        try simp only [Act.put, List.setIfInBounds_toArray, List.set_cons_zero, List.set_cons_succ]
        refine wpAnyH_take (i := 6) (oi := ?o6x392) (v := ?v6x392) ?hi6x392 (by kernel_rfl) (by kernel_rfl) (by kernel_rfl) ?hQ6x392 ?hy6x392 hD53 ?rest6x392
        case hi6x392 => (simp only [List.getElem?_toArray, List.getElem?_cons_succ, List.getElem?_cons_zero]; rfl)
        case hQ6x392 => exact fun _ _ _ h => h
        case hy6x392 => (refine Or.inl ⟨by rfl, ?_⟩; intro W hSw; (try dsimp only at hSw); go_simp; (try with_reducible rfl))
        try simp only [Act.put, List.setIfInBounds_toArray, List.set_cons_zero, List.set_cons_succ]
        refine wpAnyH_take (i := 7) (oi := ?o7x393) (v := ?v7x393) ?hi7x393 (by kernel_rfl) (by kernel_rfl) (by kernel_rfl) ?hQ7x393 ?hy7x393 hD53 ?rest7x393
        case hi7x393 => (simp only [List.getElem?_toArray, List.getElem?_cons_succ, List.getElem?_cons_zero]; rfl)
        case hQ7x393 => exact fun _ _ _ h => h
        case hy7x393 => (refine Or.inl ⟨by rfl, ?_⟩; intro W hSw; (try dsimp only at hSw); go_simp; (try with_reducible rfl))
        try simp only [Act.put, List.setIfInBounds_toArray, List.set_cons_zero, List.set_cons_succ]
        refine wpAnyH_done (by kernel_rfl) ?_ _
        simp only [lastQ]
        go_simp
        (with_reducible refine Calls.mono (rshVU1_any gr cap cap z HZ2.out _ rfl hcap1 hcap1 _ hRD3.out) ?_)
        rintro e V4 ⟨⟨k4, rfl⟩, hRow4, hGr4⟩
        have hzh : z / 2 < 9223372036854775808 := by have := HZS.out; omega
        have hor := or_top (z / 2) hzh
        have hF4 := hFD3.out.far hGr4 hne
        have hT4 := hTD3.out.grown2 hGr4
        obtain ⟨x2, hx2⟩ : ∃ x2 : Nat, x2 = 9223372036854775808 + z / 2 := ⟨_, rfl⟩
        have hx2l : x2 < 18446744073709551616 := by omega
        rw [← hx2] at hor
        have hN5 := andNot_2047 x2 hx2l
        rw [show x2 / 2048 * 2048 = 9223372036854775808 by have := HZS.out; omega] at hN5
        have hc4 := hRow4.cell (i := 0) (by omega)
        rw [if_pos rfl] at hc4
        have hz4 := hRow4.frozen 0
        obtain ⟨h0, h1, h2, h3, h4, h5, h6⟩ := hF4.cells
        have hRow5 := hRow4.set 0 (.int .u64 ((x2 : Nat) : Int))
        have hF5 := hF4.far (set_grown _ gr 0 (.int .u64 ((x2 : Nat) : Int))) hne
        have hT5 := hT4.set2 0 (.int .u64 ((x2 : Nat) : Int))
        obtain ⟨i0, i1, i2, i3, i4, i5, i6⟩ := hF5.cells
        have hc5 := hRow5.cell (i := 0) (by omega)
        rw [if_pos rfl] at hc5
        have hz5 := hRow5.frozen 0
        have FIN : Hid (RndP w g gr cap K ng ex (.returned (.tuple #[])) ((V4.setCell ⟨gr, 0, none⟩ (.int .u64 ((x2 : Nat) : Int))).setCell ⟨gr, 0, none⟩ (.int .u64 ((9223372036854775808 : Nat) : Int)))) := Lib.hid (RndP.of hF5 hcap1 hRow5 hT5 hne (by rw [if_pos HKC.out]) (by rw [if_pos HKC.out]))
        obtain ⟨zh, hzhe⟩ : ∃ zh, zh = z / 2 := ⟨_, rfl⟩
        rw [← hzhe] at hc4 hor
        clear hzh hx2 hx2l hF4 hT4 hRow4 hGr4 hF5 hT5 hRow5 hD53 hzhe
        go_wp2_with fail
        go_end0
        exact FIN.out
end Go.Proofs.Ytnheiigdgklbcaa
