/- A key found among made values. -/
import Derived.Test.YtoociokhldakbaaGreatO9
import Derived.Deep.RegionHeld3
import Derived.Orders
namespace Go.Proofs.YtoociokhldakbaaGreat
open Go.ChangeShapes Go.WideShapes Go.ChangeAt Go.RowKit
set_option linter.unusedVariables false
def AnsB (e : Ending) : Prop := ∃ b : Bool, e = .returned (.bool b)
/-- Equal of any two made values of at most d levels below them answers -/
abbrev EqP (d : Nat) : Prop := ∀ (F G : Nat → Prop) (kx ky : Int) (x y : Value) (w : World), OG F w d kx x → OG G w d ky y → Calls Tryz.prog 38 #[x, y] w fun e w' => AnsB e ∧ Kept w w'
/-- Find of a made value among made ones -/
abbrev FiP (d : Nat) : Prop := ∀ (F G : Nat → Prop) (K : Option Addr) (n c : Nat) (st k : Int) (v : Value) (w : World), st = 1 ∨ st = 2 → KG F w (d + 1) K n c → n ≤ 16 → OG G w d k v → Calls Tryz.prog 31 #[.slice K n c, .int .i64 st, v] w fun e w' => (∃ r : Int, e = .returned (.int .i64 r) ∧ (r = -1 ∨ ∃ j : Nat, r = (j : Int) ∧ j < n ∧ (j : Int) % st = 0)) ∧ Kept w w'
abbrev WiP (d : Nat) : Prop := ∀ (F G : Nat → Prop) (kx ky : Int) (x y : Value) (w : World), OG F w d kx x → OG G w d ky y → Calls Tryz.prog 47 #[x, y] w fun e w' => AnsB e ∧ Kept w w'
/-- the kid at place i -/
theorem KG.get {F : Nat → Prop} {w : World} {d : Nat} {K : Option Addr} {n c i : Nat} (h : KG F w d K n c) (hi : i < n) : ∃ d' g k v, d = d' + 1 ∧ K = some ⟨g, 0, none⟩ ∧ At6 w g 0 i v ∧ OG F w d' k v := by
  cases d with
  | zero => exact absurd h (by show ¬ n = 0; omega)
  | succ d =>
    rcases h with h | ⟨g, e, _, h⟩
    · omega
    · obtain ⟨k, v, ha, ho⟩ := h i hi
      exact ⟨d, g, k, v, rfl, e, ha, ho⟩
theorem At6.open {w : World} {g i : Nat} {v : Value} (h : At6 w g 0 i v) : ∃ u0 u1 u2 u3 u4 u5, v = .agg #[u0, u1, u2, u3, u4, u5] ∧ Hid (∀ X, Kept w X → X.cell? ⟨g, i * 6, none⟩ = some u0 ∧ X.cell? ⟨g, i * 6 + 1, none⟩ = some u1 ∧ X.cell? ⟨g, i * 6 + 2, none⟩ = some u2 ∧ X.cell? ⟨g, i * 6 + 3, none⟩ = some u3 ∧ X.cell? ⟨g, i * 6 + 4, none⟩ = some u4 ∧ X.cell? ⟨g, i * 6 + 5, none⟩ = some u5) := by
  obtain ⟨u0, u1, u2, u3, u4, u5, e, h0, h1, h2, h3, h4, h5⟩ := h
  refine ⟨u0, u1, u2, u3, u4, u5, e, Lib.hid fun X hX => ?_⟩
  have c : ∀ j u, w.cell? ⟨g, j, none⟩ = some u → X.cell? ⟨g, j, none⟩ = some u := fun j u hj => (hX.cell (block_lt_of_cell hj)).trans hj
  rw [Nat.zero_add] at h0 h1 h2 h3 h4 h5
  exact ⟨c _ _ h0, c _ _ h1, c _ _ h2, c _ _ h3, c _ _ h4, c _ _ h5⟩
set_option maxRecDepth 100000 in
set_option maxHeartbeats 2000000 in
theorem Find_of (d : Nat) (hE : EqP d) : FiP d := by
  intro F G K n c st k v w hst hK hn hv
  have hv' := hv
  obtain ⟨bv, Av, cv, lv, qv, Tv, Kv, nv, ev, rfl, _⟩ := hv'

  have hk0 : Kept w (w.alloc (.cells #[.int .i64 k, .bool bv, .slice Av lv.length cv, .int .u64 (qv : Int), .string Tv, .slice Kv nv ev] 33)) := (Below.refl _ _).alloc (Nat.le_refl _) _
  have HB := Lib.hid (Blk.new w 33 #[.int .i64 k, .bool bv, .slice Av lv.length cv, .int .u64 (qv : Int), .string Tv, .slice Kv nv ev])
  have HV := Lib.hid (hv.below hk0)
  have HKG := Lib.hid (hK.below hk0)
  have HK0 := Lib.hid hk0
  have HE := Lib.hid hE
  have hnI : (n : Int) ≤ 16 := by omega
  clear hv hK hk0 hE
  rcases hst with rfl | rfl
  · go_enter Tryz.func31, Tryz.ntmps31
    go_wp2_with fail
    generalize w.alloc (.cells #[.int .i64 k, .bool bv, .slice Av lv.length cv, .int .u64 (qv : Int), .string Tv, .slice Kv nv ev] 33) = W at *
    go_loopw [7] (fun iv wr => ∃ i : Nat, iv = .int .i64 (i : Int) ∧ i ≤ 17 ∧ i % 1 = 0 ∧ Kept W wr) (fun iv _ => 20 - (intOf iv).toNat)
    case atStart => exact ⟨0, rfl, by omega, by omega, Below.refl _ _⟩
    case round =>
      obtain ⟨i, rfl, hi, hst, hkW⟩ := hrel
      have HKW := Lib.hid hkW
      have HST := Lib.hid hst
      have i0 : (0 : Int) ≤ (i : Int) := by omega
      by_cases hlt : i < n
      · obtain ⟨d', g, k', v', ed, rfl, ha, ho⟩ := (HKG.out.below HKW.out).get hlt
        obtain rfl : d = d' := by omega
        obtain ⟨u0, u1, u2, u3, u4, u5, rfl, HAT⟩ := ha.open
        have HO := Lib.hid ho
        have HV1 := Lib.hid (HV.out.below HKW.out)
        have HB1 := Lib.hid (HB.out.below HKW.out)
        have i1 : (i : Int) < (n : Int) := by omega
        have HLT := Lib.hid hlt
        clear ha ho hkW hlt ed hst
        go_wp2_with fail
        refine wp_region_held_drew (S := (fun X : World => Kept wr X)) (by kernel_rfl) (by go_grown) (fun hHeld => ?_)
        refine wpAnyH_take (i := 0) (oi := ?o0x100) (v := ?v0x100) ?hi0x100 (by kernel_rfl) (by kernel_rfl) (by kernel_rfl) ?hQ0x100 ?hy0x100 (by assumption) ?rest0x100
        case hi0x100 => (simp only [List.getElem?_toArray, List.getElem?_cons_zero]; rfl)
        case hQ0x100 => exact fun _ _ _ h => h
        case hy0x100 => (refine Or.inl ⟨by rfl, ?_⟩; intro W hSw; (try dsimp only at hSw); go_simp; (try with_reducible rfl))
        try simp only [Act.put, List.setIfInBounds_toArray, List.set_cons_zero, List.set_cons_succ]
        refine wpAnyH_take (i := 1) (oi := ?o1x101) (v := ?v1x101) ?hi1x101 (by kernel_rfl) (by kernel_rfl) (by kernel_rfl) ?hQ1x101 ?hy1x101 (by assumption) ?rest1x101
        case hi1x101 => (simp only [List.getElem?_toArray, List.getElem?_cons_succ, List.getElem?_cons_zero]; rfl)
        case hQ1x101 => exact fun _ _ _ h => h
        case hy1x101 => (refine Or.inl ⟨by rfl, ?_⟩; intro W hSw; (try dsimp only at hSw); go_simp; (try with_reducible rfl))
        try simp only [Act.put, List.setIfInBounds_toArray, List.set_cons_zero, List.set_cons_succ]
        refine wpAnyH_take (i := 2) (oi := ?o2x102) (v := ?v2x102) ?hi2x102 (by kernel_rfl) (by kernel_rfl) (by kernel_rfl) ?hQ2x102 ?hy2x102 (by assumption) ?rest2x102
        case hi2x102 => (simp only [List.getElem?_toArray, List.getElem?_cons_succ, List.getElem?_cons_zero]; rfl)
        case hQ2x102 => exact fun _ _ _ h => h
        case hy2x102 => (refine Or.inl ⟨by rfl, ?_⟩; intro W hSw; (try dsimp only at hSw); go_simp; (try with_reducible rfl))
        try simp only [Act.put, List.setIfInBounds_toArray, List.set_cons_zero, List.set_cons_succ]
        refine wpAnyH_take (i := 3) (oi := ?o3x103) (v := ?v3x103) ?hi3x103 (by kernel_rfl) (by kernel_rfl) (by kernel_rfl) ?hQ3x103 ?hy3x103 (by assumption) ?rest3x103
        case hi3x103 => (simp only [List.getElem?_toArray, List.getElem?_cons_succ, List.getElem?_cons_zero]; rfl)
        case hQ3x103 => exact fun _ _ _ h => h
        case hy3x103 => (refine Or.inl ⟨by rfl, ?_⟩; intro W hSw; (try dsimp only at hSw); obtain ⟨a0, a1, a2, a3, a4, a5⟩ := HAT.out _ hSw; go_simp; (try with_reducible rfl))
        try simp only [Act.put, List.setIfInBounds_toArray, List.set_cons_zero, List.set_cons_succ]
        refine wpAnyH_take (i := 4) (oi := ?o4x104) (v := (.agg #[.int .i64 k, .bool bv, .slice Av lv.length cv, .int .u64 (qv : Int), .string Tv, .slice Kv nv ev])) ?hi4x104 (by kernel_rfl) (by kernel_rfl) (by kernel_rfl) ?hQ4x104 ?hy4x104 (by assumption) ?rest4x104
        case hi4x104 => (simp only [List.getElem?_toArray, List.getElem?_cons_succ, List.getElem?_cons_zero]; rfl)
        case hQ4x104 => exact fun _ _ _ h => h
        case hy4x104 => exact yields_load_row (by rfl) 33 (.tmp 5) (by rfl) w.heap.size (by rfl) _ _ _ (fun X hX => HB1.out.below hX) Tryz.underlying33 (by rfl) info_Vl
        try simp only [Act.put, List.setIfInBounds_toArray, List.set_cons_zero, List.set_cons_succ]
        refine wpAnyH_ready (rs := [5]) (by kernel_rfl) (by simp) ?_
        refine (AllReadyH.cons rfl (fun K hK => ?_) AllReadyH.nil)
        go_simp
        (with_reducible refine Calls.mono (HE.out _ _ _ _ _ _ _ (HO.out.below (by go_grown)) (HV1.out.below (by go_grown))) ?_)
        rintro e w3 ⟨⟨b3, rfl⟩, hk3⟩
        have hk3a : Kept wr w3 := ⟨hk3.os, hk3.tape, hk3.output, hk3.size, hk3.block⟩
        have HK3 := Lib.hid (HKW.out.trans hk3a)
        have HKW := Lib.hid hk3a
        clear hk3 hk3a
        refine hK.out _ _ ?_ (fun hHeld => ?_)
        · (exact HKW.out)
        clear hK K
        try simp only [Act.put, List.setIfInBounds_toArray, List.set_cons_zero, List.set_cons_succ]
        refine wpAnyH_done (by kernel_rfl) ?_ _
        cases b3
        · go_wp2_with fail
          exact ⟨⟨i + 1, by go_num, by have := HLT.out; omega, by have := HST.out; omega, HK3.out⟩, by have := HLT.out; simp [intOf]; omega⟩
        · go_wp2_with fail
          go_ret
          exact ⟨⟨_, rfl, .inr ⟨i, rfl, HLT.out, by have := HST.out; omega⟩⟩, HK0.out.trans HK3.out⟩
      · have i1 : ¬ (i : Int) < (n : Int) := by omega
        clear hlt hst hkW
        go_wp2_with fail
        go_ret
        exact ⟨⟨-1, rfl, .inl rfl⟩, HK0.out.trans HKW.out⟩
  · go_enter Tryz.func31, Tryz.ntmps31
    go_wp2_with fail
    generalize w.alloc (.cells #[.int .i64 k, .bool bv, .slice Av lv.length cv, .int .u64 (qv : Int), .string Tv, .slice Kv nv ev] 33) = W at *
    go_loopw [7] (fun iv wr => ∃ i : Nat, iv = .int .i64 (i : Int) ∧ i ≤ 17 ∧ i % 2 = 0 ∧ Kept W wr) (fun iv _ => 20 - (intOf iv).toNat)
    case atStart => exact ⟨0, rfl, by omega, by omega, Below.refl _ _⟩
    case round =>
      obtain ⟨i, rfl, hi, hst, hkW⟩ := hrel
      have HKW := Lib.hid hkW
      have HST := Lib.hid hst
      have i0 : (0 : Int) ≤ (i : Int) := by omega
      by_cases hlt : i < n
      · obtain ⟨d', g, k', v', ed, rfl, ha, ho⟩ := (HKG.out.below HKW.out).get hlt
        obtain rfl : d = d' := by omega
        obtain ⟨u0, u1, u2, u3, u4, u5, rfl, HAT⟩ := ha.open
        have HO := Lib.hid ho
        have HV1 := Lib.hid (HV.out.below HKW.out)
        have HB1 := Lib.hid (HB.out.below HKW.out)
        have i1 : (i : Int) < (n : Int) := by omega
        have HLT := Lib.hid hlt
        clear ha ho hkW hlt ed hst
        go_wp2_with fail
        refine wp_region_held_drew (S := (fun X : World => Kept wr X)) (by kernel_rfl) (by go_grown) (fun hHeld => ?_)
        refine wpAnyH_take (i := 0) (oi := ?o0x200) (v := ?v0x200) ?hi0x200 (by kernel_rfl) (by kernel_rfl) (by kernel_rfl) ?hQ0x200 ?hy0x200 (by assumption) ?rest0x200
        case hi0x200 => (simp only [List.getElem?_toArray, List.getElem?_cons_zero]; rfl)
        case hQ0x200 => exact fun _ _ _ h => h
        case hy0x200 => (refine Or.inl ⟨by rfl, ?_⟩; intro W hSw; (try dsimp only at hSw); go_simp; (try with_reducible rfl))
        try simp only [Act.put, List.setIfInBounds_toArray, List.set_cons_zero, List.set_cons_succ]
        refine wpAnyH_take (i := 1) (oi := ?o1x201) (v := ?v1x201) ?hi1x201 (by kernel_rfl) (by kernel_rfl) (by kernel_rfl) ?hQ1x201 ?hy1x201 (by assumption) ?rest1x201
        case hi1x201 => (simp only [List.getElem?_toArray, List.getElem?_cons_succ, List.getElem?_cons_zero]; rfl)
        case hQ1x201 => exact fun _ _ _ h => h
        case hy1x201 => (refine Or.inl ⟨by rfl, ?_⟩; intro W hSw; (try dsimp only at hSw); go_simp; (try with_reducible rfl))
        try simp only [Act.put, List.setIfInBounds_toArray, List.set_cons_zero, List.set_cons_succ]
        refine wpAnyH_take (i := 2) (oi := ?o2x202) (v := ?v2x202) ?hi2x202 (by kernel_rfl) (by kernel_rfl) (by kernel_rfl) ?hQ2x202 ?hy2x202 (by assumption) ?rest2x202
        case hi2x202 => (simp only [List.getElem?_toArray, List.getElem?_cons_succ, List.getElem?_cons_zero]; rfl)
        case hQ2x202 => exact fun _ _ _ h => h
        case hy2x202 => (refine Or.inl ⟨by rfl, ?_⟩; intro W hSw; (try dsimp only at hSw); go_simp; (try with_reducible rfl))
        try simp only [Act.put, List.setIfInBounds_toArray, List.set_cons_zero, List.set_cons_succ]
        refine wpAnyH_take (i := 3) (oi := ?o3x203) (v := ?v3x203) ?hi3x203 (by kernel_rfl) (by kernel_rfl) (by kernel_rfl) ?hQ3x203 ?hy3x203 (by assumption) ?rest3x203
        case hi3x203 => (simp only [List.getElem?_toArray, List.getElem?_cons_succ, List.getElem?_cons_zero]; rfl)
        case hQ3x203 => exact fun _ _ _ h => h
        case hy3x203 => (refine Or.inl ⟨by rfl, ?_⟩; intro W hSw; (try dsimp only at hSw); obtain ⟨a0, a1, a2, a3, a4, a5⟩ := HAT.out _ hSw; go_simp; (try with_reducible rfl))
        try simp only [Act.put, List.setIfInBounds_toArray, List.set_cons_zero, List.set_cons_succ]
        refine wpAnyH_take (i := 4) (oi := ?o4x204) (v := (.agg #[.int .i64 k, .bool bv, .slice Av lv.length cv, .int .u64 (qv : Int), .string Tv, .slice Kv nv ev])) ?hi4x204 (by kernel_rfl) (by kernel_rfl) (by kernel_rfl) ?hQ4x204 ?hy4x204 (by assumption) ?rest4x204
        case hi4x204 => (simp only [List.getElem?_toArray, List.getElem?_cons_succ, List.getElem?_cons_zero]; rfl)
        case hQ4x204 => exact fun _ _ _ h => h
        case hy4x204 => exact yields_load_row (by rfl) 33 (.tmp 5) (by rfl) w.heap.size (by rfl) _ _ _ (fun X hX => HB1.out.below hX) Tryz.underlying33 (by rfl) info_Vl
        try simp only [Act.put, List.setIfInBounds_toArray, List.set_cons_zero, List.set_cons_succ]
        refine wpAnyH_ready (rs := [5]) (by kernel_rfl) (by simp) ?_
        refine (AllReadyH.cons rfl (fun K hK => ?_) AllReadyH.nil)
        go_simp
        (with_reducible refine Calls.mono (HE.out _ _ _ _ _ _ _ (HO.out.below (by go_grown)) (HV1.out.below (by go_grown))) ?_)
        rintro e w3 ⟨⟨b3, rfl⟩, hk3⟩
        have hk3a : Kept wr w3 := ⟨hk3.os, hk3.tape, hk3.output, hk3.size, hk3.block⟩
        have HK3 := Lib.hid (HKW.out.trans hk3a)
        have HKW := Lib.hid hk3a
        clear hk3 hk3a
        refine hK.out _ _ ?_ (fun hHeld => ?_)
        · (exact HKW.out)
        clear hK K
        try simp only [Act.put, List.setIfInBounds_toArray, List.set_cons_zero, List.set_cons_succ]
        refine wpAnyH_done (by kernel_rfl) ?_ _
        cases b3
        · go_wp2_with fail
          exact ⟨⟨i + 2, by go_num, by have := HLT.out; omega, by have := HST.out; omega, HK3.out⟩, by have := HLT.out; simp [intOf]; omega⟩
        · go_wp2_with fail
          go_ret
          exact ⟨⟨_, rfl, .inr ⟨i, rfl, HLT.out, by have := HST.out; omega⟩⟩, HK0.out.trans HK3.out⟩
      · have i1 : ¬ (i : Int) < (n : Int) := by omega
        clear hlt hst hkW
        go_wp2_with fail
        go_ret
        exact ⟨⟨-1, rfl, .inl rfl⟩, HK0.out.trans HKW.out⟩
end Go.Proofs.YtoociokhldakbaaGreat
