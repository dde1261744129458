/- A big float is copied into one of 53 bits. -/
import Derived.Test.YtnheiigdgklbcaaFA
import Derived.Deep.RegionHeld3
import Derived.Laws.BitsAllLaws
namespace Go.Proofs.Ytnheiigdgklbcaa
open Go.ChangeShapes Go.WideShapes Go.ChangeAt Go.RowKit
set_option linter.unusedVariables false
theorem round53_any (g gr cap W X : Nat) (ng : Bool) (ac ex : Int) (hne : g ≠ gr) (hW : W + 1 ≤ cap) (hcap : cap ≤ 1000000) (hex0 : 0 ≤ ex) (hex1 : ex ≤ 100000) (w : World)
    (hf : FB w g 53 ac 1 ng (.slice (some ⟨gr, 0, none⟩) (W + 1) cap) ex) (hr : Rw w gr cap (W + 1) X) (ht63 : 9223372036854775808 ≤ Num.dg Num.B64 X W) :
    Calls Try.prog 70 #[.pointer (some ⟨g, 0, none⟩), .int .u64 0] w (RndP w g gr cap (Num.dg Num.B64 X W / 2048 + (if Num.dg Num.B64 X W / 1024 % 2 = 1 ∧ (stk X (64 * W + 10) = 1 ∨ Num.dg Num.B64 X W / 2048 % 2 = 1) then 1 else 0)) ng ex) := by
  by_cases h0 : W = 0
  · exact round53_zero g gr cap W X ng ac ex hne h0 hW hcap hex0 hex1 w hf hr ht63
  · exact round53_pos g gr cap W X ng ac ex hne h0 hW hcap hex0 hex1 w hf hr ht63
theorem info_flt : ∃ j, Try.prog.info? 76 = some j ∧ j.size ≠ 0 := by
  have h : (Try.prog.info? 76).map (·.size) = some 7 := by kernel_rfl
  cases hq : Try.prog.info? 76 with
  | none => rw [hq] at h; cases h
  | some j => rw [hq] at h; exact ⟨j, rfl, by have : j.size = 7 := by simpa using h
                                              omega⟩
/-- the rounded copy K at r -/
def FSetP (w : World) (r K : Nat) (ng : Bool) (ex : Int) (e : Ending) (w' : World) : Prop :=
  e = .returned (.pointer (some ⟨r, 0, none⟩)) ∧ (∃ g2 cap ac, FB w' r 53 ac 1 ng (.slice (some ⟨g2, 0, none⟩) 1 cap) (if K = 9007199254740992 then ex + 1 else ex) ∧
    w'.cell? ⟨g2, 0, none⟩ = some (.int .u64 ((if K = 9007199254740992 then 9223372036854775808 else K * 2048 : Nat) : Int))) ∧ ∀ w0, Kept w0 w → w0.heap.size ≤ r → Kept w0 w'
set_option maxRecDepth 100000 in
set_option maxHeartbeats 1000000 in
theorem FSet_any (r x gr cap W X : Nat) (pr : Int) (hpr : (64 : Int) ≤ pr) (ng : Bool) (n : Nat) (hn : n ≤ 100000) (hrx : r ≠ x) (hrg : gr ≠ r) (hW : W + 1 ≤ cap) (hcap : cap ≤ 99999) (w : World)
    (hf : FB w r 53 0 0 false (.slice none 0 0) 0) (hx : FB w x pr 0 1 ng (.slice (some ⟨gr, 0, none⟩) (W + 1) cap) (n : Int)) (hr : Rw w gr cap (W + 1) X) (ht63 : 9223372036854775808 ≤ Num.dg Num.B64 X W) :
    Calls Try.prog 60 #[.pointer (some ⟨r, 0, none⟩), .pointer (some ⟨x, 0, none⟩)] w (FSetP w r (Num.dg Num.B64 X W / 2048 + (if Num.dg Num.B64 X W / 1024 % 2 = 1 ∧ (stk X (64 * W + 10) = 1 ∨ Num.dg Num.B64 X W / 2048 % 2 = 1) then 1 else 0)) ng (n : Int)) := by
  obtain ⟨j, hj, hj0⟩ := info_flt
  have hneq := run_neq_ptr_ne (P := Try.prog) (w.setCell ⟨r, 2, none⟩ (.int .i8 0)) Try.underlying71 hj hj0 (a := ⟨r, 0, none⟩) (b := ⟨x, 0, none⟩) (fun e => hrx (by injection e)) (hf.acc 0) (hx.far (set_grown w r 2 (.int .i8 0)) (fun e => hrx e.symm))
  clear hj hj0
  have hlr := Blk.lt hf
  have hlx := Blk.lt hx
  obtain ⟨c0, c1, c2, c3, c4, c5, c6⟩ := hf.cells
  have fz2 := Blk.frozen hf 2
  obtain ⟨x0, x1, x2, x3, x4, x5, x6⟩ := hx.cells
  have aF0 := hf.acc 0
  obtain ⟨a0c0, a0c1, a0c2, a0c3, a0c4, a0c5, a0c6⟩ := aF0.cells
  have a0z : (w.setCell ⟨r, 2, none⟩ (.int .i8 0)).frozen? ⟨r, 3, none⟩ = false := Blk.frozen aF0 3
  have aF1 := aF0.form 1
  obtain ⟨a1c0, a1c1, a1c2, a1c3, a1c4, a1c5, a1c6⟩ := aF1.cells
  have a1z : ((w.setCell ⟨r, 2, none⟩ (.int .i8 0)).setCell ⟨r, 3, none⟩ (.int .u8 1)).frozen? ⟨r, 4, none⟩ = false := Blk.frozen aF1 4
  have aF2 := aF1.neg ng
  obtain ⟨a2c0, a2c1, a2c2, a2c3, a2c4, a2c5, a2c6⟩ := aF2.cells
  have a2z : (((w.setCell ⟨r, 2, none⟩ (.int .i8 0)).setCell ⟨r, 3, none⟩ (.int .u8 1)).setCell ⟨r, 4, none⟩ (.bool ng)).frozen? ⟨r, 6, none⟩ = false := Blk.frozen aF2 6
  have aF3 := aF2.exp (n : Int)
  obtain ⟨a3c0, a3c1, a3c2, a3c3, a3c4, a3c5, a3c6⟩ := aF3.cells
  have hx0 := hx.far (set_grown w r 2 (.int .i8 0)) (fun e => hrx e.symm)
  obtain ⟨x00, x01, x02, x03, x04, x05, x06⟩ := hx0.cells
  have hr0 := hr.far (set_grown w r 2 (.int .i8 0)) hrg
  have hx1 := hx0.far (set_grown (w.setCell ⟨r, 2, none⟩ (.int .i8 0)) r 3 (.int .u8 1)) (fun e => hrx e.symm)
  obtain ⟨x10, x11, x12, x13, x14, x15, x16⟩ := hx1.cells
  have hr1 := hr0.far (set_grown (w.setCell ⟨r, 2, none⟩ (.int .i8 0)) r 3 (.int .u8 1)) hrg
  have hx2 := hx1.far (set_grown ((w.setCell ⟨r, 2, none⟩ (.int .i8 0)).setCell ⟨r, 3, none⟩ (.int .u8 1)) r 4 (.bool ng)) (fun e => hrx e.symm)
  obtain ⟨x20, x21, x22, x23, x24, x25, x26⟩ := hx2.cells
  have hr2 := hr1.far (set_grown ((w.setCell ⟨r, 2, none⟩ (.int .i8 0)).setCell ⟨r, 3, none⟩ (.int .u8 1)) r 4 (.bool ng)) hrg
  have hx3 := hx2.far (set_grown (((w.setCell ⟨r, 2, none⟩ (.int .i8 0)).setCell ⟨r, 3, none⟩ (.int .u8 1)).setCell ⟨r, 4, none⟩ (.bool ng)) r 6 (.int .i32 (n : Int))) (fun e => hrx e.symm)
  obtain ⟨x30, x31, x32, x33, x34, x35, x36⟩ := hx3.cells
  have hr3 := hr2.far (set_grown (((w.setCell ⟨r, 2, none⟩ (.int .i8 0)).setCell ⟨r, 3, none⟩ (.int .u8 1)).setCell ⟨r, 4, none⟩ (.bool ng)) r 6 (.int .i32 (n : Int))) hrg
  have hkV : ∀ w0, Kept w0 w → w0.heap.size ≤ r → Kept w0 ((((w.setCell ⟨r, 2, none⟩ (.int .i8 0)).setCell ⟨r, 3, none⟩ (.int .u8 1)).setCell ⟨r, 4, none⟩ (.bool ng)).setCell ⟨r, 6, none⟩ (.int .i32 (n : Int))).drew := fun w0 h1 h2 => by
    have h := kept_set (kept_set (kept_set (kept_set h1 h2 2 (.int .i8 0)) h2 3 (.int .u8 1)) h2 4 (.bool ng)) h2 6 (.int .i32 (n : Int))
    exact ⟨h.os, h.tape, h.output, h.size, h.block⟩
  have hszV : ((((w.setCell ⟨r, 2, none⟩ (.int .i8 0)).setCell ⟨r, 3, none⟩ (.int .u8 1)).setCell ⟨r, 4, none⟩ (.bool ng)).setCell ⟨r, 6, none⟩ (.int .i32 (n : Int))).drew.heap.size = w.heap.size := by simp [World.setCell, World.drew]
  have hSV : ((((w.setCell ⟨r, 2, none⟩ (.int .i8 0)).setCell ⟨r, 3, none⟩ (.int .u8 1)).setCell ⟨r, 4, none⟩ (.bool ng)).setCell ⟨r, 6, none⟩ (.int .i32 (n : Int))).drew.cell? ⟨r, 5, none⟩ = some (.slice none 0 0) ∧ ((((w.setCell ⟨r, 2, none⟩ (.int .i8 0)).setCell ⟨r, 3, none⟩ (.int .u8 1)).setCell ⟨r, 4, none⟩ (.bool ng)).setCell ⟨r, 6, none⟩ (.int .i32 (n : Int))).drew.cell? ⟨x, 5, none⟩ = some (.slice (some ⟨gr, 0, none⟩) (W + 1) cap) := ⟨a3c5, x35⟩
  have hsrcV : ∀ j, j < W + 1 → ((((w.setCell ⟨r, 2, none⟩ (.int .i8 0)).setCell ⟨r, 3, none⟩ (.int .u8 1)).setCell ⟨r, 4, none⟩ (.bool ng)).setCell ⟨r, 6, none⟩ (.int .i32 (n : Int))).drew.cell? ⟨gr, 0 + j, none⟩ = some (.int .u64 ((Num.dg Num.B64 X j : Nat) : Int)) := fun j hj => by
    rw [Nat.zero_add]
    exact hr3.cell hW j hj
  have CSET := Lib.hid (set_own gr 0 (W + 1) cap X (by omega) (by omega) ((((w.setCell ⟨r, 2, none⟩ (.int .i8 0)).setCell ⟨r, 3, none⟩ (.int .u8 1)).setCell ⟨r, 4, none⟩ (.bool ng)).setCell ⟨r, 6, none⟩ (.int .i32 (n : Int))).drew hsrcV)
  have HKV := Lib.hid hkV
  have HF3 : Hid (FB ((((w.setCell ⟨r, 2, none⟩ (.int .i8 0)).setCell ⟨r, 3, none⟩ (.int .u8 1)).setCell ⟨r, 4, none⟩ (.bool ng)).setCell ⟨r, 6, none⟩ (.int .i32 (n : Int))).drew r 53 0 1 ng (.slice none 0 0) (n : Int)) := Lib.hid aF3
  have HX3 : Hid (FB ((((w.setCell ⟨r, 2, none⟩ (.int .i8 0)).setCell ⟨r, 3, none⟩ (.int .u8 1)).setCell ⟨r, 4, none⟩ (.bool ng)).setCell ⟨r, 6, none⟩ (.int .i32 (n : Int))).drew x pr 0 1 ng (.slice (some ⟨gr, 0, none⟩) (W + 1) cap) (n : Int)) := Lib.hid hx3
  have HLR : Hid (r < ((((w.setCell ⟨r, 2, none⟩ (.int .i8 0)).setCell ⟨r, 3, none⟩ (.int .u8 1)).setCell ⟨r, 4, none⟩ (.bool ng)).setCell ⟨r, 6, none⟩ (.int .i32 (n : Int))).drew.heap.size) := Lib.hid (Nat.lt_of_lt_of_eq hlr hszV.symm)
  have HLX : Hid (x < ((((w.setCell ⟨r, 2, none⟩ (.int .i8 0)).setCell ⟨r, 3, none⟩ (.int .u8 1)).setCell ⟨r, 4, none⟩ (.bool ng)).setCell ⟨r, 6, none⟩ (.int .i32 (n : Int))).drew.heap.size) := Lib.hid (Nat.lt_of_lt_of_eq hlx hszV.symm)
  have CR : Hid (∀ (g2 cap2 : Nat) (Y : World), r ≠ g2 → W + 1 ≤ cap2 → cap2 ≤ W + 5 → FB Y r 53 0 1 ng (.slice (some ⟨g2, 0, none⟩) (W + 1) cap2) (n : Int) → Rw Y g2 cap2 (W + 1) X → Calls Try.prog 70 #[.pointer (some ⟨r, 0, none⟩), .int .u64 0] Y (RndP Y r g2 cap2 (Num.dg Num.B64 X W / 2048 + (if Num.dg Num.B64 X W / 1024 % 2 = 1 ∧ (stk X (64 * W + 10) = 1 ∨ Num.dg Num.B64 X W / 2048 % 2 = 1) then 1 else 0)) ng (n : Int))) := Lib.hid fun g2 cap2 Y h1 h2 h3 h4 h5 => round53_any r g2 cap2 W X ng 0 n h1 h2 (by omega) (by omega) (by omega) Y h4 h5 ht63
  have hlt53 : (53 : Int) < pr := by omega
  clear hf aF0 aF1 aF2 aF3 hx hx0 hx1 hx2 hx3 hr hr0 hr1 hr2 hr3 hkV hszV hsrcV hlr hlx hpr hn hW hcap ht63
  generalize (Num.dg Num.B64 X W / 2048 + (if Num.dg Num.B64 X W / 1024 % 2 = 1 ∧ (stk X (64 * W + 10) = 1 ∨ Num.dg Num.B64 X W / 2048 % 2 = 1) then 1 else 0)) = KK at *
  go_enter Try.func60, Try.ntmps60
  go_wp2_with fail
  refine wp_region_lastL _ _ _ (by simp only [List.dropLast]; rfl) (by simp only [List.getLast?_cons_cons, List.getLast?_singleton]; rfl) (fun X : World => X.cell? ⟨r, 5, none⟩ = some (.slice none 0 0) ∧ X.cell? ⟨x, 5, none⟩ = some (.slice (some ⟨gr, 0, none⟩) (W + 1) cap)) (by kernel_rfl) (by kernel_rfl) (hSV) (fun hHeld => ?_)
  generalize ((((w.setCell ⟨r, 2, none⟩ (.int .i8 0)).setCell ⟨r, 3, none⟩ (.int .u8 1)).setCell ⟨r, 4, none⟩ (.bool ng)).setCell ⟨r, 6, none⟩ (.int .i32 (n : Int))).drew = vd at *
  clear hHeld
  refine wpAnyH_take (i := 0) (oi := ?o0x800) (v := ?v0x800) ?hi0x800 (by kernel_rfl) (by kernel_rfl) (by kernel_rfl) ?hQ0x800 ?hy0x800 hSV ?rest0x800
  case hi0x800 => (simp only [List.getElem?_toArray, List.getElem?_cons_zero]; rfl)
  case hQ0x800 => exact fun _ _ _ h => h
  case hy0x800 => (refine Or.inl ⟨by rfl, ?_⟩; intro W hSw; (try dsimp only at hSw); go_simp; (try with_reducible rfl))
  try simp only [Act.put, List.setIfInBounds_toArray, List.set_cons_zero, List.set_cons_succ]
  refine wpAnyH_take (i := 1) (oi := ?o1x801) (v := ?v1x801) ?hi1x801 (by kernel_rfl) (by kernel_rfl) (by kernel_rfl) ?hQ1x801 ?hy1x801 hSV ?rest1x801
  case hi1x801 => (simp only [List.getElem?_toArray, List.getElem?_cons_succ, List.getElem?_cons_zero]; rfl)
  case hQ1x801 => exact fun _ _ _ h => h
  case hy1x801 => (refine Or.inl ⟨by rfl, ?_⟩; intro W hSw; (try dsimp only at hSw); go_simp; (try with_reducible rfl))
  try simp only [Act.put, List.setIfInBounds_toArray, List.set_cons_zero, List.set_cons_succ]
  refine wpAnyH_take (i := 2) (oi := ?o2x802) (v := ?v2x802) ?hi2x802 (by kernel_rfl) (by kernel_rfl) (by kernel_rfl) ?hQ2x802 ?hy2x802 hSV ?rest2x802
  case hi2x802 => (simp only [List.getElem?_toArray, List.getElem?_cons_succ, List.getElem?_cons_zero]; rfl)
  case hQ2x802 => exact fun _ _ _ h => h
  case hy2x802 => (refine Or.inl ⟨by rfl, ?_⟩; intro W hSw; (try dsimp only at hSw); go_simp; (try with_reducible rfl))
  try simp only [Act.put, List.setIfInBounds_toArray, List.set_cons_zero, List.set_cons_succ]
  refine wpAnyH_take (i := 3) (oi := ?o3x803) (v := ?v3x803) ?hi3x803 (by kernel_rfl) (by kernel_rfl) (by kernel_rfl) ?hQ3x803 ?hy3x803 hSV ?rest3x803
  case hi3x803 => (simp only [List.getElem?_toArray, List.getElem?_cons_succ, List.getElem?_cons_zero]; rfl)
  case hQ3x803 => exact fun _ _ _ h => h
  case hy3x803 => (refine Or.inl ⟨by rfl, ?_⟩; intro W hSw; (try dsimp only at hSw); go_simp; (try with_reducible rfl))
  try simp only [Act.put, List.setIfInBounds_toArray, List.set_cons_zero, List.set_cons_succ]
  refine wpAnyH_take (i := 4) (oi := ?o4x804) (v := ?v4x804) ?hi4x804 (by kernel_rfl) (by kernel_rfl) (by kernel_rfl) ?hQ4x804 ?hy4x804 hSV ?rest4x804
  case hi4x804 => (simp only [List.getElem?_toArray, List.getElem?_cons_succ, List.getElem?_cons_zero]; rfl)
  case hQ4x804 => exact fun _ _ _ h => h
  case hy4x804 => (refine Or.inl ⟨by rfl, ?_⟩; intro W hSw; (try dsimp only at hSw); go_simp; (try with_reducible rfl))
  try simp only [Act.put, List.setIfInBounds_toArray, List.set_cons_zero, List.set_cons_succ]
  refine wpAnyH_take (i := 5) (oi := ?o5x805) (v := ?v5x805) ?hi5x805 (by kernel_rfl) (by kernel_rfl) (by kernel_rfl) ?hQ5x805 ?hy5x805 hSV ?rest5x805
  case hi5x805 => (simp only [List.getElem?_toArray, List.getElem?_cons_succ, List.getElem?_cons_zero]; rfl)
  case hQ5x805 => exact fun _ _ _ h => h
  case hy5x805 => (refine Or.inl ⟨by rfl, ?_⟩; intro W hSw; (try dsimp only at hSw); go_simp; (try with_reducible rfl))
  try simp only [Act.put, List.setIfInBounds_toArray, List.set_cons_zero, List.set_cons_succ]
  refine wpAnyH_take (i := 6) (oi := ?o6x806) (v := ?v6x806) ?hi6x806 (by kernel_rfl) (by kernel_rfl) (by kernel_rfl) ?hQ6x806 ?hy6x806 hSV ?rest6x806
  case hi6x806 => (simp only [List.getElem?_toArray, List.getElem?_cons_succ, List.getElem?_cons_zero]; rfl)
  case hQ6x806 => exact fun _ _ _ h => h
  case hy6x806 => (refine Or.inl ⟨by rfl, ?_⟩; intro W hSw; (try dsimp only at hSw); go_simp; (try with_reducible rfl))
  try simp only [Act.put, List.setIfInBounds_toArray, List.set_cons_zero, List.set_cons_succ]
  refine wpAnyH_take (i := 7) (oi := ?o7x807) (v := ?v7x807) ?hi7x807 (by kernel_rfl) (by kernel_rfl) (by kernel_rfl) ?hQ7x807 ?hy7x807 hSV ?rest7x807
  case hi7x807 => (simp only [List.getElem?_toArray, List.getElem?_cons_succ, List.getElem?_cons_zero]; rfl)
  case hQ7x807 => exact fun _ _ _ h => h
  case hy7x807 => (refine Or.inl ⟨by rfl, ?_⟩; intro W hSw; (try dsimp only at hSw); go_simp; (try with_reducible rfl))
  try simp only [Act.put, List.setIfInBounds_toArray, List.set_cons_zero, List.set_cons_succ]
  refine wpAnyH_take (i := 8) (oi := ?o8x808) (v := ?v8x808) ?hi8x808 (by kernel_rfl) (by kernel_rfl) (by kernel_rfl) ?hQ8x808 ?hy8x808 hSV ?rest8x808
  case hi8x808 => (simp only [List.getElem?_toArray, List.getElem?_cons_succ, List.getElem?_cons_zero]; rfl)
  case hQ8x808 => exact fun _ _ _ h => h
  case hy8x808 => (refine Or.inl ⟨by rfl, ?_⟩; intro W hSw; (try dsimp only at hSw); go_simp; (try with_reducible rfl))
  try simp only [Act.put, List.setIfInBounds_toArray, List.set_cons_zero, List.set_cons_succ]
  refine wpAnyH_ready (rs := [9]) (by kernel_rfl) (by simp) ?_
  refine (AllReadyH.cons rfl (fun K hK => ?_) AllReadyH.nil)
  go_simp
  (with_reducible refine Calls.mono CSET.out ?_)
  rintro e v2 ⟨cap2, rfl, hcap1, hcap2, hRW, hk2⟩
  have hS2 : v2.cell? ⟨r, 5, none⟩ = some (.slice none 0 0) ∧ v2.cell? ⟨x, 5, none⟩ = some (.slice (some ⟨gr, 0, none⟩) (W + 1) cap) := ⟨(hk2.cell (p := ⟨r, 5, none⟩) HLR.out).trans hSV.1, (hk2.cell (p := ⟨x, 5, none⟩) HLX.out).trans hSV.2⟩
  refine hK.out _ _ ?_ (fun hHeld => ?_)
  · (exact hS2)
  clear hK K
  try simp only [Act.put, List.setIfInBounds_toArray, List.set_cons_zero, List.set_cons_succ]
  refine wpAnyH_take (i := 10) (oi := ?o10x809) (v := ?v10x809) ?hi10x809 (by kernel_rfl) (by kernel_rfl) (by kernel_rfl) ?hQ10x809 ?hy10x809 hS2 ?rest10x809
  case hi10x809 => (simp only [List.getElem?_toArray, List.getElem?_cons_succ, List.getElem?_cons_zero]; rfl)
  case hQ10x809 => exact fun _ _ _ h => h
  case hy10x809 => (refine Or.inl ⟨by rfl, ?_⟩; intro W hSw; (try dsimp only at hSw); go_simp; (try with_reducible rfl))
  try simp only [Act.put, List.setIfInBounds_toArray, List.set_cons_zero, List.set_cons_succ]
  refine wpAnyH_take (i := 11) (oi := ?o11x810) (v := ?v11x810) ?hi11x810 (by kernel_rfl) (by kernel_rfl) (by kernel_rfl) ?hQ11x810 ?hy11x810 hS2 ?rest11x810
  case hi11x810 => (simp only [List.getElem?_toArray, List.getElem?_cons_succ, List.getElem?_cons_zero]; rfl)
  case hQ11x810 => exact fun _ _ _ h => h
  case hy11x810 => (refine Or.inl ⟨by rfl, ?_⟩; intro W hSw; (try dsimp only at hSw); go_simp; (try with_reducible rfl))
  try simp only [Act.put, List.setIfInBounds_toArray, List.set_cons_zero, List.set_cons_succ]
  refine wpAnyH_done (by kernel_rfl) ?_ _
  simp only [lastQ]
  have hgr : r < vd.heap.size := HLR.out
  obtain ⟨g2, hgre⟩ : ∃ g2, g2 = vd.heap.size := ⟨_, rfl⟩
  rw [← hgre] at hRW hgr ⊢
  have hF2 : FB v2 r 53 0 1 ng (.slice none 0 0) (n : Int) := Blk.below HF3.out hk2
  have hX2 : FB v2 x pr 0 1 ng (.slice (some ⟨gr, 0, none⟩) (W + 1) cap) (n : Int) := Blk.below HX3.out hk2
  have fz5 := Blk.frozen hF2 5
  have hs25 := hS2.1
  have hF3 := hF2.mant (.slice (some ⟨g2, 0, none⟩) (W + 1) cap2)
  have hX3 := hX2.far (set_grown v2 r 5 (.slice (some ⟨g2, 0, none⟩) (W + 1) cap2)) (fun e => hrx e.symm)
  obtain ⟨e0, e1, e2, e3, e4, e5, e6⟩ := hF3.cells
  obtain ⟨y0, y1, y2, y3, y4, y5, y6⟩ := hX3.cells
  have hR3 := hRW.far (set_grown v2 r 5 (.slice (some ⟨g2, 0, none⟩) (W + 1) cap2)) (by omega)
  have hng : r ≠ g2 := by omega
  have hK3 : ∀ w0, Kept w0 w → w0.heap.size ≤ r → Kept w0 (v2.setCell ⟨r, 5, none⟩ (.slice (some ⟨g2, 0, none⟩) (W + 1) cap2)).drew := fun w0 h1 h2 => by
    have h := kept_set ((show Kept w0 vd from HKV.out w0 h1 h2).trans hk2) h2 5 (.slice (some ⟨g2, 0, none⟩) (W + 1) cap2)
    exact ⟨h.os, h.tape, h.output, h.size, h.block⟩
  have hCR := Lib.hid (CR.out g2 cap2 (v2.setCell ⟨r, 5, none⟩ (.slice (some ⟨g2, 0, none⟩) (W + 1) cap2)).drew hng hcap1 (by omega) hF3 hR3)
  have HK3 := Lib.hid hK3
  have HSG : Hid (∀ w0, Kept w0 w → w0.heap.size ≤ r → w0.heap.size ≤ g2) := Lib.hid fun w0 h1 h2 => by rw [hgre]; exact (HKV.out w0 h1 h2).size
  have hS3 : (v2.setCell ⟨r, 5, none⟩ (.slice (some ⟨g2, 0, none⟩) (W + 1) cap2)).drew.cell? ⟨r, 0, none⟩ = some (.int .u32 53) ∧ (v2.setCell ⟨r, 5, none⟩ (.slice (some ⟨g2, 0, none⟩) (W + 1) cap2)).drew.cell? ⟨x, 0, none⟩ = some (.int .u32 pr) := ⟨e0, y0⟩
  clear hF2 hF3 hX2 hX3 hR3 hK3 hRW hk2 hgre hgr hS2 hSV hcap1 hcap2 hng
  go_wp2_with fail
  refine wp_region_lastL _ _ _ (by simp only [List.dropLast]; rfl) (by simp only [List.getLast?_cons_cons, List.getLast?_singleton]; rfl) (fun X : World => X.cell? ⟨r, 0, none⟩ = some (.int .u32 53) ∧ X.cell? ⟨x, 0, none⟩ = some (.int .u32 pr)) (by kernel_rfl) (by kernel_rfl) (hS3) (fun hHeld => ?_)
  generalize (v2.setCell ⟨r, 5, none⟩ (.slice (some ⟨g2, 0, none⟩) (W + 1) cap2)).drew = v3 at *
  clear hHeld
  refine wpAnyH_take (i := 0) (oi := ?o0x811) (v := ?v0x811) ?hi0x811 (by kernel_rfl) (by kernel_rfl) (by kernel_rfl) ?hQ0x811 ?hy0x811 hS3 ?rest0x811
  case hi0x811 => (simp only [List.getElem?_toArray, List.getElem?_cons_zero]; rfl)
  case hQ0x811 => exact fun _ _ _ h => h
  case hy0x811 => (refine Or.inl ⟨by rfl, ?_⟩; intro W hSw; (try dsimp only at hSw); go_simp; (try with_reducible rfl))
  try simp only [Act.put, List.setIfInBounds_toArray, List.set_cons_zero, List.set_cons_succ]
  refine wpAnyH_take (i := 1) (oi := ?o1x812) (v := ?v1x812) ?hi1x812 (by kernel_rfl) (by kernel_rfl) (by kernel_rfl) ?hQ1x812 ?hy1x812 hS3 ?rest1x812
  case hi1x812 => (simp only [List.getElem?_toArray, List.getElem?_cons_succ, List.getElem?_cons_zero]; rfl)
  case hQ1x812 => exact fun _ _ _ h => h
  case hy1x812 => (refine Or.inl ⟨by rfl, ?_⟩; intro W hSw; (try dsimp only at hSw); go_simp; (try with_reducible rfl))
  try simp only [Act.put, List.setIfInBounds_toArray, List.set_cons_zero, List.set_cons_succ]
  refine wpAnyH_take (i := 2) (oi := ?o2x813) (v := ?v2x813) ?hi2x813 (by kernel_rfl) (by kernel_rfl) (by kernel_rfl) ?hQ2x813 ?hy2x813 hS3 ?rest2x813
  case hi2x813 => (simp only [List.getElem?_toArray, List.getElem?_cons_succ, List.getElem?_cons_zero]; rfl)
  case hQ2x813 => exact fun _ _ _ h => h
  case hy2x813 => (refine Or.inl ⟨by rfl, ?_⟩; intro W hSw; (try dsimp only at hSw); go_simp; (try with_reducible rfl))
  try simp only [Act.put, List.setIfInBounds_toArray, List.set_cons_zero, List.set_cons_succ]
  refine wpAnyH_take (i := 3) (oi := ?o3x814) (v := ?v3x814) ?hi3x814 (by kernel_rfl) (by kernel_rfl) (by kernel_rfl) ?hQ3x814 ?hy3x814 hS3 ?rest3x814
  case hi3x814 => (simp only [List.getElem?_toArray, List.getElem?_cons_succ, List.getElem?_cons_zero]; rfl)
  case hQ3x814 => exact fun _ _ _ h => h
  case hy3x814 => (refine Or.inl ⟨by rfl, ?_⟩; intro W hSw; (try dsimp only at hSw); go_simp; (try with_reducible rfl))
  try simp only [Act.put, List.setIfInBounds_toArray, List.set_cons_zero, List.set_cons_succ]
  refine wpAnyH_take (i := 4) (oi := ?o4x815) (v := ?v4x815) ?hi4x815 (by kernel_rfl) (by kernel_rfl) (by kernel_rfl) ?hQ4x815 ?hy4x815 hS3 ?rest4x815
  case hi4x815 => (simp only [List.getElem?_toArray, List.getElem?_cons_succ, List.getElem?_cons_zero]; rfl)
  case hQ4x815 => exact fun _ _ _ h => h
  case hy4x815 => (refine Or.inl ⟨by rfl, ?_⟩; intro W hSw; (try dsimp only at hSw); go_simp; (try with_reducible rfl))
  try simp only [Act.put, List.setIfInBounds_toArray, List.set_cons_zero, List.set_cons_succ]
  refine wpAnyH_take (i := 5) (oi := ?o5x816) (v := ?v5x816) ?hi5x816 (by kernel_rfl) (by kernel_rfl) (by kernel_rfl) ?hQ5x816 ?hy5x816 hS3 ?rest5x816
  case hi5x816 => (simp only [List.getElem?_toArray, List.getElem?_cons_succ, List.getElem?_cons_zero]; rfl)
  case hQ5x816 => exact fun _ _ _ h => h
  case hy5x816 => (refine Or.inl ⟨by rfl, ?_⟩; intro W hSw; (try dsimp only at hSw); go_simp; (try with_reducible rfl))
  try simp only [Act.put, List.setIfInBounds_toArray, List.set_cons_zero, List.set_cons_succ]
  refine wpAnyH_take (i := 6) (oi := ?o6x817) (v := ?v6x817) ?hi6x817 (by kernel_rfl) (by kernel_rfl) (by kernel_rfl) ?hQ6x817 ?hy6x817 hS3 ?rest6x817
  case hi6x817 => (simp only [List.getElem?_toArray, List.getElem?_cons_succ, List.getElem?_cons_zero]; rfl)
  case hQ6x817 => exact fun _ _ _ h => h
  case hy6x817 => (refine Or.inl ⟨by rfl, ?_⟩; intro W hSw; (try dsimp only at hSw); go_simp; (try with_reducible rfl))
  try simp only [Act.put, List.setIfInBounds_toArray, List.set_cons_zero, List.set_cons_succ]
  refine wpAnyH_take (i := 7) (oi := ?o7x818) (v := ?v7x818) ?hi7x818 (by kernel_rfl) (by kernel_rfl) (by kernel_rfl) ?hQ7x818 ?hy7x818 hS3 ?rest7x818
  case hi7x818 => (simp only [List.getElem?_toArray, List.getElem?_cons_succ, List.getElem?_cons_zero]; rfl)
  case hQ7x818 => exact fun _ _ _ h => h
  case hy7x818 => (refine Or.inl ⟨by rfl, ?_⟩; intro W hSw; (try dsimp only at hSw); go_simp; (try with_reducible rfl))
  try simp only [Act.put, List.setIfInBounds_toArray, List.set_cons_zero, List.set_cons_succ]
  refine wpAnyH_done (by kernel_rfl) ?_ _
  simp only [lastQ]
  go_wp2_with fail
  (with_reducible refine Calls.mono hCR.out ?_)
  rintro e v4 ⟨rfl, hE, hC, hT⟩
  have HE := Lib.hid hE
  have HC := Lib.hid hC
  have HT := Lib.hid hT
  clear hE hC hT
  go_wp2_with fail
  go_ret
  obtain ⟨ac, hE⟩ := HE.out
  exact ⟨rfl, ⟨g2, cap2, ac, hE, HC.out⟩, fun w0 h1 h2 => HT.out.kept (HK3.out w0 h1 h2) h2 (HSG.out w0 h1 h2)⟩
end Go.Proofs.Ytnheiigdgklbcaa
