/- cleanSet. -/
import Derived.Test.YtoociokhldakbaaGreatOF
import Derived.OwnWalk
import Derived.Deep.DeepMust
import Derived.Deep.AppendLies
import Derived.Deep.RegionHeld3
import Derived.Orders
namespace Go.Proofs.YtoociokhldakbaaGreat
open Go.ChangeShapes Go.WideShapes Go.ChangeAt Go.RowKit
set_option linter.unusedVariables false
set_option maxRecDepth 100000 in
set_option maxHeartbeats 2000000 in
theorem cleanSet_any (d : Nat) (hd : d ≤ 100) (hC : ClP d) (x D : Int) (hD : D = (d : Int) + 1) (bv : Bool) (Av Kv : Option Addr) (lv : List Nat) (cv qv nv ev : Nat) (Tv : ByteArray) (w : World) (hn : nv ≤ 9223372036854775807) (hkv : RK w (d + 1) Kv nv) :
    Calls Tryz.prog 24 #[.agg #[.int .i64 x, .bool bv, .slice Av lv.length cv, .int .u64 (qv : Int), .string Tv, .slice Kv nv ev], .int .i64 D] w (RetOG w (d + 1) 9) := by
  obtain ⟨i0, hi0, hi1, hi2, hi3⟩ := info_grow
  have HI : Hid (Tryz.prog.info? 33 = some i0 ∧ i0.zero = some (.agg #[.int .i64 0, .bool false, .slice none 0 0, .int .u64 0, .string ⟨#[]⟩, .slice none 0 0]) ∧ i0.size = 6 ∧ i0.bytes = 88) := Lib.hid ⟨hi0, hi1, hi2, hi3⟩
  obtain ⟨W, hW⟩ : ∃ W, W = ((w.alloc (.cells #[.int .i64 x, .bool bv, .slice Av lv.length cv, .int .u64 (qv : Int), .string Tv, .slice Kv nv ev] 33)).alloc (.cells #[.int .i64 0, .bool false, .slice none 0 0, .int .u64 0, .string ⟨#[]⟩, .slice none 0 0] 33)) := ⟨_, rfl⟩
  have hz : W.heap.size = w.heap.size + 1 + 1 := by rw [hW]; simp
  obtain ⟨hk0, hbx, hbz⟩ := two_boxes w #[.int .i64 x, .bool bv, .slice Av lv.length cv, .int .u64 (qv : Int), .string Tv, .slice Kv nv ev] #[.int .i64 0, .bool false, .slice none 0 0, .int .u64 0, .string ⟨#[]⟩, .slice none 0 0] 33 33
  rw [← hW] at hk0 hbx hbz
  have HX := Lib.hid (hkv.below hk0)
  have HBX := Lib.hid hbx
  have HBZ := Lib.hid hbz
  have HK0 := Lib.hid hk0
  have HCL := Lib.hid hC
  have HZ := Lib.hid hz
  have ST : Hid (GW W (fun c => w.heap.size + 1 + 1 + 1 ≤ c) (w.heap.size + 1 + 1) 9 (W.alloc (.cells #[.int .i64 9, .bool false, .slice none 0 0, .int .u64 0, .string ⟨#[]⟩, .slice none 0 0] 33)) d 0 (.slice none 0 0)) := Lib.hid (by rw [← hz]; exact GW.start W _ 9 d (fun c hc => by omega))
  have hnI : (nv : Int) ≤ 9223372036854775807 := by omega
  have hDw : wrap64 (D - 1) = (d : Int) := by unfold wrap64; omega
  have hDw2 : IntKind.i64.wrap (D - 1) = (d : Int) := by rw [IntKind.wrap_i64]; omega
  clear hi0 hi1 hi2 hi3 hkv hk0 hbx hbz hC hz hD hd hn
  subst hW
  go_enter Tryz.func24, Tryz.ntmps24
  go_wp2_with fail
  generalize ((w.alloc (.cells #[.int .i64 x, .bool bv, .slice Av lv.length cv, .int .u64 (qv : Int), .string Tv, .slice Kv nv ev] 33)).alloc (.cells #[.int .i64 0, .bool false, .slice none 0 0, .int .u64 0, .string ⟨#[]⟩, .slice none 0 0] 33)) = W at *
  go_loopw [6] (fun iv wr => ∃ (j i : Nat) (sv : Value), iv = .int .i64 (j : Int) ∧ i ≤ j ∧ j ≤ nv ∧ j ≤ 8 ∧ GW W (fun c => w.heap.size + 1 + 1 + 1 ≤ c) (w.heap.size + 1 + 1) 9 wr d i sv) (fun iv _ => 20 - (intOf iv).toNat)
  case atStart => exact ⟨0, 0, _, rfl, by omega, by omega, by omega, ST.out⟩
  case round =>
    obtain ⟨j, i, sv, rfl, hij, hi, hi8, hG⟩ := hrel
    have HG := Lib.hid hG
    have t5 := (HBX.out.below HG.out.1).cell 5
    have i0' : (0 : Int) ≤ (j : Int) := by omega
    have HI8 : Hid (i ≤ 8) := Lib.hid (by omega)
    by_cases hlt : j < nv ∧ j < 8
    · have i1 : (j : Int) < (nv : Int) := by omega
      have i8 : (j : Int) < 8 := by omega
      have HLT : Hid (j < nv ∧ j < 8 ∧ i ≤ j) := Lib.hid ⟨hlt.1, hlt.2, hij⟩
      obtain ⟨g, oo, x', v', rfl, ha, ho⟩ := (HX.out.below HG.out.1) j hlt.1
      obtain ⟨u0, u1, u2, u3, u4, u5, rfl, a0, a1, a2, a3, a4, a5⟩ := ha
      have HO : Hid (RV wr d x' (.agg #[u0, u1, u2, u3, u4, u5])) := Lib.hid ho
      clear ho hG hlt hi hi8 hij
      go_wp2_with fail
      refine (HCL.out x' _ _ HO.out).mono ?_
      rintro e w3 ⟨⟨v3, rfl, hv3⟩, hk3⟩
      generalize hkk : knd x' (d : Int) = k3 at hv3
      clear hkk
      have HV3 := Lib.hid hv3
      have HK3 := Lib.hid hk3
      obtain ⟨b3, B3, c3, l3, q3, T3, K3, n3, e3, rfl, _⟩ := hv3
      clear hk3 a0 a1 a2 a3 a4 a5
      go_wp2_with fail
      refine (Key_any d _ _ _ _ HV3.out).mono ?_
      rintro e w4 ⟨⟨kk, v4, rfl, hv4⟩, hk4⟩
      have HV4 : Hid (OG (fun c => wr.heap.size ≤ c) w4 d kk v4) := Lib.hid (hv4.weak fun c hc => by
        have := HK3.out.size
        rcases hc with hc | hc
        · exact hc
        · exact Nat.le_trans this hc)
      have HK4 := Lib.hid (HK3.out.trans hk4)
      obtain ⟨b4, B4, c4, l4, q4, T4, K4, n4, e4, rfl, _⟩ := hv4
      have hk5 : Kept w4 (w4.alloc (.cells #[.int .i64 kk, .bool b4, .slice B4 l4.length c4, .int .u64 (q4 : Int), .string T4, .slice K4 n4 e4] 33)) := (Below.refl _ w4).alloc (Nat.le_refl _) _
      have hk5w : Kept wr (w4.alloc (.cells #[.int .i64 kk, .bool b4, .slice B4 l4.length c4, .int .u64 (q4 : Int), .string T4, .slice K4 n4 e4] 33)) := HK4.out.trans hk5
      have HT7 := Lib.hid (Blk.new w4 33 #[.int .i64 kk, .bool b4, .slice B4 l4.length c4, .int .u64 (q4 : Int), .string T4, .slice K4 n4 e4])
      have HG5 := Lib.hid (HG.out.below hk5w)
      have HK5 := Lib.hid hk5w
      have HV5 := Lib.hid (HV4.out.below hk5)
      have s5 := HG5.out.2.1.cell 5
      obtain ⟨K, c, esv, hKG⟩ := HG5.out.2.2.1.form
      have HKG := Lib.hid hKG
      subst esv
      clear hk4 hk5 hk5w hKG
      go_wp2_with fail
      refine (Find_any d _ _ K i c 1 kk _ _ (by omega) HKG.out (by have := HLT.out; omega) HV5.out).mono ?_
      rintro e w6 ⟨⟨r, rfl, hr⟩, hk6⟩
      have HG6 := Lib.hid (HG5.out.below hk6)
      have HT6 := Lib.hid (HT7.out.below hk6)
      have HV6 := Lib.hid (HV5.out.below hk6)
      have HK6 := Lib.hid (HK5.out.trans hk6)
      clear hk6 s5
      rcases hr with rfl | ⟨r, rfl, _, _⟩
      · have s5 := HG6.out.2.1.cell 5
        obtain ⟨t0, t1, t2, t3, t4, t6⟩ : w6.cell? ⟨w4.heap.size, 0, none⟩ = some (.int .i64 kk) ∧ w6.cell? ⟨w4.heap.size, 1, none⟩ = some (.bool b4) ∧ w6.cell? ⟨w4.heap.size, 2, none⟩ = some (.slice B4 l4.length c4) ∧ w6.cell? ⟨w4.heap.size, 3, none⟩ = some (.int .u64 (q4 : Int)) ∧ w6.cell? ⟨w4.heap.size, 4, none⟩ = some (.string T4) ∧ w6.cell? ⟨w4.heap.size, 5, none⟩ = some (.slice K4 n4 e4) := ⟨HT6.out.cell 0, HT6.out.cell 1, HT6.out.cell 2, HT6.out.cell 3, HT6.out.cell 4, HT6.out.cell 5⟩
        have hk7 : Kept w6 (w6.alloc (.cells #[.int .i64 kk, .bool b4, .slice B4 l4.length c4, .int .u64 (q4 : Int), .string T4, .slice K4 n4 e4] 33)) := (Below.refl _ w6).alloc (Nat.le_refl _) _
        have HG7 := Lib.hid (HG6.out.below hk7)
        have HXR := Lib.hid HG.out.2.2.1.choose_spec.1
        have HNW : Hid (∀ j, j < 1 → ∃ k v, Six [.int .i64 kk, .bool b4, .slice B4 l4.length c4, .int .u64 (q4 : Int), .string T4, .slice K4 n4 e4] (j * 6) v ∧ OG (fun c' => (fun c => w.heap.size + 1 + 1 + 1 ≤ c) c' ∧ (Value.slice K i c).ownBlock ≠ some c') (w6.alloc (.cells #[.int .i64 kk, .bool b4, .slice B4 l4.length c4, .int .u64 (q4 : Int), .string T4, .slice K4 n4 e4] 33)) d k v) := Lib.hid fun j hj => by
          obtain rfl : j = 0 := by omega
          refine ⟨kk, _, six_lit _ _ _ _ _ _, ?_⟩
          refine HV6.out.apart (fun c' hc hl => ?_) hk7
          have hlt := HXR.out.lt
          have hzz := HG.out.2.1.lt
          have hc' : wr.heap.size ≤ c' := hc
          exact ⟨by omega, fun e => by have := (hlt c' e).2; omega⟩
        obtain ⟨xs, hx7, hv7⟩ := HG7.out.2.2.1
        have HX7 := Lib.hid hx7
        have HV7 := Lib.hid hv7
        clear hk7 hx7 hv7
        go_wp2_with (at_builtin; go_must (refine wpList_append_lies _ rfl (.tmp 35) (.tmp 37) 31 rfl (w.heap.size + 1 + 1 + 1) 33 i0 (.agg #[.int .i64 0, .bool false, .slice none 0 0, .int .u64 0, .string ⟨#[]⟩, .slice none 0 0]) 6 88 Tryz.underlying31 HI.out.1 HI.out.2.1 HI.out.2.2.1 HI.out.2.2.2 rfl (by omega) _ i _ rfl HX7.out ⟨w6.heap.size, 0, none⟩ 1 1 [.int .i64 kk, .bool b4, .slice B4 l4.length c4, .int .u64 (q4 : Int), .string T4, .slice K4 n4 e4] rfl rfl (cells_new w6 _ _) (by intro u hu; simp at hu; rcases hu with rfl | rfl | rfl | rfl | rfl | rfl <;> rfl) (by omega) (by have := HLT.out; simp only [maxLen]; omega) (by have := HLT.out; omega) (by have := HG7.out.2.1.lt; omega) _ rfl ?_); intro g2 cap2 w8 ho2 hg2 hat hgl; have HST5 := Lib.hid (GW.step HG7.out HX7.out HV7.out ho2 hg2 hat HNW.out); have d5 := HST5.out.1; have dz := HST5.out.2.1; clear ho2 hg2 hat hgl s5 t0 t1 t2 t3 t4 t6)
        exact ⟨⟨j + 1, i + 1, _, by go_num, by have := HLT.out; omega, by have := HLT.out; omega, by have := HLT.out; omega, HST5.out.2.2.2⟩, by have := HLT.out; simp [intOf]; omega⟩
      · go_wp2_with fail
        exact ⟨⟨j + 1, i, _, by go_num, by have := HLT.out; omega, by have := HLT.out; omega, by have := HLT.out; omega, HG6.out⟩, by have := HLT.out; simp [intOf]; omega⟩
    · have HJ := Lib.hid hij
      have HVVX := Lib.hid (HG.out.value (by decide) (by decide) (by have := HI8.out; omega) (fun h => by omega))
      obtain ⟨K, c, rfl, hv⟩ := HVVX.out
      have HVV := Lib.hid hv
      have hst := run_storeVar_row (P := Tryz.prog) wr (w.heap.size + 1) 33 33 _ #[.int .i64 9, .bool false, .slice none 0 0, .int .u64 0, .string ⟨#[]⟩, .slice K i c] (HBZ.out.below HG.out.1) info_Vl rfl (by simp [Value.oneCell'])
      simp [go_sem] at hst
      obtain ⟨c0, c1, c2, c3, c4, c5⟩ : wr.cell? ⟨w.heap.size + 1 + 1, 0, none⟩ = some (.int .i64 9) ∧ wr.cell? ⟨w.heap.size + 1 + 1, 1, none⟩ = some (.bool false) ∧ wr.cell? ⟨w.heap.size + 1 + 1, 2, none⟩ = some (.slice none 0 0) ∧ wr.cell? ⟨w.heap.size + 1 + 1, 3, none⟩ = some (.int .u64 0) ∧ wr.cell? ⟨w.heap.size + 1 + 1, 4, none⟩ = some (.string ⟨#[]⟩) ∧ wr.cell? ⟨w.heap.size + 1 + 1, 5, none⟩ = some (.slice K i c) := ⟨HG.out.2.1.cell 0, HG.out.2.1.cell 1, HG.out.2.1.cell 2, HG.out.2.1.cell 3, HG.out.2.1.cell 4, HG.out.2.1.cell 5⟩
      have HEND : Hid (RetOG w (d + 1) 9 (.returned (.agg #[.int .i64 9, .bool false, .slice none 0 0, .int .u64 0, .string ⟨#[]⟩, .slice K i c])) (wr.setRow (w.heap.size + 1) #[.int .i64 9, .bool false, .slice none 0 0, .int .u64 0, .string ⟨#[]⟩, .slice K i c])) := Lib.hid
        ⟨⟨_, rfl, (HVV.out.stored (b := w.heap.size + 1) (fun c hc => by omega) _).weak (fun c hc => by omega)⟩, below_setRow (HK0.out.trans HG.out.1) (by omega) _⟩
      have HB9 := Lib.hid (setRow_heap _ _ _ #[.int .i64 9, .bool false, .slice none 0 0, .int .u64 0, .string ⟨#[]⟩, .slice K i c] _ _ (HBZ.out.below HG.out.1))
      by_cases hin : j < nv
      · have i1 : (j : Int) < (nv : Int) := by omega
        have i8 : ¬ (j : Int) < 8 := by omega
        clear hlt hi i0' hG hv hin hi8 hij
        go_wp2_with fail
        exact bodyPost_blk rfl rfl HB9.out Tryz.underlying33 rfl (by exact info_Vl) rfl HEND.out
      · have i1 : ¬ (j : Int) < (nv : Int) := by omega
        clear hlt hi i0' hG hv hin hi8 hij
        go_wp2_with fail
        exact bodyPost_blk rfl rfl HB9.out Tryz.underlying33 rfl (by exact info_Vl) rfl HEND.out
end Go.Proofs.YtoociokhldakbaaGreat
