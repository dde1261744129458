/- Clean and Scalar. -/
import Derived.Test.YtoociokhldakbaaGreatOH
import Derived.OwnWalk
import Derived.Deep.DeepMust
import Derived.Deep.AppendLies
import Derived.Deep.RegionHeld3
import Derived.Orders
namespace Go.Proofs.YtoociokhldakbaaGreat
open Go.ChangeShapes Go.WideShapes Go.ChangeAt Go.RowKit
set_option linter.unusedVariables false
set_option maxRecDepth 100000 in
set_option maxHeartbeats 2000000 in
theorem Clean_box8 (d : Nat) (hd : d ≤ 100) (hC : ClP d) (x D : Int) (hD : D = (d : Int) + 1) (hk : knd x D = 8) (bv : Bool) (Av Kv : Option Addr) (lv : List Nat) (cv qv nv ev : Nat) (Tv : ByteArray) (w : World) (hn : nv ≤ 9223372036854775807) (hkv : RK w (d + 1) Kv nv) :
    Calls Tryz.prog 14 #[.agg #[.int .i64 x, .bool bv, .slice Av lv.length cv, .int .u64 (qv : Int), .string Tv, .slice Kv nv ev], .int .i64 D] w (RetOG w (d + 1) 8) := by
  obtain ⟨hk0, hbx, hbz⟩ := two_boxes w #[.int .i64 x, .bool bv, .slice Av lv.length cv, .int .u64 (qv : Int), .string Tv, .slice Kv nv ev] #[.int .i64 0, .bool false, .slice none 0 0, .int .u64 0, .string ⟨#[]⟩, .slice none 0 0] 33 33
  have CC := Lib.hid (cleanDict_any d hd hC x D hD bv Av Kv lv cv qv nv ev Tv ((w.alloc (.cells #[.int .i64 x, .bool bv, .slice Av lv.length cv, .int .u64 (qv : Int), .string Tv, .slice Kv nv ev] 33)).alloc (.cells #[.int .i64 0, .bool false, .slice none 0 0, .int .u64 0, .string ⟨#[]⟩, .slice none 0 0] 33)) hn (hkv.below hk0))
  have HBZ := Lib.hid hbz
  have HK0 := Lib.hid hk0
  have hz : ((w.alloc (.cells #[.int .i64 x, .bool bv, .slice Av lv.length cv, .int .u64 (qv : Int), .string Tv, .slice Kv nv ev] 33)).alloc (.cells #[.int .i64 0, .bool false, .slice none 0 0, .int .u64 0, .string ⟨#[]⟩, .slice none 0 0] 33)).heap.size = w.heap.size + 1 + 1 := by simp
  have HZ := Lib.hid hz
  have hD0 : ¬ D ≤ 0 := by omega
  have hD1 : 0 < D := by omega
  have e : (wrap64 (x.tmod 10 + 10)).tmod 10 = 8 := by
    rcases knd_ways hk with ⟨h1, _⟩ | ⟨h1, _⟩ | ⟨_, e⟩
    · omega
    · omega
    · exact e
  clear hkv hk0 hbx hbz hC hz hD hk hd hn
  go_enter Tryz.func14, Tryz.ntmps14
  go_wp2_with fail
  clear e
  generalize ((w.alloc (.cells #[.int .i64 x, .bool bv, .slice Av lv.length cv, .int .u64 (qv : Int), .string Tv, .slice Kv nv ev] 33)).alloc (.cells #[.int .i64 0, .bool false, .slice none 0 0, .int .u64 0, .string ⟨#[]⟩, .slice none 0 0] 33)) = W at *
  refine CC.out.mono ?_
  rintro e w3 ⟨⟨v3, rfl, hv3⟩, hk3⟩
  have HV3 := Lib.hid hv3
  have HK3 := Lib.hid hk3
  have HB3 := Lib.hid (HBZ.out.below hk3)
  obtain ⟨b3, B3, c3, l3, q3, T3, K3, n3, e3, rfl, _⟩ := hv3
  have hst := run_storeVar_row (P := Tryz.prog) w3 (w.heap.size + 1) 33 33 _ #[.int .i64 8, .bool b3, .slice B3 l3.length c3, .int .u64 (q3 : Int), .string T3, .slice K3 n3 e3] HB3.out info_Vl rfl (by simp [Value.oneCell'])
  simp [go_sem] at hst
  clear hk3 CC
  go_wp2_with fail
  refine bodyPost_blk rfl rfl (setRow_heap _ _ _ #[.int .i64 8, .bool b3, .slice B3 l3.length c3, .int .u64 (q3 : Int), .string T3, .slice K3 n3 e3] _ _ HB3.out) Tryz.underlying33 rfl (by exact info_Vl) rfl ?_
  have hz := HZ.out
  exact ⟨⟨_, rfl, (HV3.out.stored (b := w.heap.size + 1) (fun c hc => by have : W.heap.size ≤ c := hc; omega) _).weak (fun c hc => by have : W.heap.size ≤ c := hc; omega)⟩, below_setRow (HK0.out.trans HK3.out) (by omega) _⟩
set_option maxRecDepth 100000 in
set_option maxHeartbeats 2000000 in
theorem Clean_box9 (d : Nat) (hd : d ≤ 100) (hC : ClP d) (x D : Int) (hD : D = (d : Int) + 1) (hk : knd x D = 9) (bv : Bool) (Av Kv : Option Addr) (lv : List Nat) (cv qv nv ev : Nat) (Tv : ByteArray) (w : World) (hn : nv ≤ 9223372036854775807) (hkv : RK w (d + 1) Kv nv) :
    Calls Tryz.prog 14 #[.agg #[.int .i64 x, .bool bv, .slice Av lv.length cv, .int .u64 (qv : Int), .string Tv, .slice Kv nv ev], .int .i64 D] w (RetOG w (d + 1) 9) := by
  obtain ⟨hk0, hbx, hbz⟩ := two_boxes w #[.int .i64 x, .bool bv, .slice Av lv.length cv, .int .u64 (qv : Int), .string Tv, .slice Kv nv ev] #[.int .i64 0, .bool false, .slice none 0 0, .int .u64 0, .string ⟨#[]⟩, .slice none 0 0] 33 33
  have CC := Lib.hid (cleanSet_any d hd hC x D hD bv Av Kv lv cv qv nv ev Tv ((w.alloc (.cells #[.int .i64 x, .bool bv, .slice Av lv.length cv, .int .u64 (qv : Int), .string Tv, .slice Kv nv ev] 33)).alloc (.cells #[.int .i64 0, .bool false, .slice none 0 0, .int .u64 0, .string ⟨#[]⟩, .slice none 0 0] 33)) hn (hkv.below hk0))
  have HBZ := Lib.hid hbz
  have HK0 := Lib.hid hk0
  have hz : ((w.alloc (.cells #[.int .i64 x, .bool bv, .slice Av lv.length cv, .int .u64 (qv : Int), .string Tv, .slice Kv nv ev] 33)).alloc (.cells #[.int .i64 0, .bool false, .slice none 0 0, .int .u64 0, .string ⟨#[]⟩, .slice none 0 0] 33)).heap.size = w.heap.size + 1 + 1 := by simp
  have HZ := Lib.hid hz
  have hD0 : ¬ D ≤ 0 := by omega
  have hD1 : 0 < D := by omega
  have e : (wrap64 (x.tmod 10 + 10)).tmod 10 = 9 := by
    rcases knd_ways hk with ⟨h1, _⟩ | ⟨h1, _⟩ | ⟨_, e⟩
    · omega
    · omega
    · exact e
  clear hkv hk0 hbx hbz hC hz hD hk hd hn
  go_enter Tryz.func14, Tryz.ntmps14
  go_wp2_with fail
  clear e
  generalize ((w.alloc (.cells #[.int .i64 x, .bool bv, .slice Av lv.length cv, .int .u64 (qv : Int), .string Tv, .slice Kv nv ev] 33)).alloc (.cells #[.int .i64 0, .bool false, .slice none 0 0, .int .u64 0, .string ⟨#[]⟩, .slice none 0 0] 33)) = W at *
  refine CC.out.mono ?_
  rintro e w3 ⟨⟨v3, rfl, hv3⟩, hk3⟩
  have HV3 := Lib.hid hv3
  have HK3 := Lib.hid hk3
  have HB3 := Lib.hid (HBZ.out.below hk3)
  obtain ⟨b3, B3, c3, l3, q3, T3, K3, n3, e3, rfl, _⟩ := hv3
  have hst := run_storeVar_row (P := Tryz.prog) w3 (w.heap.size + 1) 33 33 _ #[.int .i64 9, .bool b3, .slice B3 l3.length c3, .int .u64 (q3 : Int), .string T3, .slice K3 n3 e3] HB3.out info_Vl rfl (by simp [Value.oneCell'])
  simp [go_sem] at hst
  clear hk3 CC
  go_wp2_with fail
  refine bodyPost_blk rfl rfl (setRow_heap _ _ _ #[.int .i64 9, .bool b3, .slice B3 l3.length c3, .int .u64 (q3 : Int), .string T3, .slice K3 n3 e3] _ _ HB3.out) Tryz.underlying33 rfl (by exact info_Vl) rfl ?_
  have hz := HZ.out
  exact ⟨⟨_, rfl, (HV3.out.stored (b := w.heap.size + 1) (fun c hc => by have : W.heap.size ≤ c := hc; omega) _).weak (fun c hc => by have : W.heap.size ≤ c := hc; omega)⟩, below_setRow (HK0.out.trans HK3.out) (by omega) _⟩
theorem knd_bound (x D : Int) : 0 ≤ knd x D ∧ knd x D ≤ 9 ∧ (D ≤ 0 → knd x D ≤ 5) := by
  obtain ⟨_, e2, e3⟩ := knd_mod x
  unfold knd
  dsimp only
  generalize (x.tmod 10 + 10).tmod 10 = k at *
  by_cases h : D ≤ 0 ∧ 6 ≤ k
  · rw [if_pos h]; omega
  · rw [if_neg h]; omega
/-- Clean of a value whose kind becomes one without kids -/
theorem Clean_flat (x D : Int) (hk : knd x D ≤ 5) (P : Option Addr → Nat → Prop) (v : Value) (w : World) (hv : R6 P w x v) : Calls Tryz.prog 14 #[v, .int .i64 D] w fun e w' => (∃ u, e = .returned u ∧ Flat w.heap.size w' (knd x D) u) ∧ Kept w w' := by
  obtain ⟨ng, A, c, l, bits, t, K, kn, kc, rfl, hs, hd, h64, _, _⟩ := hv
  have hb := (knd_bound x D).1
  generalize hkd : knd x D = k at *
  have : k = 0 ∨ k = 1 ∨ k = 2 ∨ k = 3 ∨ k = 4 ∨ k = 5 := by omega
  rcases this with rfl | rfl | rfl | rfl | rfl | rfl
  · exact Clean_none x D ng A c l.length bits t K kn kc w hkd
  · exact Clean_bool x D ng A c l.length bits t K kn kc w hkd
  · exact Clean_int x D ng A c l hd bits t K kn kc w hs hkd
  · exact Clean_flt x D ng A c l.length bits t K kn kc w h64 hkd
  · exact Clean_txt x D 4 (.inl rfl) ng A c l.length bits t K kn kc w hkd
  · exact Clean_txt x D 5 (.inr rfl) ng A c l.length bits t K kn kc w hkd
theorem Clean_zero : ClP 0 := fun x v w hv => (Clean_flat x 0 ((knd_bound x 0).2.2 (by decide)) _ v w hv).mono fun _ _ ⟨⟨u, he, hf⟩, hk⟩ => ⟨⟨u, he, hf.og 0⟩, hk⟩
theorem Clean_succ (d : Nat) (hd : d ≤ 100) (hC : ClP d) : ClP (d + 1) := fun x v w hv => by
  have hD : ((d + 1 : Nat) : Int) = (d : Int) + 1 := by omega
  by_cases h5 : knd x ((d + 1 : Nat) : Int) ≤ 5
  · exact (Clean_flat x _ h5 _ v w hv).mono fun _ _ ⟨⟨u, he, hf⟩, hk⟩ => ⟨⟨u, he, hf.og _⟩, hk⟩
  · have hb := (knd_bound x ((d + 1 : Nat) : Int)).2.1
    obtain ⟨ng, A, c, l, bits, t, K, kn, kc, rfl, hs, hdd, h64, hn, hK⟩ := hv
    generalize hkd : knd x ((d + 1 : Nat) : Int) = k at *
    have : k = 6 ∨ k = 7 ∨ k = 8 ∨ k = 9 := by omega
    rcases this with rfl | rfl | rfl | rfl
    · exact Clean_kids6 d hd hC x _ hD hkd ng A K l c bits kn kc t w hn hK
    · exact Clean_kids7 d hd hC x _ hD hkd ng A K l c bits kn kc t w hn hK
    · exact Clean_box8 d hd hC x _ hD hkd ng A K l c bits kn kc t w hn hK
    · exact Clean_box9 d hd hC x _ hD hkd ng A K l c bits kn kc t w hn hK
theorem Clean_any : ∀ d, d ≤ 100 → ClP d
  | 0, _ => Clean_zero
  | d + 1, h => Clean_succ d (by omega) (Clean_any d (by omega))
/-- Scalar -/
theorem Scalar_any (x : Int) (P : Option Addr → Nat → Prop) (v : Value) (w : World) (hv : R6 P w x v) : Calls Tryz.prog 7 #[v] w fun e w' => (∃ k u, e = .returned u ∧ k ≤ 5 ∧ Flat w.heap.size w' k u) ∧ Kept w w' := by
  have hv' := hv
  obtain ⟨bv, Av, cv, lv, qv, Tv, Kv, nv, ev, rfl, _⟩ := hv'
  obtain ⟨hk0, hbx, hbz⟩ := two_boxes w #[.int .i64 x, .bool bv, .slice Av lv.length cv, .int .u64 (qv : Int), .string Tv, .slice Kv nv ev] #[.int .i64 0, .bool false, .slice none 0 0, .int .u64 0, .string ⟨#[]⟩, .slice none 0 0] 33 33
  have CC := Lib.hid (Clean_flat x 0 ((knd_bound x 0).2.2 (by decide)) P _ ((w.alloc (.cells #[.int .i64 x, .bool bv, .slice Av lv.length cv, .int .u64 (qv : Int), .string Tv, .slice Kv nv ev] 33)).alloc (.cells #[.int .i64 0, .bool false, .slice none 0 0, .int .u64 0, .string ⟨#[]⟩, .slice none 0 0] 33)) (hv.move hk0 fun _ _ h => h))
  have HBZ := Lib.hid hbz
  have HK0 := Lib.hid hk0
  have hz : ((w.alloc (.cells #[.int .i64 x, .bool bv, .slice Av lv.length cv, .int .u64 (qv : Int), .string Tv, .slice Kv nv ev] 33)).alloc (.cells #[.int .i64 0, .bool false, .slice none 0 0, .int .u64 0, .string ⟨#[]⟩, .slice none 0 0] 33)).heap.size = w.heap.size + 1 + 1 := by simp
  have HZ := Lib.hid hz
  have h5 := (knd_bound x 0).2.2 (by decide)
  generalize knd x 0 = k at *
  have H5 := Lib.hid h5
  clear hk0 hbx hbz hz hv h5
  go_enter Tryz.func7, Tryz.ntmps7
  go_wp2_with fail
  generalize ((w.alloc (.cells #[.int .i64 x, .bool bv, .slice Av lv.length cv, .int .u64 (qv : Int), .string Tv, .slice Kv nv ev] 33)).alloc (.cells #[.int .i64 0, .bool false, .slice none 0 0, .int .u64 0, .string ⟨#[]⟩, .slice none 0 0] 33)) = W at *
  refine CC.out.mono ?_
  rintro e w3 ⟨⟨v3, rfl, hv3⟩, hk3⟩
  have HV3 := Lib.hid hv3
  have HK3 := Lib.hid hk3
  have HB3 := Lib.hid (HBZ.out.below hk3)
  obtain ⟨b3, B3, c3, l3, q3, T3, K3, n3, e3, rfl, _, _, _, _, _, _, _, _, _, _, rfl, rfl, rfl⟩ := hv3
  have hst := run_storeVar_row (P := Tryz.prog) w3 (w.heap.size + 1) 33 33 _ #[.int .i64 k, .bool b3, .slice B3 l3.length c3, .int .u64 (q3 : Int), .string T3, .slice none 0 0] HB3.out info_Vl rfl (by simp [Value.oneCell'])
  simp [go_sem] at hst
  clear hk3 CC
  go_wp2_with fail
  refine bodyPost_blk rfl rfl (setRow_heap _ _ _ #[.int .i64 k, .bool b3, .slice B3 l3.length c3, .int .u64 (q3 : Int), .string T3, .slice none 0 0] _ _ HB3.out) Tryz.underlying33 rfl (by exact info_Vl) rfl ?_
  have hz := HZ.out
  exact ⟨⟨k, _, rfl, H5.out, (HV3.out.setRow (b := w.heap.size + 1) (by omega) _).lower (by omega)⟩, below_setRow (HK0.out.trans HK3.out) (by omega) _⟩
end Go.Proofs.YtoociokhldakbaaGreat
