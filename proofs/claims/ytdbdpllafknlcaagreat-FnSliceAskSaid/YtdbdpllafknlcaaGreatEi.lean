/- What the implementation answers of a slice of three parts. -/
import Derived.Test.YtdbdpllafknlcaaGreatEh
import Derived.Deep.RegionHeld3
namespace Go.Proofs.YtdbdpllafknlcaaGreat
open Go.ChangeShapes Go.WideShapes Go.ChangeAt Go.RowKit
set_option linter.unusedVariables false
theorem results_tmp5 {fn : Func} {t u v x y : Tmp} (h : fn.results = #[.tmp t, .tmp u, .tmp v, .tmp x, .tmp y]) (tmps : Array Value) (P : Program) (w : World) :
    (results fn tmps).run P w = .ok (.tuple #[tmps.getD t undef, tmps.getD u undef, tmps.getD v undef, tmps.getD x undef, tmps.getD y undef]) w := by
  simp [results, h]
set_option maxRecDepth 100000 in
set_option maxHeartbeats 1000000 in
theorem sliceAsk_good (n : Nat) (hn : n ≤ 2147483647) (k0 k1 k2 : Int) (b0 b1 b2 : Bool) (A0 A1 A2 : Option Addr) (n0 n1 n2 c0 c1 c2 : Nat) (o1 o2 o3 : Option Int) (hs : stp o3 ≠ 0) (w : World) (h0 : IV w k0 b0 A0 n0 c0 (some o1)) (h1 : IV w k1 b1 A1 n1 c1 (some o2)) (h2 : IV w k2 b2 A2 n2 c2 (some o3)) :
    Calls Tryz.prog 7 #[.int .i64 n, .agg #[.int .i64 k0, .bool b0, .slice A0 n0 c0, .int .u64 0, .string ⟨#[]⟩, .slice none 0 0, .int .i64 k1, .bool b1, .slice A1 n1 c1, .int .u64 0, .string ⟨#[]⟩, .slice none 0 0, .int .i64 k2, .bool b2, .slice A2 n2 c2, .int .u64 0, .string ⟨#[]⟩, .slice none 0 0]] w
      fun e w' => e = .returned (.tuple #[.int .i64 (aI n (stp o3) o1 o2), .int .i64 (bI n (stp o3) o1 o2), .int .i64 (stp o3), .bool true, .bool true]) ∧ Kept w w' := by
  have HT := fun W (k : Kept w W) => Lib.hid (triple_any k0 k1 k2 b0 b1 b2 A0 A1 A2 n0 n1 n2 c0 c1 c2 (some o1) (some o2) (some o3) W (h0.below k) (h1.below k) (h2.below k))
  clear h0 h1 h2
  obtain ⟨cs, hcs⟩ : ∃ cs : Array Value, cs = #[.int .i64 k0, .bool b0, .slice A0 n0 c0, .int .u64 0, .string ⟨#[]⟩, .slice none 0 0, .int .i64 k1, .bool b1, .slice A1 n1 c1, .int .u64 0, .string ⟨#[]⟩, .slice none 0 0, .int .i64 k2, .bool b2, .slice A2 n2 c2, .int .u64 0, .string ⟨#[]⟩, .slice none 0 0] := ⟨_, rfl⟩
  rw [← hcs] at HT
  rw [← hcs]
  have hz : (Tryz.prog.info? 27).map (·.size) = some cs.size := by rw [hcs]; kernel_rfl
  have HBL : Hid (Blk (w.alloc (.cells cs 27)) w.heap.size 27 cs) := Lib.hid (Blk.new w _ _)
  have HK0 : Hid (Kept w (w.alloc (.cells cs 27))) := Lib.hid ((Below.refl _ _).alloc (Nat.le_refl _) _)
  clear hcs
  obtain ⟨s, hs'⟩ : ∃ s, s = stp o3 := ⟨_, rfl⟩
  have HSL := fun g a0 b0 s0 v1 v2 v3 W hb a1 a2 a3 => Lib.hid (zzSlice_good g n _ _ _ _ v1 v2 v3 W (slice_good g n a0 b0 s0 hn v1 v2 v3 W hb o1 o2 o3 a1 a2 a3 hs))
  rw [← hs'] at HSL
  rw [← hs']
  clear hs hs'
  obtain ⟨a, ha⟩ : ∃ a, a = aI n s o1 o2 := ⟨_, rfl⟩
  obtain ⟨b, hb⟩ : ∃ b, b = bI n s o1 o2 := ⟨_, rfl⟩
  rw [← ha, ← hb] at HSL
  rw [← ha, ← hb]
  clear ha hb
  go_enter Tryz.func7, Tryz.ntmps7
  go_wp2_with (refine wpList_load_blk rfl 27 (.tmp 3) rfl w.heap.size rfl 27 cs HBL.out _ Tryz.underlying27 rfl hz ?_)
  refine (HT _ HK0.out).out.mono ?_
  rintro e w1 ⟨u0, u1, u2, rfl, a0, a1, a2, hk1⟩
  obtain ⟨t0, x0, rfl⟩ := a0.form
  obtain ⟨t1, x1, rfl⟩ := a1.form
  obtain ⟨t2, x2, rfl⟩ := a2.form
  have HK1 := Lib.hid (Kept.trans HK0.out hk1)
  have HA0 := Lib.hid a0
  have HA1 := Lib.hid a1
  have HA2 := Lib.hid a2
  clear HBL hz HT HK0 hk1 a0 a1 a2
  go_wp2_with fail
  have hbq : Blk ((w1.alloc (.cells #[.iface t0 x0, .iface t1 x1, .iface t2 x2] 49)).alloc (.cells #[.int .i64 n, .int .i64 0, .int .i64 0, .int .i64 0] 54)) (w1.heap.size + 1) 54 #[.int .i64 n, .int .i64 0, .int .i64 0, .int .i64 0] := by have := Blk.new (w1.alloc (.cells #[.iface t0 x0, .iface t1 x1, .iface t2 x2] 49)) 54 #[.int .i64 n, .int .i64 0, .int .i64 0, .int .i64 0]; rwa [World.size_alloc] at this
  have hkq : Kept w ((w1.alloc (.cells #[.iface t0 x0, .iface t1 x1, .iface t2 x2] 49)).alloc (.cells #[.int .i64 n, .int .i64 0, .int .i64 0, .int .i64 0] 54)) := (HK1.out.alloc HK1.out.size _).alloc (by simp only [World.size_alloc]; have := HK1.out.size; omega) _
  have hszq : w.heap.size ≤ w1.heap.size := HK1.out.size
  refine (HSL _ 0 0 0 _ _ _ _ hbq HA0.out.any HA1.out.any HA2.out.any).out.mono ?_
  clear hbq
  rintro e w3 ⟨rfl, hb3, hk3, _⟩
  have hkf := Below.trans hkq (hk3.mono (show w.heap.size ≤ w1.heap.size + 1 by omega))
  have g1 : w3.cell? ⟨w1.heap.size + 1, 1, none⟩ = some (.int .i64 a) := hb3.cell 1
  have g2 : w3.cell? ⟨w1.heap.size + 1, 2, none⟩ = some (.int .i64 b) := hb3.cell 2
  have g3 : w3.cell? ⟨w1.heap.size + 1, 3, none⟩ = some (.int .i64 s) := hb3.cell 3
  have HKF := Lib.hid hkf
  clear hkq hb3 hk3 HSL hkf
  go_wp2_with fail
  go_region
  go_wp2_with fail
  refine bodyPost_ret (results_tmp5 rfl _ _ _) rfl ?_
  exact ⟨rfl, HKF.out.drew⟩
set_option maxRecDepth 100000 in
set_option maxHeartbeats 1000000 in
theorem sliceAsk_bad (n : Nat) (hn : n ≤ 2147483647) (k0 k1 k2 : Int) (b0 b1 b2 : Bool) (A0 A1 A2 : Option Addr) (n0 n1 n2 c0 c1 c2 : Nat) (p1 p2 p3 : Option (Option Int)) (hr : refused p1 p2 p3) (w : World) (h0 : IV w k0 b0 A0 n0 c0 p1) (h1 : IV w k1 b1 A1 n1 c1 p2) (h2 : IV w k2 b2 A2 n2 c2 p3) :
    Calls Tryz.prog 7 #[.int .i64 n, .agg #[.int .i64 k0, .bool b0, .slice A0 n0 c0, .int .u64 0, .string ⟨#[]⟩, .slice none 0 0, .int .i64 k1, .bool b1, .slice A1 n1 c1, .int .u64 0, .string ⟨#[]⟩, .slice none 0 0, .int .i64 k2, .bool b2, .slice A2 n2 c2, .int .u64 0, .string ⟨#[]⟩, .slice none 0 0]] w
      fun e w' => e = .returned (.tuple #[.int .i64 0, .int .i64 0, .int .i64 0, .bool false, .bool true]) ∧ Kept w w' := by
  have HT := fun W (k : Kept w W) => Lib.hid (triple_any k0 k1 k2 b0 b1 b2 A0 A1 A2 n0 n1 n2 c0 c1 c2 p1 p2 p3 W (h0.below k) (h1.below k) (h2.below k))
  clear h0 h1 h2
  obtain ⟨cs, hcs⟩ : ∃ cs : Array Value, cs = #[.int .i64 k0, .bool b0, .slice A0 n0 c0, .int .u64 0, .string ⟨#[]⟩, .slice none 0 0, .int .i64 k1, .bool b1, .slice A1 n1 c1, .int .u64 0, .string ⟨#[]⟩, .slice none 0 0, .int .i64 k2, .bool b2, .slice A2 n2 c2, .int .u64 0, .string ⟨#[]⟩, .slice none 0 0] := ⟨_, rfl⟩
  rw [← hcs] at HT
  rw [← hcs]
  have hz : (Tryz.prog.info? 27).map (·.size) = some cs.size := by rw [hcs]; kernel_rfl
  have HBL : Hid (Blk (w.alloc (.cells cs 27)) w.heap.size 27 cs) := Lib.hid (Blk.new w _ _)
  have HK0 : Hid (Kept w (w.alloc (.cells cs 27))) := Lib.hid ((Below.refl _ _).alloc (Nat.le_refl _) _)
  clear hcs
  have HSL := fun g a0 b0 s0 v1 v2 v3 W hb a1 a2 a3 => Lib.hid (zzSlice_bad _ v1 v2 v3 W (slice_bad g n a0 b0 s0 hn v1 v2 v3 W hb p1 p2 p3 a1 a2 a3 hr))
  clear hr
  go_enter Tryz.func7, Tryz.ntmps7
  go_wp2_with (refine wpList_load_blk rfl 27 (.tmp 3) rfl w.heap.size rfl 27 cs HBL.out _ Tryz.underlying27 rfl hz ?_)
  refine (HT _ HK0.out).out.mono ?_
  rintro e w1 ⟨u0, u1, u2, rfl, a0, a1, a2, hk1⟩
  obtain ⟨t0, x0, rfl⟩ := a0.form
  obtain ⟨t1, x1, rfl⟩ := a1.form
  obtain ⟨t2, x2, rfl⟩ := a2.form
  have HK1 := Lib.hid (Kept.trans HK0.out hk1)
  have HA0 := Lib.hid a0
  have HA1 := Lib.hid a1
  have HA2 := Lib.hid a2
  clear HBL hz HT HK0 hk1 a0 a1 a2
  go_wp2_with fail
  have hbq : Blk ((w1.alloc (.cells #[.iface t0 x0, .iface t1 x1, .iface t2 x2] 49)).alloc (.cells #[.int .i64 n, .int .i64 0, .int .i64 0, .int .i64 0] 54)) (w1.heap.size + 1) 54 #[.int .i64 n, .int .i64 0, .int .i64 0, .int .i64 0] := by have := Blk.new (w1.alloc (.cells #[.iface t0 x0, .iface t1 x1, .iface t2 x2] 49)) 54 #[.int .i64 n, .int .i64 0, .int .i64 0, .int .i64 0]; rwa [World.size_alloc] at this
  have hkq : Kept w ((w1.alloc (.cells #[.iface t0 x0, .iface t1 x1, .iface t2 x2] 49)).alloc (.cells #[.int .i64 n, .int .i64 0, .int .i64 0, .int .i64 0] 54)) := (HK1.out.alloc HK1.out.size _).alloc (by simp only [World.size_alloc]; have := HK1.out.size; omega) _
  have hszq : w.heap.size ≤ w1.heap.size := HK1.out.size
  refine (HSL _ 0 0 0 _ _ _ _ hbq HA0.out.any HA1.out.any HA2.out.any).out.mono ?_
  clear hbq
  rintro e w3 ⟨⟨u, rfl⟩, hk3⟩
  have hkf := Kept.trans hkq hk3
  have HKF := Lib.hid hkf
  clear hkq hk3 HSL hkf
  go_wp2_with fail
  refine bodyPost_ret (results_tmp5 rfl _ _ _) rfl ?_
  exact ⟨rfl, HKF.out⟩
end Go.Proofs.YtdbdpllafknlcaaGreat
