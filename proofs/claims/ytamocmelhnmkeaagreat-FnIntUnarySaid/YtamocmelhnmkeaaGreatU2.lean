import Derived.Test.YtamocmelhnmkeaaGreatU1
import Derived.Laws.EntriesVeiled
namespace Go.Proofs.YtamocmelhnmkeaaGreat
open Go.ChangeShapes Go.WideShapes Go.ChangeAt Go.RowKit
set_option linter.unusedVariables false
/-- an answer and whether it is one -/
def RetVB (w : World) (z : Int) (e : Ending) (w' : World) : Prop := ∃ v, e = .returned (.tuple #[v, .bool true]) ∧ VIf w.heap.size w' v z ∧ Kept w w'
theorem results_cell_tmp {fn : Func} {p q : Tmp} {ty : TypeId} (h : fn.results = #[.cell p ty, .tmp q]) (P : Program) (tmps : Array Value) (w : World) (g : Nat) (t : TypeId) (cs : Array Value) (fr : Nat × Nat) (d : Array Field)
    (hp : tmps.getD p undef = .pointer (some ⟨g, 0, none⟩)) (hg : w.heap[g]? = some (.cells cs t fr))
    (hu : P.underlying ty = some (.struct d)) (hi : (P.info? ty).map (·.size) = some cs.size) :
    (results fn tmps).run P w = .ok (.tuple #[.agg cs, tmps.getD q undef]) w := by
  have e : tmps[p]?.getD undef = .pointer (some ⟨g, 0, none⟩) := by simpa using hp
  simp [results, h, e, asAddr, run_loadVar_row w g t ty cs fr _ hg hu rfl hi]
/-- a unary operator's answer -/
def RetUn (w : World) (z : Int) (e : Ending) (w' : World) : Prop := ∃ x p, e = .returned (.tuple #[.iface 75 (.agg #[.int .i64 x, .pointer p]), .nilIface]) ∧ StI w' (.agg #[.int .i64 x, .pointer p]) z ∧ Kept w w'
set_option maxRecDepth 100000 in
theorem Unary_plus (x0 : Int) (p0 : Option Addr) (z : Int) (w : World) (hv : StI w (.agg #[.int .i64 x0, .pointer p0]) z) :
    Calls Tryz.prog 27 #[(.agg #[.int .i64 x0, .pointer p0]), .int .i8 10] w (RetUn w z) := by
  have HV := Lib.hid hv
  clear hv
  go_enter Tryz.func27, Tryz.ntmps27
  go_wp2_with fail
  go_ret2
  have hk : Kept w (w.alloc (.cells #[.int .i64 x0, .pointer p0] 75)) := by go_grown
  exact ⟨x0, p0, rfl, HV.out.below hk, hk⟩
set_option maxRecDepth 100000 in
set_option maxHeartbeats 1000000 in
theorem Unary_tilde (x0 : Int) (p0 : Option Addr) (z : Int) (hz : z.natAbs + 1 < Num.Cap) (w : World) (hv : StI w (.agg #[.int .i64 x0, .pointer p0]) z) :
    Calls Tryz.prog 27 #[(.agg #[.int .i64 x0, .pointer p0]), .int .i8 21] w (RetUn w (-z - 1)) := by
  have hk : Kept w (w.alloc (.cells #[.int .i64 x0, .pointer p0] 75)) := by go_grown
  have HN := Lib.hid (iNot_any x0 p0 z hz _ (hv.below hk))
  have HK := Lib.hid hk
  clear hv hk
  go_enter Tryz.func27, Tryz.ntmps27
  go_wp2_with fail
  refine (HN.out).mono ?_
  rintro e w1 ⟨v1, rfl, hv1, hk1⟩
  have HV1 := Lib.hid hv1.toStI
  obtain ⟨x1, p1, rfl⟩ := hv1.two
  have HK1 := Lib.hid (HK.out.trans hk1)
  clear hv1 hk1
  go_wp2_with fail
  go_ret2
  exact ⟨x1, p1, rfl, HV1.out, HK1.out⟩
set_option maxRecDepth 100000 in
set_option maxHeartbeats 1000000 in
theorem Unary_minus (x0 : Int) (p0 : Option Addr) (z : Int) (hz : z.natAbs < Num.Cap) (w : World) (hv : StI w (.agg #[.int .i64 x0, .pointer p0]) z) :
    Calls Tryz.prog 27 #[(.agg #[.int .i64 x0, .pointer p0]), .int .i8 11] w (RetUn w (-z)) := by
  have hk : Kept w (w.alloc (.cells #[.int .i64 x0, .pointer p0] 75)) := by go_grown
  have hb : Blk (w.alloc (.cells #[.int .i64 x0, .pointer p0] 75)) w.heap.size 75 #[.int .i64 x0, .pointer p0] := Blk.new w _ _
  have HS : Hid (∀ W : World, Kept w W → Calls Tryz.prog 51 #[.agg #[.int .i64 0, .pointer none], (.agg #[.int .i64 x0, .pointer p0])] W (RetStI W (-z))) := Lib.hid fun W h => iSub0g_any x0 p0 z hz W (hv.below h)
  have HK := Lib.hid hk
  have KEEP : Hid (∀ W : World, Kept (w.alloc (.cells #[.int .i64 x0, .pointer p0] 75)) W → W.cell? ⟨w.heap.size, 0, none⟩ = some (.int .i64 x0) ∧ W.cell? ⟨w.heap.size, 1, none⟩ = some (.pointer p0)) := Lib.hid fun W h => ⟨(hb.below h).cell 0, (hb.below h).cell 1⟩
  clear hv hb hk
  go_enter Tryz.func27, Tryz.ntmps27
  go_wp2_with fail
  generalize (w.alloc (.cells #[.int .i64 x0, .pointer p0] 75)) = W0 at *
  go_region_held3 (fun W : World => W.cell? ⟨w.heap.size, 0, none⟩ = some (.int .i64 x0) ∧ W.cell? ⟨w.heap.size, 1, none⟩ = some (.pointer p0))
    (exact KEEP.out _ (by go_grown))
    (first
      | (go_at_call 50
         (with_reducible refine Calls.mono (zero_any _) ?_)
         rintro e w1 ⟨rfl, hk1⟩
         have hL1 : Kept W0 w1 := ⟨hk1.os, hk1.tape, hk1.output, hk1.size, hk1.block⟩)
      | (go_at_call 51
         (with_reducible refine Calls.mono (HS.out _ (HK.out.trans hL1)) ?_)
         rintro e w2 ⟨v2, rfl, hv2, hk2⟩
         have hL2 : Kept W0 w2 := hL1.trans hk2
         have HV2 := Lib.hid hv2.toStI
         obtain ⟨x2, p2, rfl⟩ := hv2.two
         clear hv2))
  go_wp2_with fail
  go_ret2
  exact ⟨x2, p2, rfl, HV2.out, HK.out.trans hL2⟩
set_option maxRecDepth 100000 in
set_option maxHeartbeats 1000000 in
theorem tell_int (x0 : Int) (p0 : Option Addr) (z : Int) (hz : z.natAbs < Num.Cap) (w : World) (hv : StI w (.agg #[.int .i64 x0, .pointer p0]) z) :
    Calls Tryz.prog 46 #[.iface 75 (.agg #[.int .i64 x0, .pointer p0])] w (RetVI w z) := by
  have hf1 : ∀ W : World, (Instr.typeAssert (.iface 75 (.agg #[.int .i64 x0, .pointer p0])) 67 128 true).run Tryz.prog W = .ok (.tuple #[.int .u8 0, .bool false]) W := fun _ => by kernel_rfl
  have hf2 : ∀ W : World, (Instr.typeAssert (.iface 75 (.agg #[.int .i64 x0, .pointer p0])) 67 129 true).run Tryz.prog W = .ok (.tuple #[.bool false, .bool false]) W := fun _ => by kernel_rfl
  have hf3 : ∀ W : World, (Instr.typeAssert (.iface 75 (.agg #[.int .i64 x0, .pointer p0])) 67 75 true).run Tryz.prog W = .ok (.tuple #[(.agg #[.int .i64 x0, .pointer p0]), .bool true]) W := fun _ => by kernel_rfl
  have hk0 : Kept w ((w.alloc (.cells #[.int .i64 0, .bool false, .slice none 0 0, .int .u64 0, .string ⟨#[]⟩, .slice none 0 0] 28)).alloc (.cells #[.int .i64 x0, .pointer p0] 75)) := by go_grown
  have b1 : Blk ((w.alloc (.cells #[.int .i64 0, .bool false, .slice none 0 0, .int .u64 0, .string ⟨#[]⟩, .slice none 0 0] 28)).alloc (.cells #[.int .i64 x0, .pointer p0] 75)) w.heap.size 28 #[.int .i64 0, .bool false, .slice none 0 0, .int .u64 0, .string ⟨#[]⟩, .slice none 0 0] :=
    (Blk.new w _ _).below ((Below.refl _ _).alloc (Nat.le_refl _) _)
  have HN := Lib.hid (number_any _ z hz _ (hv.below hk0))
  have HB1 := Lib.hid b1
  have HK0 := Lib.hid hk0
  have l1 := b1.lt
  clear hv b1 hk0 hz
  go_enter Tryz.func46, Tryz.ntmps46
  go_wp2_with fail
  generalize ((w.alloc (.cells #[.int .i64 0, .bool false, .slice none 0 0, .int .u64 0, .string ⟨#[]⟩, .slice none 0 0] 28)).alloc (.cells #[.int .i64 x0, .pointer p0] 75)) = W at *
  refine (HN.out).mono ?_
  rintro e w3 ⟨v3, rfl, hs3, hk3⟩
  have H := Lib.hid (HB1.out.below hk3)
  have HV3 := Lib.hid (hs3.mono (B' := w.heap.size + 1) (by omega))
  obtain ⟨A4, c4, l4, rfl, _⟩ := hs3
  have HK3 : Hid (Kept w w3) := Lib.hid (HK0.out.trans hk3)
  clear hk3
  go_wp2_with (refine wpList_store_row rfl 28 (.tmp 2) (.tmp 29) rfl w.heap.size _ rfl rfl 28 _ H.out info_Val rfl (by simp [Value.oneCell']) ?_)
  refine bodyPost_blk (cs := #[.int .i64 2, .bool (decide (z < 0)), .slice A4 l4.length c4, .int .u64 0, .string ⟨#[]⟩, .slice none 0 0]) rfl rfl (setRow_heap _ _ _ _ _ _ H.out) Tryz.underlying28 rfl (by exact info_Val) rfl ?_
  exact ⟨_, rfl, (HV3.out.setRow (by omega) _).mono (by omega), below_setRow HK3.out (by omega) _⟩
set_option maxRecDepth 100000 in
set_option maxHeartbeats 1000000 in
theorem answered_int (x0 : Int) (p0 : Option Addr) (z : Int) (hz : z.natAbs < Num.Cap) (w : World) (hv : StI w (.agg #[.int .i64 x0, .pointer p0]) z) :
    Calls Tryz.prog 25 #[.iface 75 (.agg #[.int .i64 x0, .pointer p0]), .nilIface] w (RetVB w z) := by
  have hk0 : Kept w (w.alloc (.cells #[.int .i64 0, .bool false, .slice none 0 0, .int .u64 0, .string ⟨#[]⟩, .slice none 0 0] 28)) := by go_grown
  have b1 : Blk (w.alloc (.cells #[.int .i64 0, .bool false, .slice none 0 0, .int .u64 0, .string ⟨#[]⟩, .slice none 0 0] 28)) w.heap.size 28 #[.int .i64 0, .bool false, .slice none 0 0, .int .u64 0, .string ⟨#[]⟩, .slice none 0 0] := Blk.new w _ _
  have HN := Lib.hid (tell_int x0 p0 z hz _ (hv.below hk0))
  have HB1 := Lib.hid b1
  have HK0 := Lib.hid hk0
  have l1 := b1.lt
  clear hv b1 hk0 hz
  go_enter Tryz.func25, Tryz.ntmps25
  go_wp2_with fail
  generalize (w.alloc (.cells #[.int .i64 0, .bool false, .slice none 0 0, .int .u64 0, .string ⟨#[]⟩, .slice none 0 0] 28)) = W at *
  refine (HN.out).mono ?_
  rintro e w3 ⟨v3, rfl, hs3, hk3⟩
  have H := Lib.hid (HB1.out.below hk3)
  have HV3 := Lib.hid (hs3.mono (B' := w.heap.size + 1) (by omega))
  obtain ⟨A4, c4, l4, rfl, _⟩ := hs3
  have HK3 : Hid (Kept w w3) := Lib.hid (HK0.out.trans hk3)
  clear hk3
  go_wp2_with (refine wpList_store_row rfl 28 (.tmp 4) (.tmp 14) rfl w.heap.size _ rfl rfl 28 _ H.out info_Val rfl (by simp [Value.oneCell']) ?_)
  refine bodyPost_ret (results_cell_tmp rfl _ _ _ w.heap.size 28 #[.int .i64 2, .bool (decide (z < 0)), .slice A4 l4.length c4, .int .u64 0, .string ⟨#[]⟩, .slice none 0 0] _ _ rfl (setRow_heap _ _ _ _ _ _ H.out) Tryz.underlying28 (by exact info_Val)) rfl ?_
  exact ⟨_, rfl, (HV3.out.setRow (by omega) _).mono (by omega), below_setRow HK3.out (by omega) _⟩
set_option maxRecDepth 100000 in
theorem unary_Pos (w : World) : Calls Tryz.prog 24 #[.int .i64 19] w fun e w' => e = .returned (.tuple #[.int .i8 10, .bool true]) ∧ Kept w w' := by
  go_enter Tryz.func24, Tryz.ntmps24
  go_wp2_with fail
  go_ret2
  exact ⟨rfl, by go_grown⟩
set_option maxRecDepth 100000 in
set_option maxHeartbeats 2000000 in
theorem IntUnary_Pos (v : Value) (x : Int) (hX1 : x.natAbs + 1 < Num.Cap) (w : World) (hv : VI w v x) :
    Calls Tryz.prog 7 #[.int .i64 19, v] w (RetVB w (x)) := by
  obtain ⟨A, c, l, rfl, hs, hl⟩ := hv
  have hX : x.natAbs < Num.Cap := by omega
  have hk0 : Kept w ((w.alloc (.cells #[.int .i64 2, .bool (decide (x < 0)), .slice A l.length c, .int .u64 0, .string ⟨#[]⟩, .slice none 0 0] 28)).alloc (.cells #[.int .i64 0, .bool false, .slice none 0 0, .int .u64 0, .string ⟨#[]⟩, .slice none 0 0] 28)) := by go_grown
  have b1 : Blk ((w.alloc (.cells #[.int .i64 2, .bool (decide (x < 0)), .slice A l.length c, .int .u64 0, .string ⟨#[]⟩, .slice none 0 0] 28)).alloc (.cells #[.int .i64 0, .bool false, .slice none 0 0, .int .u64 0, .string ⟨#[]⟩, .slice none 0 0] 28)) w.heap.size 28 #[.int .i64 2, .bool (decide (x < 0)), .slice A l.length c, .int .u64 0, .string ⟨#[]⟩, .slice none 0 0] := (Blk.new w _ _).below ((Below.refl _ _).alloc (Nat.le_refl _) _)
  have b2 : Blk ((w.alloc (.cells #[.int .i64 2, .bool (decide (x < 0)), .slice A l.length c, .int .u64 0, .string ⟨#[]⟩, .slice none 0 0] 28)).alloc (.cells #[.int .i64 0, .bool false, .slice none 0 0, .int .u64 0, .string ⟨#[]⟩, .slice none 0 0] 28)) (w.heap.size + 1) 28 #[.int .i64 0, .bool false, .slice none 0 0, .int .u64 0, .string ⟨#[]⟩, .slice none 0 0] := by
    have := Blk.new (w.alloc (.cells #[.int .i64 2, .bool (decide (x < 0)), .slice A l.length c, .int .u64 0, .string ⟨#[]⟩, .slice none 0 0] 28)) 28 #[.int .i64 0, .bool false, .slice none 0 0, .int .u64 0, .string ⟨#[]⟩, .slice none 0 0]
    rwa [World.size_alloc] at this
  have hV : VI ((w.alloc (.cells #[.int .i64 2, .bool (decide (x < 0)), .slice A l.length c, .int .u64 0, .string ⟨#[]⟩, .slice none 0 0] 28)).alloc (.cells #[.int .i64 0, .bool false, .slice none 0 0, .int .u64 0, .string ⟨#[]⟩, .slice none 0 0] 28)) (.agg #[.int .i64 2, .bool (decide (x < 0)), .slice A l.length c, .int .u64 0, .string ⟨#[]⟩, .slice none 0 0]) x := ⟨A, c, l, rfl, hs.below hk0, hl⟩
  have HV := Lib.hid hV
  have HX := Lib.hid hX
  have HX1 := Lib.hid hX1
  have HZ : Hid ((x : Int).natAbs < Num.Cap) := Lib.hid (by omega)
  have HB1 := Lib.hid b1
  have HB2 := Lib.hid b2
  have HK0 := Lib.hid hk0
  have l2 := b2.lt
  clear hs hl hV b1 b2 hk0 hX hX1
  go_enter Tryz.func7, Tryz.ntmps7
  go_wp2_with fail
  generalize ((w.alloc (.cells #[.int .i64 2, .bool (decide (x < 0)), .slice A l.length c, .int .u64 0, .string ⟨#[]⟩, .slice none 0 0] 28)).alloc (.cells #[.int .i64 0, .bool false, .slice none 0 0, .int .u64 0, .string ⟨#[]⟩, .slice none 0 0] 28)) = W at *
  refine (unary_Pos W).mono ?_
  rintro e w0 ⟨rfl, hk0'⟩
  have HW := Lib.hid (whole_any _ x HX.out w0 (HV.out.below hk0'))
  have HB1' := Lib.hid (HB1.out.below hk0')
  have HB2' := Lib.hid (HB2.out.below hk0')
  have HK0' := Lib.hid (HK0.out.trans hk0')
  have hz0 := hk0'.size
  clear hk0'
  go_wp2_with (refine wpList_load_row rfl 28 (.tmp 3) rfl w.heap.size rfl _ _ (0, 0) _ HB1'.out Tryz.underlying28 rfl (by exact info_Val) ?_)
  refine (HW.out).mono ?_
  rintro e w1 ⟨v1, rfl, hs1, hk1⟩
  have HS2 := Lib.hid hs1.toStI
  obtain ⟨x0, p0, rfl⟩ := hs1.two
  have HR := Lib.hid (Unary_plus x0 p0 x _ HS2.out)
  have HK1 := Lib.hid hk1
  clear hs1 hk1
  go_wp2_with fail
  refine (HR.out).mono ?_
  rintro e w2 ⟨x1, p1, rfl, hs2, hk2⟩
  have HN := Lib.hid (answered_int x1 p1 _ HZ.out w2 hs2)
  have HK2 := Lib.hid hk2
  clear hs2 hk2
  go_wp2_with fail
  refine (HN.out).mono ?_
  rintro e w3 ⟨v3, rfl, hs3, hk3⟩
  have hkk : Kept w0 w3 := (HK1.out.trans HK2.out).trans hk3
  have H := Lib.hid (HB2'.out.below hkk)
  have hz1 := HK1.out.size
  have hz2 := HK2.out.size
  have HV3 := Lib.hid (hs3.mono (B' := w.heap.size + 1 + 1) (by omega))
  obtain ⟨A4, c4, l4, rfl, _⟩ := hs3
  have HK3 : Hid (Kept w w3) := Lib.hid (HK0'.out.trans hkk)
  generalize decide ((x : Int) < 0) = bb at *
  clear hkk hk3
  go_wp2_with (refine wpList_store_row rfl 28 (.tmp 4) (.tmp 23) rfl (w.heap.size + 1) _ rfl rfl 28 _ H.out info_Val rfl (by simp [Value.oneCell']) ?_)
  refine bodyPost_ret (results_cell_tmp rfl _ _ _ (w.heap.size + 1) 28 #[.int .i64 2, .bool bb, .slice A4 l4.length c4, .int .u64 0, .string ⟨#[]⟩, .slice none 0 0] _ _ rfl (setRow_heap _ _ _ _ _ _ H.out) Tryz.underlying28 (by exact info_Val)) rfl ?_
  exact ⟨_, rfl, (HV3.out.setRow (by omega) _).mono (by omega), below_setRow HK3.out (by omega) _⟩
set_option maxRecDepth 100000 in
theorem unary_Neg (w : World) : Calls Tryz.prog 24 #[.int .i64 20] w fun e w' => e = .returned (.tuple #[.int .i8 11, .bool true]) ∧ Kept w w' := by
  go_enter Tryz.func24, Tryz.ntmps24
  go_wp2_with fail
  go_ret2
  exact ⟨rfl, by go_grown⟩
set_option maxRecDepth 100000 in
set_option maxHeartbeats 2000000 in
theorem IntUnary_Neg (v : Value) (x : Int) (hX1 : x.natAbs + 1 < Num.Cap) (w : World) (hv : VI w v x) :
    Calls Tryz.prog 7 #[.int .i64 20, v] w (RetVB w (-x)) := by
  obtain ⟨A, c, l, rfl, hs, hl⟩ := hv
  have hX : x.natAbs < Num.Cap := by omega
  have hk0 : Kept w ((w.alloc (.cells #[.int .i64 2, .bool (decide (x < 0)), .slice A l.length c, .int .u64 0, .string ⟨#[]⟩, .slice none 0 0] 28)).alloc (.cells #[.int .i64 0, .bool false, .slice none 0 0, .int .u64 0, .string ⟨#[]⟩, .slice none 0 0] 28)) := by go_grown
  have b1 : Blk ((w.alloc (.cells #[.int .i64 2, .bool (decide (x < 0)), .slice A l.length c, .int .u64 0, .string ⟨#[]⟩, .slice none 0 0] 28)).alloc (.cells #[.int .i64 0, .bool false, .slice none 0 0, .int .u64 0, .string ⟨#[]⟩, .slice none 0 0] 28)) w.heap.size 28 #[.int .i64 2, .bool (decide (x < 0)), .slice A l.length c, .int .u64 0, .string ⟨#[]⟩, .slice none 0 0] := (Blk.new w _ _).below ((Below.refl _ _).alloc (Nat.le_refl _) _)
  have b2 : Blk ((w.alloc (.cells #[.int .i64 2, .bool (decide (x < 0)), .slice A l.length c, .int .u64 0, .string ⟨#[]⟩, .slice none 0 0] 28)).alloc (.cells #[.int .i64 0, .bool false, .slice none 0 0, .int .u64 0, .string ⟨#[]⟩, .slice none 0 0] 28)) (w.heap.size + 1) 28 #[.int .i64 0, .bool false, .slice none 0 0, .int .u64 0, .string ⟨#[]⟩, .slice none 0 0] := by
    have := Blk.new (w.alloc (.cells #[.int .i64 2, .bool (decide (x < 0)), .slice A l.length c, .int .u64 0, .string ⟨#[]⟩, .slice none 0 0] 28)) 28 #[.int .i64 0, .bool false, .slice none 0 0, .int .u64 0, .string ⟨#[]⟩, .slice none 0 0]
    rwa [World.size_alloc] at this
  have hV : VI ((w.alloc (.cells #[.int .i64 2, .bool (decide (x < 0)), .slice A l.length c, .int .u64 0, .string ⟨#[]⟩, .slice none 0 0] 28)).alloc (.cells #[.int .i64 0, .bool false, .slice none 0 0, .int .u64 0, .string ⟨#[]⟩, .slice none 0 0] 28)) (.agg #[.int .i64 2, .bool (decide (x < 0)), .slice A l.length c, .int .u64 0, .string ⟨#[]⟩, .slice none 0 0]) x := ⟨A, c, l, rfl, hs.below hk0, hl⟩
  have HV := Lib.hid hV
  have HX := Lib.hid hX
  have HX1 := Lib.hid hX1
  have HZ : Hid ((-x : Int).natAbs < Num.Cap) := Lib.hid (by omega)
  have HB1 := Lib.hid b1
  have HB2 := Lib.hid b2
  have HK0 := Lib.hid hk0
  have l2 := b2.lt
  clear hs hl hV b1 b2 hk0 hX hX1
  go_enter Tryz.func7, Tryz.ntmps7
  go_wp2_with fail
  generalize ((w.alloc (.cells #[.int .i64 2, .bool (decide (x < 0)), .slice A l.length c, .int .u64 0, .string ⟨#[]⟩, .slice none 0 0] 28)).alloc (.cells #[.int .i64 0, .bool false, .slice none 0 0, .int .u64 0, .string ⟨#[]⟩, .slice none 0 0] 28)) = W at *
  refine (unary_Neg W).mono ?_
  rintro e w0 ⟨rfl, hk0'⟩
  have HW := Lib.hid (whole_any _ x HX.out w0 (HV.out.below hk0'))
  have HB1' := Lib.hid (HB1.out.below hk0')
  have HB2' := Lib.hid (HB2.out.below hk0')
  have HK0' := Lib.hid (HK0.out.trans hk0')
  have hz0 := hk0'.size
  clear hk0'
  go_wp2_with (refine wpList_load_row rfl 28 (.tmp 3) rfl w.heap.size rfl _ _ (0, 0) _ HB1'.out Tryz.underlying28 rfl (by exact info_Val) ?_)
  refine (HW.out).mono ?_
  rintro e w1 ⟨v1, rfl, hs1, hk1⟩
  have HS2 := Lib.hid hs1.toStI
  obtain ⟨x0, p0, rfl⟩ := hs1.two
  have HR := Lib.hid (Unary_minus x0 p0 x HX.out _ HS2.out)
  have HK1 := Lib.hid hk1
  clear hs1 hk1
  go_wp2_with fail
  refine (HR.out).mono ?_
  rintro e w2 ⟨x1, p1, rfl, hs2, hk2⟩
  have HN := Lib.hid (answered_int x1 p1 _ HZ.out w2 hs2)
  have HK2 := Lib.hid hk2
  clear hs2 hk2
  go_wp2_with fail
  refine (HN.out).mono ?_
  rintro e w3 ⟨v3, rfl, hs3, hk3⟩
  have hkk : Kept w0 w3 := (HK1.out.trans HK2.out).trans hk3
  have H := Lib.hid (HB2'.out.below hkk)
  have hz1 := HK1.out.size
  have hz2 := HK2.out.size
  have HV3 := Lib.hid (hs3.mono (B' := w.heap.size + 1 + 1) (by omega))
  obtain ⟨A4, c4, l4, rfl, _⟩ := hs3
  have HK3 : Hid (Kept w w3) := Lib.hid (HK0'.out.trans hkk)
  generalize decide ((-x : Int) < 0) = bb at *
  clear hkk hk3
  go_wp2_with (refine wpList_store_row rfl 28 (.tmp 4) (.tmp 23) rfl (w.heap.size + 1) _ rfl rfl 28 _ H.out info_Val rfl (by simp [Value.oneCell']) ?_)
  refine bodyPost_ret (results_cell_tmp rfl _ _ _ (w.heap.size + 1) 28 #[.int .i64 2, .bool bb, .slice A4 l4.length c4, .int .u64 0, .string ⟨#[]⟩, .slice none 0 0] _ _ rfl (setRow_heap _ _ _ _ _ _ H.out) Tryz.underlying28 (by exact info_Val)) rfl ?_
  exact ⟨_, rfl, (HV3.out.setRow (by omega) _).mono (by omega), below_setRow HK3.out (by omega) _⟩
set_option maxRecDepth 100000 in
theorem unary_Tilde (w : World) : Calls Tryz.prog 24 #[.int .i64 22] w fun e w' => e = .returned (.tuple #[.int .i8 21, .bool true]) ∧ Kept w w' := by
  go_enter Tryz.func24, Tryz.ntmps24
  go_wp2_with fail
  go_ret2
  exact ⟨rfl, by go_grown⟩
set_option maxRecDepth 100000 in
set_option maxHeartbeats 2000000 in
theorem IntUnary_Tilde (v : Value) (x : Int) (hX1 : x.natAbs + 1 < Num.Cap) (w : World) (hv : VI w v x) :
    Calls Tryz.prog 7 #[.int .i64 22, v] w (RetVB w (-x - 1)) := by
  obtain ⟨A, c, l, rfl, hs, hl⟩ := hv
  have hX : x.natAbs < Num.Cap := by omega
  have hk0 : Kept w ((w.alloc (.cells #[.int .i64 2, .bool (decide (x < 0)), .slice A l.length c, .int .u64 0, .string ⟨#[]⟩, .slice none 0 0] 28)).alloc (.cells #[.int .i64 0, .bool false, .slice none 0 0, .int .u64 0, .string ⟨#[]⟩, .slice none 0 0] 28)) := by go_grown
  have b1 : Blk ((w.alloc (.cells #[.int .i64 2, .bool (decide (x < 0)), .slice A l.length c, .int .u64 0, .string ⟨#[]⟩, .slice none 0 0] 28)).alloc (.cells #[.int .i64 0, .bool false, .slice none 0 0, .int .u64 0, .string ⟨#[]⟩, .slice none 0 0] 28)) w.heap.size 28 #[.int .i64 2, .bool (decide (x < 0)), .slice A l.length c, .int .u64 0, .string ⟨#[]⟩, .slice none 0 0] := (Blk.new w _ _).below ((Below.refl _ _).alloc (Nat.le_refl _) _)
  have b2 : Blk ((w.alloc (.cells #[.int .i64 2, .bool (decide (x < 0)), .slice A l.length c, .int .u64 0, .string ⟨#[]⟩, .slice none 0 0] 28)).alloc (.cells #[.int .i64 0, .bool false, .slice none 0 0, .int .u64 0, .string ⟨#[]⟩, .slice none 0 0] 28)) (w.heap.size + 1) 28 #[.int .i64 0, .bool false, .slice none 0 0, .int .u64 0, .string ⟨#[]⟩, .slice none 0 0] := by
    have := Blk.new (w.alloc (.cells #[.int .i64 2, .bool (decide (x < 0)), .slice A l.length c, .int .u64 0, .string ⟨#[]⟩, .slice none 0 0] 28)) 28 #[.int .i64 0, .bool false, .slice none 0 0, .int .u64 0, .string ⟨#[]⟩, .slice none 0 0]
    rwa [World.size_alloc] at this
  have hV : VI ((w.alloc (.cells #[.int .i64 2, .bool (decide (x < 0)), .slice A l.length c, .int .u64 0, .string ⟨#[]⟩, .slice none 0 0] 28)).alloc (.cells #[.int .i64 0, .bool false, .slice none 0 0, .int .u64 0, .string ⟨#[]⟩, .slice none 0 0] 28)) (.agg #[.int .i64 2, .bool (decide (x < 0)), .slice A l.length c, .int .u64 0, .string ⟨#[]⟩, .slice none 0 0]) x := ⟨A, c, l, rfl, hs.below hk0, hl⟩
  have HV := Lib.hid hV
  have HX := Lib.hid hX
  have HX1 := Lib.hid hX1
  have HZ : Hid ((-x - 1 : Int).natAbs < Num.Cap) := Lib.hid (by omega)
  have HB1 := Lib.hid b1
  have HB2 := Lib.hid b2
  have HK0 := Lib.hid hk0
  have l2 := b2.lt
  clear hs hl hV b1 b2 hk0 hX hX1
  go_enter Tryz.func7, Tryz.ntmps7
  go_wp2_with fail
  generalize ((w.alloc (.cells #[.int .i64 2, .bool (decide (x < 0)), .slice A l.length c, .int .u64 0, .string ⟨#[]⟩, .slice none 0 0] 28)).alloc (.cells #[.int .i64 0, .bool false, .slice none 0 0, .int .u64 0, .string ⟨#[]⟩, .slice none 0 0] 28)) = W at *
  refine (unary_Tilde W).mono ?_
  rintro e w0 ⟨rfl, hk0'⟩
  have HW := Lib.hid (whole_any _ x HX.out w0 (HV.out.below hk0'))
  have HB1' := Lib.hid (HB1.out.below hk0')
  have HB2' := Lib.hid (HB2.out.below hk0')
  have HK0' := Lib.hid (HK0.out.trans hk0')
  have hz0 := hk0'.size
  clear hk0'
  go_wp2_with (refine wpList_load_row rfl 28 (.tmp 3) rfl w.heap.size rfl _ _ (0, 0) _ HB1'.out Tryz.underlying28 rfl (by exact info_Val) ?_)
  refine (HW.out).mono ?_
  rintro e w1 ⟨v1, rfl, hs1, hk1⟩
  have HS2 := Lib.hid hs1.toStI
  obtain ⟨x0, p0, rfl⟩ := hs1.two
  have HR := Lib.hid (Unary_tilde x0 p0 x HX1.out _ HS2.out)
  have HK1 := Lib.hid hk1
  clear hs1 hk1
  go_wp2_with fail
  refine (HR.out).mono ?_
  rintro e w2 ⟨x1, p1, rfl, hs2, hk2⟩
  have HN := Lib.hid (answered_int x1 p1 _ HZ.out w2 hs2)
  have HK2 := Lib.hid hk2
  clear hs2 hk2
  go_wp2_with fail
  refine (HN.out).mono ?_
  rintro e w3 ⟨v3, rfl, hs3, hk3⟩
  have hkk : Kept w0 w3 := (HK1.out.trans HK2.out).trans hk3
  have H := Lib.hid (HB2'.out.below hkk)
  have hz1 := HK1.out.size
  have hz2 := HK2.out.size
  have HV3 := Lib.hid (hs3.mono (B' := w.heap.size + 1 + 1) (by omega))
  obtain ⟨A4, c4, l4, rfl, _⟩ := hs3
  have HK3 : Hid (Kept w w3) := Lib.hid (HK0'.out.trans hkk)
  generalize decide ((-x - 1 : Int) < 0) = bb at *
  clear hkk hk3
  go_wp2_with (refine wpList_store_row rfl 28 (.tmp 4) (.tmp 23) rfl (w.heap.size + 1) _ rfl rfl 28 _ H.out info_Val rfl (by simp [Value.oneCell']) ?_)
  refine bodyPost_ret (results_cell_tmp rfl _ _ _ (w.heap.size + 1) 28 #[.int .i64 2, .bool bb, .slice A4 l4.length c4, .int .u64 0, .string ⟨#[]⟩, .slice none 0 0] _ _ rfl (setRow_heap _ _ _ _ _ _ H.out) Tryz.underlying28 (by exact info_Val)) rfl ?_
  exact ⟨_, rfl, (HV3.out.setRow (by omega) _).mono (by omega), below_setRow HK3.out (by omega) _⟩
end Go.Proofs.YtamocmelhnmkeaaGreat
