/- The function abs, and the thin package over it. -/
import Derived.Test.YtikjdibngkcpkaaGreatIn
import Derived.Test.YtikjdibngkcpkaaGreatSz
import Derived.Laws.EntriesVeiled
namespace Go.Proofs.YtikjdibngkcpkaaGreat
open Go.ChangeShapes Go.WideShapes Go.ChangeAt Go.RowKit
set_option linter.unusedVariables false
set_option maxRecDepth 100000 in
theorem chk_any (s : ByteArray) (A : Option Addr) (n c : Nat) (lo hi : Int) (h1 : lo ≤ (n : Int)) (h2 : (n : Int) ≤ hi) (w : World) :
    Calls Tryz.prog 35 #[.string s, .slice A n c, .slice none 0 0, .int .i64 lo, .int .i64 hi] w fun e w' => e = .returned .nilIface ∧ w = w' := by
  have e1 : ¬ ((n : Int) < lo) := by omega
  have e2 : ¬ (hi < (n : Int)) := by omega
  go_enter Tryz.func35, Tryz.ntmps35
  go_wp2_with fail
  go_ret
  exact ⟨rfl, rfl⟩
set_option maxRecDepth 100000 in
theorem unpackArg_any (T : TypeId) (u x : Value) (b : Nat) (w : World) (hc : w.cell? ⟨b, 0, none⟩ = some x) (hf : w.frozen? ⟨b, 0, none⟩ = false) :
    Calls Tryz.prog 36 #[.iface T u, .iface 69 (.pointer (some ⟨b, 0, none⟩))] w fun e w' => e = .returned .nilIface ∧ w' = w.setCell ⟨b, 0, none⟩ (.iface T u) := by
  have ha : ∀ W : World, (Instr.typeAssert (.iface 69 (.pointer (some ⟨b, 0, none⟩))) 20 69 true).run Tryz.prog W = .ok (.tuple #[.pointer (some ⟨b, 0, none⟩), .bool true]) W := fun _ => by kernel_rfl
  go_enter Tryz.func36, Tryz.ntmps36
  go_wp2_with fail
  go_ret
  exact ⟨rfl, rfl⟩
set_option maxRecDepth 100000 in
theorem unpack1_any (s : ByteArray) (a1 a2 : Nat) (c1 c2 : Nat) (lo : Int) (hlo : lo ≤ 1) (T : TypeId) (u x : Value) (b : Nat) (w : World)
    (h1 : w.cell? ⟨a1, 0, none⟩ = some (.iface T u)) (h2 : w.cell? ⟨a2, 0, none⟩ = some (.iface 69 (.pointer (some ⟨b, 0, none⟩)))) (hc : w.cell? ⟨b, 0, none⟩ = some x) (hf : w.frozen? ⟨b, 0, none⟩ = false) :
    Calls Tryz.prog 20 #[.string s, .slice (some ⟨a1, 0, none⟩) 1 c1, .slice none 0 0, .int .i64 lo, .slice (some ⟨a2, 0, none⟩) 1 c2] w fun e w' => e = .returned .nilIface ∧ w' = w.setCell ⟨b, 0, none⟩ (.iface T u) := by
  have hck := chk_any s (some ⟨a1, 0, none⟩) 1 c1 lo 1 hlo (by decide)
  have HCK := Lib.hid hck
  clear hck hlo
  go_enter Tryz.func20, Tryz.ntmps20
  go_wp2_with fail
  refine (HCK.out _).mono ?_
  rintro e w1 ⟨rfl, rfl⟩
  go_wp2_with fail
  refine wp_loop_rounds 2 ?_
  rw [rounds_succ]
  go_wp2_with fail
  refine (unpackArg_any T u x b _ hc hf).mono ?_
  rintro e w1 ⟨rfl, rfl⟩
  go_wp2_with fail
  rw [rounds_succ]
  go_wp2_with fail
  go_ret
  exact ⟨rfl, rfl⟩
set_option maxRecDepth 100000 in
set_option maxHeartbeats 1000000 in
theorem iSub0_any (x : Int) (p : Option Addr) (z : Int) (hz : z.natAbs < Num.Cap) (hn : z < 0) (w : World) (hv : StI w (.agg #[.int .i64 x, .pointer p]) z) :
    Calls Tryz.prog 24 #[.agg #[.int .i64 0, .pointer none], .agg #[.int .i64 x, .pointer p]] w (RetStI w (-z)) := by
  have hv' := hv
  rcases hv with ⟨e, hs⟩ | ⟨g, e, hb, hs⟩
  · injection e with e; injection e with e; injection e with e1 e2; injection e2 with e2 _; injection e1 with _ e1; injection e2 with e2; subst e1 e2
    obtain ⟨r1, r2⟩ := of_decide_eq_true hs
    have b1 : Blk (((w.alloc (.cells #[.int .i64 0, .pointer none] 47)).alloc (.cells #[.int .i64 x, .pointer none] 47)).alloc (.cells #[.int .i64 0, .pointer none] 47)) (w.heap.size + 1) 47 #[.int .i64 x, .pointer none] := by
      have := (Blk.new (w.alloc (.cells #[.int .i64 0, .pointer none] 47)) 47 #[.int .i64 x, .pointer none]).below ((Below.refl _ _).alloc (Nat.le_refl _) (.cells #[.int .i64 0, .pointer none] 47))
      rwa [World.size_alloc] at this
    have b2 : Blk (((w.alloc (.cells #[.int .i64 0, .pointer none] 47)).alloc (.cells #[.int .i64 x, .pointer none] 47)).alloc (.cells #[.int .i64 0, .pointer none] 47)) (w.heap.size + 1 + 1) 47 #[.int .i64 0, .pointer none] := by
      have := Blk.new ((w.alloc (.cells #[.int .i64 0, .pointer none] 47)).alloc (.cells #[.int .i64 x, .pointer none] 47)) 47 #[.int .i64 0, .pointer none]
      rwa [World.size_alloc, World.size_alloc] at this
    have hk0 : Kept w (((w.alloc (.cells #[.int .i64 0, .pointer none] 47)).alloc (.cells #[.int .i64 x, .pointer none] 47)).alloc (.cells #[.int .i64 0, .pointer none] 47)) := by go_grown
    clear hs hv'
    go_enter Tryz.func24, Tryz.ntmps24
    go_wp2_with fail
    generalize (((w.alloc (.cells #[.int .i64 0, .pointer none] 47)).alloc (.cells #[.int .i64 x, .pointer none] 47)).alloc (.cells #[.int .i64 0, .pointer none] 47)) = W at *
    refine (get_any 0 none W).mono ?_
    rintro e w1 ⟨rfl, hk1⟩
    have c2 := (b1.below hk1).cell 0
    have c3 := (b1.below hk1).cell 1
    have B2 := Lib.hid (b2.below hk1)
    have hkk1 : Kept w w1 := Below.trans hk0 (hk1.mono hk0.size)
    simp only [List.getElem?_toArray, List.getElem?_cons_zero, List.getElem?_cons_succ] at c2 c3
    clear b1 b2 hk1 hk0
    go_wp2_with fail
    refine (get_any x none w1).mono ?_
    rintro e w2 ⟨rfl, hk2⟩
    have B3 := Lib.hid (B2.out.below hk2)
    have HK2 : Hid (Kept w w2) := Lib.hid (hkk1.trans hk2)
    have l3 : w.heap.size + 1 + 1 < w2.heap.size := B3.out.lt
    clear c2 c3 hk2 hkk1 B2
    go_wp2_with fail
    refine (MakeInt64_any (-x) (by omega) (by omega) w2).mono ?_
    rintro e w3 ⟨v3, rfl, hv3, hk3⟩
    have H := Lib.hid (B3.out.below hk3)
    have HV := Lib.hid (hv3.mono (B' := w.heap.size + 1 + 1 + 1) (by omega))
    obtain ⟨x3, p3, rfl⟩ := hv3.two
    have HK3 : Hid (Kept w w3) := Lib.hid (Below.trans HK2.out (hk3.mono HK2.out.size))
    clear hv3 hk3
    go_wp2_with (refine wpList_store_row rfl 47 (.tmp 4) (.tmp 35) rfl (w.heap.size + 1 + 1) _ rfl rfl 47 _ H.out info_stI rfl (by simp [Value.oneCell']) ?_)
    refine bodyPost_blk (cs := #[.int .i64 x3, .pointer p3]) rfl rfl (setRow_heap _ _ _ _ _ _ H.out) Tryz.underlying47 rfl (by exact info_stI) rfl ?_
    exact ⟨_, rfl, (HV.out.setRow (by omega)).mono (by omega), below_setRow HK3.out (by omega) _⟩
  · injection e with e; injection e with e; injection e with e1 e2; injection e2 with e2 _; injection e1 with _ e1; injection e2 with e2; subst e1 e2
    exact iSub_big1 0 0 ⟨g, 0, none⟩ 0 z (-z) (by rw [Int.natAbs_neg]; exact hz) w (.inl ⟨rfl, by decide⟩) hv' (fun g a b W h1 h2 h3 h4 h5 => SubZero_any g a b z hz hn W h1 h2 h3 h4 h5)
/-- what the function abs hands back -/
def RetAbs (w : World) (z : Int) (e : Ending) (w' : World) : Prop := ∃ x p, e = .returned (.tuple #[.iface 47 (.agg #[.int .i64 x, .pointer p]), .nilIface]) ∧ StI w' (.agg #[.int .i64 x, .pointer p]) z ∧ Kept w w'
set_option maxRecDepth 100000 in
set_option maxHeartbeats 1000000 in
theorem abs_any (a1 c1 : Nat) (x : Int) (p : Option Addr) (z : Int) (hz : z.natAbs < Num.Cap) (w : World) (hv : StI w (.agg #[.int .i64 x, .pointer p]) z) (h1 : w.cell? ⟨a1, 0, none⟩ = some (.iface 47 (.agg #[.int .i64 x, .pointer p]))) :
    Calls Tryz.prog 13 #[.pointer none, .pointer none, .slice (some ⟨a1, 0, none⟩) 1 c1, .slice none 0 0] w (RetAbs w z.natAbs) := by
  have hf1 : ∀ W : World, (Instr.typeAssert (.iface 47 (.agg #[.int .i64 x, .pointer p])) 38 71 true).run Tryz.prog W = .ok (.tuple #[.float .f64 0, .bool false]) W := fun _ => by kernel_rfl
  have hf2 : ∀ W : World, (Instr.typeAssert (.iface 47 (.agg #[.int .i64 x, .pointer p])) 38 47 true).run Tryz.prog W = .ok (.tuple #[.agg #[.int .i64 x, .pointer p], .bool true]) W := fun _ => by kernel_rfl
  have HV := Lib.hid hv
  have l1 := block_lt_of_cell h1
  clear hv
  go_enter Tryz.func13, Tryz.ntmps13
  go_wp2_with fail
  have q1 : ((w.alloc (.cells #[.nilIface] 38)).alloc (.cells #[.iface 69 (.pointer (some ⟨w.heap.size, 0, none⟩))] 20)).cell? ⟨a1, 0, none⟩ = some (.iface 47 (.agg #[.int .i64 x, .pointer p])) := by
    rw [World.cell?_alloc_lt _ _ _ (by simp; omega), World.cell?_alloc_lt _ _ _ l1]; exact h1
  have q2 : Blk ((w.alloc (.cells #[.nilIface] 38)).alloc (.cells #[.iface 69 (.pointer (some ⟨w.heap.size, 0, none⟩))] 20)) (w.heap.size + 1) 20 #[.iface 69 (.pointer (some ⟨w.heap.size, 0, none⟩))] := by
    have := Blk.new (w.alloc (.cells #[.nilIface] 38)) 20 #[.iface 69 (.pointer (some ⟨w.heap.size, 0, none⟩))]
    rwa [World.size_alloc] at this
  have q3 : Blk ((w.alloc (.cells #[.nilIface] 38)).alloc (.cells #[.iface 69 (.pointer (some ⟨w.heap.size, 0, none⟩))] 20)) w.heap.size 38 #[.nilIface] := (Blk.new w _ _).below ((Below.refl _ _).alloc (Nat.le_refl _) _)
  have hk0 : Kept w ((w.alloc (.cells #[.nilIface] 38)).alloc (.cells #[.iface 69 (.pointer (some ⟨w.heap.size, 0, none⟩))] 20)) := by go_grown
  have HU := Lib.hid (unpack1_any ⟨#[97, 98, 115]⟩ a1 (w.heap.size + 1) c1 1 1 (Int.le_refl _) 47 (.agg #[.int .i64 x, .pointer p]) .nilIface w.heap.size _ q1 (q2.cell 0) (q3.cell 0) (q3.frozen 0))
  have Q3 := Lib.hid q3
  clear q1 q2 q3
  generalize ((w.alloc (.cells #[.nilIface] 38)).alloc (.cells #[.iface 69 (.pointer (some ⟨w.heap.size, 0, none⟩))] 20)) = W at *
  refine (HU.out).mono ?_
  rintro e w1 ⟨rfl, rfl⟩
  have hk1 : Kept w (W.setCell ⟨w.heap.size, 0, none⟩ (.iface 47 (.agg #[.int .i64 x, .pointer p]))) := hk0.setCell (Nat.le_refl _) _
  have q4 : (W.setCell ⟨w.heap.size, 0, none⟩ (.iface 47 (.agg #[.int .i64 x, .pointer p]))).cell? ⟨w.heap.size, 0, none⟩ = some (.iface 47 (.agg #[.int .i64 x, .pointer p])) := by
    have := (Blk.set Q3.out 0 (.iface 47 (.agg #[.int .i64 x, .pointer p]))).cell 0
    simpa using this
  generalize W.setCell ⟨w.heap.size, 0, none⟩ (.iface 47 (.agg #[.int .i64 x, .pointer p])) = W1 at *
  clear HU Q3 hk0 h1
  have HV1 := Lib.hid (HV.out.below hk1)
  go_wp2_with fail
  have hk2 : Kept W1 (W1.alloc (.cells #[.int .i64 x, .pointer p] 47)) := by go_grown
  have hb2 := Blk.new W1 47 #[.int .i64 x, .pointer p]
  have HV2 := Lib.hid (HV1.out.below hk2)
  have HK2 : Hid (Kept w (W1.alloc (.cells #[.int .i64 x, .pointer p] 47))) := Lib.hid (hk1.trans hk2)
  generalize (W1.alloc (.cells #[.int .i64 x, .pointer p] 47)) = W2 at *
  refine (iSign_any _ z _ HV2.out).mono ?_
  rintro e w3 ⟨rfl, hk3⟩
  have hb3 := hb2.below hk3
  have HB3 := Lib.hid hb3
  have HV3 := Lib.hid (HV2.out.below hk3)
  have HK3 : Hid (Kept w w3) := Lib.hid (HK2.out.trans hk3)
  have c0 := hb3.cell 0
  have c1 := hb3.cell 1
  simp only [List.getElem?_toArray, List.getElem?_cons_zero, List.getElem?_cons_succ] at c0 c1
  clear hb2 hb3 hk2 hk3 q4 HV1
  by_cases hn : z < 0
  · have hs : z.sign = -1 := Int.sign_eq_neg_one_of_neg hn
    rw [hs]
    have HN := Lib.hid hn
    have hab : ((z.natAbs : Nat) : Int) = -z := by omega
    have HAB := Lib.hid hab
    clear hn hs hab
    go_wp2_with fail
    have l3 : W1.heap.size < w3.heap.size := HB3.out.lt
    go_region_held3 (fun X : World => X.cell? ⟨W1.heap.size, 0, none⟩ = some (.int .i64 x) ∧ X.cell? ⟨W1.heap.size, 1, none⟩ = some (.pointer p))
      (first
        | exact ⟨c0, c1⟩
        | exact ⟨e0, e1⟩
        | exact ⟨f0, f1⟩)
      (first
        | (go_at_call 23
           refine Calls.mono (zero_any _) ?_
           rintro e w4 ⟨rfl, hk4⟩
           have hk4' : Kept w3 w4 := Below.trans (by go_grown) hk4
           have e0 : w4.cell? ⟨W1.heap.size, 0, none⟩ = some (.int .i64 x) := (hk4'.cell (p := ⟨W1.heap.size, 0, none⟩) l3).trans c0
           have e1 : w4.cell? ⟨W1.heap.size, 1, none⟩ = some (.pointer p) := (hk4'.cell (p := ⟨W1.heap.size, 1, none⟩) l3).trans c1
           have HV4 := Lib.hid (HV3.out.below hk4'))
        | (go_at_call 24
           refine Calls.mono (iSub0_any x p z hz HN.out _ HV4.out) ?_
           rintro e w5 ⟨v5, rfl, hv5, hk5⟩
           have f0 : w5.cell? ⟨W1.heap.size, 0, none⟩ = some (.int .i64 x) := (hk5.cell (p := ⟨W1.heap.size, 0, none⟩) (Nat.lt_of_lt_of_le l3 hk4'.size)).trans e0
           have f1 : w5.cell? ⟨W1.heap.size, 1, none⟩ = some (.pointer p) := (hk5.cell (p := ⟨W1.heap.size, 1, none⟩) (Nat.lt_of_lt_of_le l3 hk4'.size)).trans e1
           have HV5 := Lib.hid hv5.toStI
           obtain ⟨x5, p5, rfl⟩ := hv5.two
           clear hv5))
    go_wp2_with fail
    go_ret2
    exact ⟨x5, p5, rfl, by rw [HAB.out]; exact HV5.out, (HK3.out.trans hk4').trans hk5⟩
  · have hs : 0 ≤ z.sign := by
      rcases Int.lt_trichotomy z 0 with h | h | h
      · exact absurd h hn
      · subst h; decide
      · rw [Int.sign_eq_one_of_pos h]; decide
    have hab : ((z.natAbs : Nat) : Int) = z := by omega
    have HAB := Lib.hid hab
    clear hab hn
    generalize z.sign = sg at *
    go_wp2_with fail
    go_ret2
    exact ⟨x, p, rfl, by rw [HAB.out]; exact HV3.out, HK3.out⟩
set_option maxRecDepth 100000 in
theorem ZzAbs_any (a1 c1 : Nat) (x : Int) (p : Option Addr) (z : Int) (hz : z.natAbs < Num.Cap) (w : World) (hv : StI w (.agg #[.int .i64 x, .pointer p]) z) (h1 : w.cell? ⟨a1, 0, none⟩ = some (.iface 47 (.agg #[.int .i64 x, .pointer p]))) :
    Calls Tryz.prog 9 #[.slice (some ⟨a1, 0, none⟩) 1 c1] w (RetAbs w z.natAbs) := by
  have HA := Lib.hid (abs_any a1 c1 x p z hz w hv h1)
  clear hv h1
  go_enter Tryz.func9, Tryz.ntmps9
  go_wp2_with fail
  refine (HA.out).mono ?_
  rintro e w1 ⟨x1, p1, rfl, hv1, hk1⟩
  have HV := Lib.hid hv1
  clear hv1
  go_wp2_with fail
  go_ret2
  exact ⟨x1, p1, rfl, HV.out, hk1⟩
/-- an answer and whether it is one -/
def RetVB (w : World) (z : Int) (e : Ending) (w' : World) : Prop := ∃ v, e = .returned (.tuple #[v, .bool true]) ∧ VIf w.heap.size w' v z ∧ Kept w w'
theorem results_cell_tmp {fn : Func} {p q : Tmp} {ty : TypeId} (h : fn.results = #[.cell p ty, .tmp q]) (P : Program) (tmps : Array Value) (w : World) (g : Nat) (t : TypeId) (cs : Array Value) (fr : Nat × Nat) (d : Array Field)
    (hp : tmps.getD p undef = .pointer (some ⟨g, 0, none⟩)) (hg : w.heap[g]? = some (.cells cs t fr))
    (hu : P.underlying ty = some (.struct d)) (hi : (P.info? ty).map (·.size) = some cs.size) :
    (results fn tmps).run P w = .ok (.tuple #[.agg cs, tmps.getD q undef]) w := by
  have e : tmps[p]?.getD undef = .pointer (some ⟨g, 0, none⟩) := by simpa using hp
  simp [results, h, e, asAddr, run_loadVar_row w g t ty cs fr _ hg hu rfl hi]
set_option maxRecDepth 100000 in
set_option maxHeartbeats 1000000 in
theorem AbsInt_any (v : Value) (z : Int) (hz : z.natAbs < Num.Cap) (w : World) (hv : VI w v z) :
    Calls Tryz.prog 5 #[v] w (RetVB w z.natAbs) := by
  have HV := Lib.hid hv
  obtain ⟨A, c, l, rfl, _, _⟩ := hv
  go_enter Tryz.func5, Tryz.ntmps5
  go_wp2_with fail
  have hk0 : Kept w ((w.alloc (.cells #[.int .i64 2, .bool (decide (z < 0)), .slice A l.length c, .int .u64 0, .string ⟨#[]⟩, .slice none 0 0] 28)).alloc (.cells #[.int .i64 0, .bool false, .slice none 0 0, .int .u64 0, .string ⟨#[]⟩, .slice none 0 0] 28)) := by go_grown
  have hb0 : Blk ((w.alloc (.cells #[.int .i64 2, .bool (decide (z < 0)), .slice A l.length c, .int .u64 0, .string ⟨#[]⟩, .slice none 0 0] 28)).alloc (.cells #[.int .i64 0, .bool false, .slice none 0 0, .int .u64 0, .string ⟨#[]⟩, .slice none 0 0] 28)) (w.heap.size + 1) 28 #[.int .i64 0, .bool false, .slice none 0 0, .int .u64 0, .string ⟨#[]⟩, .slice none 0 0] := by
    have := Blk.new (w.alloc (.cells #[.int .i64 2, .bool (decide (z < 0)), .slice A l.length c, .int .u64 0, .string ⟨#[]⟩, .slice none 0 0] 28)) 28 #[.int .i64 0, .bool false, .slice none 0 0, .int .u64 0, .string ⟨#[]⟩, .slice none 0 0]
    rwa [World.size_alloc] at this
  have HW := Lib.hid (whole_any _ z hz _ (HV.out.below hk0))
  generalize ((w.alloc (.cells #[.int .i64 2, .bool (decide (z < 0)), .slice A l.length c, .int .u64 0, .string ⟨#[]⟩, .slice none 0 0] 28)).alloc (.cells #[.int .i64 0, .bool false, .slice none 0 0, .int .u64 0, .string ⟨#[]⟩, .slice none 0 0] 28)) = W at *
  refine (HW.out).mono ?_
  rintro e w1 ⟨v1, rfl, hv1, hk1⟩
  have HB1 := Lib.hid (hb0.below hk1)
  have HV1 := Lib.hid hv1.toStI
  obtain ⟨x, p, rfl⟩ := hv1.two
  have HK1 : Hid (Kept w w1) := Lib.hid (Below.trans hk0 (hk1.mono hk0.size))
  clear hv1 hb0 HW hk0 hk1 HV
  go_wp2_with fail
  have hk2 : Kept w1 (w1.alloc (.cells #[.iface 47 (.agg #[.int .i64 x, .pointer p])] 38)) := by go_grown
  have q1 : (w1.alloc (.cells #[.iface 47 (.agg #[.int .i64 x, .pointer p])] 38)).cell? ⟨w1.heap.size, 0, none⟩ = some (.iface 47 (.agg #[.int .i64 x, .pointer p])) := (Blk.new w1 _ _).cell 0
  have HZ := Lib.hid (ZzAbs_any w1.heap.size 1 x p z hz _ (HV1.out.below hk2) q1)
  have HB2 := Lib.hid (HB1.out.below hk2)
  have HK2 : Hid (Kept w (w1.alloc (.cells #[.iface 47 (.agg #[.int .i64 x, .pointer p])] 38))) := Lib.hid (HK1.out.trans hk2)
  clear q1 hk2 HV1 HB1 HK1
  generalize (w1.alloc (.cells #[.iface 47 (.agg #[.int .i64 x, .pointer p])] 38)) = W2 at *
  refine (HZ.out).mono ?_
  rintro e w3 ⟨x3, p3, rfl, hv3, hk3⟩
  have HV3 := Lib.hid hv3
  have HB3 := Lib.hid (HB2.out.below hk3)
  have HK3 : Hid (Kept w w3) := Lib.hid (HK2.out.trans hk3)
  have hf2 : ∀ W : World, (Instr.typeAssert (.iface 47 (.agg #[.int .i64 x3, .pointer p3])) 38 47 true).run Tryz.prog W = .ok (.tuple #[.agg #[.int .i64 x3, .pointer p3], .bool true]) W := fun _ => by kernel_rfl
  clear hv3 hk3 HB2 HK2
  go_wp2_with fail
  have hk4 : Kept w3 (w3.alloc (.cells #[.int .i64 x3, .pointer p3] 47)) := by go_grown
  have HN := Lib.hid (number_any _ (z.natAbs : Int) (by simpa using hz) _ (HV3.out.below hk4))
  have HB4 := Lib.hid (HB3.out.below hk4)
  have HK4 : Hid (Kept w (w3.alloc (.cells #[.int .i64 x3, .pointer p3] 47))) := Lib.hid (HK3.out.trans hk4)
  clear hk4 HV3 HB3 HK3 hf2
  generalize (w3.alloc (.cells #[.int .i64 x3, .pointer p3] 47)) = W4 at *
  refine (HN.out).mono ?_
  rintro e w5 ⟨v5, rfl, hv5, hk5⟩
  have H := Lib.hid (HB4.out.below hk5)
  have l5 : w.heap.size + 1 < W4.heap.size := HB4.out.lt
  have HK5 : Hid (Kept w w5) := Lib.hid (HK4.out.trans hk5)
  have HV5 := Lib.hid hv5
  obtain ⟨A5, k5, l', rfl, _, _, _⟩ := hv5
  clear hk5 HB4 HK4 HN
  go_wp2_with (refine wpList_store_row rfl 28 (.tmp 2) (.tmp 29) rfl (w.heap.size + 1) _ rfl rfl 28 _ H.out info_Val rfl (by simp [Value.oneCell']) ?_)
  refine bodyPost_ret (results_cell_tmp rfl _ _ _ (w.heap.size + 1) 28 #[.int .i64 2, .bool (decide ((z.natAbs : Int) < 0)), .slice A5 l'.length k5, .int .u64 0, .string ⟨#[]⟩, .slice none 0 0] _ _ rfl (setRow_heap _ _ _ _ _ _ H.out) Tryz.underlying28 (by exact info_Val)) rfl ?_
  exact ⟨_, rfl, (HV5.out.setRow (by omega) _).mono (by omega), below_setRow HK5.out (by omega) _⟩
end Go.Proofs.YtikjdibngkcpkaaGreat
