/- What the reference asks of three parts. -/
import Derived.Test.YtdbdpllafknlcaaGreatEj
namespace Go.Proofs.YtdbdpllafknlcaaGreat
open Go.ChangeShapes Go.WideShapes Go.ChangeAt Go.RowKit
set_option linter.unusedVariables false
/-- what is known of a part that has been read -/
def St (p : Option (Option Int)) (d x : Int) (l : Bool) : Prop := ∃ o, p = some o ∧ x = o.getD d ∧ l = o.isNone ∧ -2147483648 ≤ x ∧ x ≤ 2147483647
def RetAsk (n : Int) (p1 p2 p3 : Option (Option Int)) (w : World) (e : Ending) (w' : World) : Prop :=
  ((∃ o1 o2 o3, p1 = some o1 ∧ p2 = some o2 ∧ p3 = some o3 ∧ stp o3 ≠ 0 ∧ -2147483648 ≤ stp o3 ∧ stp o3 ≤ 2147483647 ∧ e = .returned (.tuple #[.int .i64 (fR n (stp o3) o1), .int .i64 (tR n (stp o3) o2), .int .i64 (stp o3), .bool true])) ∨
    (refused p1 p2 p3 ∧ e = .returned (.tuple #[.int .i64 0, .int .i64 0, .int .i64 0, .bool false]))) ∧ Kept w w'
theorem results_tmp4 {fn : Func} {t u v x : Tmp} (h : fn.results = #[.tmp t, .tmp u, .tmp v, .tmp x]) (tmps : Array Value) (P : Program) (w : World) :
    (results fn tmps).run P w = .ok (.tuple #[tmps.getD t undef, tmps.getD u undef, tmps.getD v undef, tmps.getD x undef]) w := by
  simp [results, h]
theorem refused_1 (p2 p3 : Option (Option Int)) : refused none p2 p3 := by unfold refused; trivial
theorem refused_2 (p1 p3 : Option (Option Int)) : refused p1 none p3 := by cases p1 <;> (unfold refused; trivial)
theorem refused_3 (p1 p2 : Option (Option Int)) : refused p1 p2 none := by cases p1 <;> cases p2 <;> (unfold refused; trivial)
theorem IW.num {w : World} {k : Int} {b : Bool} {A : Option Addr} {n c : Nat} {z : Int} (h : IW w k b A n c (some (some z))) : k = 2 ∧ b = decide (z < 0) ∧ (∃ l : List Nat, n = l.length ∧ Sl w A c (by8 l) ∧ BE l z.natAbs) ∧ -2147483648 ≤ z ∧ z ≤ 2147483647 := by
  obtain ⟨h0, ⟨A', c', l, e, hs, hl⟩, h1, h2⟩ := h
  injection e with e; injection e with e; injection e with _ e; injection e with eb e; injection e with e _; injection e with e1 e2 e3; injection eb with eb
  subst e1 e2 e3
  exact ⟨h0, eb, ⟨l, rfl, hs, hl⟩, h1, h2⟩
theorem sgn_of (z : Int) : sgn (decide (z < 0)) z.natAbs = z := by
  unfold sgn
  by_cases h : z < 0
  · simp [h]; omega
  · simp [h]; omega
/-- the number of a part that is one -/
theorem Num_part (k : Int) (b : Bool) (A : Option Addr) (n c : Nat) (z : Int) (w : World) (h : IW w k b A n c (some (some z))) :
    Calls Tryz.prog 9 #[.agg #[.int .i64 k, .bool b, .slice A n c, .int .u64 0, .string ⟨#[]⟩, .slice none 0 0]] w (RetSI w z) := by
  obtain ⟨rfl, rfl, ⟨l, rfl, hs, hl⟩, h1, h2⟩ := h.num
  have hlen := hl.len (sm_cap h1 h2)
  have := Num_any 2 0 (decide (z < 0)) A none c 0 0 ⟨#[]⟩ l (by omega) hl.lt w hs
  rw [hl.2, sgn_of] at this
  exact this
theorem Num_nil (k : Int) (w : World) :
    Calls Tryz.prog 9 #[.agg #[.int .i64 k, .bool false, .slice none 0 0, .int .u64 0, .string ⟨#[]⟩, .slice none 0 0]] w (RetSI w 0) :=
  Num_any k 0 false none none 0 0 0 ⟨#[]⟩ [] (by simp) (by simp) w (Sl.nil w)
set_option maxRecDepth 100000 in
set_option maxHeartbeats 4000000 in
theorem Ask_any (n : Nat) (hn : n ≤ 2147483647) (k0 k1 k2 : Int) (b0 b1 b2 : Bool) (A0 A1 A2 : Option Addr) (n0 n1 n2 c0 c1 c2 : Nat) (p0 p1 p2 : Option (Option Int)) (w : World) (h0 : IW w k0 b0 A0 n0 c0 p0) (h1 : IW w k1 b1 A1 n1 c1 p1) (h2 : IW w k2 b2 A2 n2 c2 p2) :
    Calls Tryz.prog 6 #[.int .i64 n, .agg #[.int .i64 k0, .bool b0, .slice A0 n0 c0, .int .u64 0, .string ⟨#[]⟩, .slice none 0 0, .int .i64 k1, .bool b1, .slice A1 n1 c1, .int .u64 0, .string ⟨#[]⟩, .slice none 0 0, .int .i64 k2, .bool b2, .slice A2 n2 c2, .int .u64 0, .string ⟨#[]⟩, .slice none 0 0]] w (RetAsk n p0 p1 p2 w) := by
  have H0 := fun W (k : Kept w W) => Lib.hid (h0.below k)
  have H1 := fun W (k : Kept w W) => Lib.hid (h1.below k)
  have H2 := fun W (k : Kept w W) => Lib.hid (h2.below k)
  clear h0 h1 h2
  obtain ⟨cs, hcs⟩ : ∃ cs : Array Value, cs = #[.int .i64 k0, .bool b0, .slice A0 n0 c0, .int .u64 0, .string ⟨#[]⟩, .slice none 0 0, .int .i64 k1, .bool b1, .slice A1 n1 c1, .int .u64 0, .string ⟨#[]⟩, .slice none 0 0, .int .i64 k2, .bool b2, .slice A2 n2 c2, .int .u64 0, .string ⟨#[]⟩, .slice none 0 0] := ⟨_, rfl⟩
  rw [← hcs]
  have hz : (Tryz.prog.info? 27).map (·.size) = some cs.size := by rw [hcs]; kernel_rfl
  have HBL : Hid (Blk (((w.alloc (.cells cs 27)).alloc (.cells #[.int .i64 0, .int .i64 0, .int .i64 1] 44)).alloc (.cells #[.bool false, .bool false, .bool false] 45)) w.heap.size 27 cs) := Lib.hid ((Blk.new w _ _).below (((Below.refl _ _).alloc (Nat.le_refl _) _).alloc (by simp) _))
  have HR1 : Hid (Blk (((w.alloc (.cells cs 27)).alloc (.cells #[.int .i64 0, .int .i64 0, .int .i64 1] 44)).alloc (.cells #[.bool false, .bool false, .bool false] 45)) (w.heap.size + 1) 44 #[.int .i64 0, .int .i64 0, .int .i64 1]) := by
    have := Blk.new (w.alloc (.cells cs 27)) 44 #[.int .i64 0, .int .i64 0, .int .i64 1]
    rw [World.size_alloc] at this
    exact Lib.hid (this.below ((Below.refl _ _).alloc (Nat.le_refl _) _))
  have HR2 : Hid (Blk (((w.alloc (.cells cs 27)).alloc (.cells #[.int .i64 0, .int .i64 0, .int .i64 1] 44)).alloc (.cells #[.bool false, .bool false, .bool false] 45)) (w.heap.size + 2) 45 #[.bool false, .bool false, .bool false]) := by
    have := Blk.new ((w.alloc (.cells cs 27)).alloc (.cells #[.int .i64 0, .int .i64 0, .int .i64 1] 44)) 45 #[.bool false, .bool false, .bool false]
    rw [World.size_alloc, World.size_alloc] at this
    exact Lib.hid this
  have HK : Hid (Kept w (((w.alloc (.cells cs 27)).alloc (.cells #[.int .i64 0, .int .i64 0, .int .i64 1] 44)).alloc (.cells #[.bool false, .bool false, .bool false] 45))) := Lib.hid ((((Below.refl _ _).alloc (Nat.le_refl _) _).alloc (by simp) _).alloc (by simp; omega) _)
  have hix0 : ∀ X : World, (Instr.index 27 (.agg cs) (.int .i64 0)).run Tryz.prog X = .ok (.agg #[.int .i64 k0, .bool b0, .slice A0 n0 c0, .int .u64 0, .string ⟨#[]⟩, .slice none 0 0]) X := fun X => by rw [hcs]; kernel_rfl
  have hix1 : ∀ X : World, (Instr.index 27 (.agg cs) (.int .i64 1)).run Tryz.prog X = .ok (.agg #[.int .i64 k1, .bool b1, .slice A1 n1 c1, .int .u64 0, .string ⟨#[]⟩, .slice none 0 0]) X := fun X => by rw [hcs]; kernel_rfl
  have hix2 : ∀ X : World, (Instr.index 27 (.agg cs) (.int .i64 2)).run Tryz.prog X = .ok (.agg #[.int .i64 k2, .bool b2, .slice A2 n2 c2, .int .u64 0, .string ⟨#[]⟩, .slice none 0 0]) X := fun X => by rw [hcs]; kernel_rfl
  clear hcs
  go_enter Tryz.func6, Tryz.ntmps6
  go_wp2_with (refine wpList_load_blk rfl 27 (.tmp 3) rfl w.heap.size rfl 27 cs HBL.out _ Tryz.underlying27 rfl hz ?_)
  clear hz HBL
  generalize (((w.alloc (.cells cs 27)).alloc (.cells #[.int .i64 0, .int .i64 0, .int .i64 1] 44)).alloc (.cells #[.bool false, .bool false, .bool false] 45)) = W0 at *
  go_loopw [19] (fun iv wr => ∃ k : Nat, iv = .int .i64 k ∧ k ≤ 3 ∧ ∃ (x0 x1 x2 : Int) (l0 l1 l2 : Bool), Blk wr (w.heap.size + 1) 44 #[.int .i64 x0, .int .i64 x1, .int .i64 x2] ∧ Blk wr (w.heap.size + 2) 45 #[.bool l0, .bool l1, .bool l2] ∧
      (k ≤ 0 → x0 = 0 ∧ l0 = false) ∧ (k ≤ 1 → x1 = 0 ∧ l1 = false) ∧ (k ≤ 2 → x2 = 1 ∧ l2 = false) ∧ (1 ≤ k → St p0 0 x0 l0) ∧ (2 ≤ k → St p1 0 x1 l1) ∧ (3 ≤ k → St p2 1 x2 l2) ∧ Kept w wr) (fun iv _ => 3 - (intOf iv).toNat)
  case atStart => exact ⟨0, rfl, by omega, _, _, _, _, _, _, HR1.out, HR2.out, fun _ => ⟨rfl, rfl⟩, fun _ => ⟨rfl, rfl⟩, fun _ => ⟨rfl, rfl⟩, fun h => absurd h (by omega), fun h => absurd h (by omega), fun h => absurd h (by omega), HK.out⟩
  case round =>
    clear HR1 HR2 HK
    obtain ⟨k, rfl, hk, x0, x1, x2, l0, l1, l2, hb, hb2, d0, d1, d2, q0, q1, q2, hkw⟩ := hrel
    have hbk2 := hb2.lt
    obtain rfl | rfl | rfl | rfl : k = 0 ∨ k = 1 ∨ k = 2 ∨ k = 3 := by omega
    · obtain ⟨rfl, rfl⟩ := d0 (by omega)
      have hal : Kept wr (wr.alloc (.cells #[.int .i64 k0, .bool b0, .slice A0 n0 c0, .int .u64 0, .string ⟨#[]⟩, .slice none 0 0] 26)) := (Below.refl _ _).alloc (Nat.le_refl _) _
      have HA := Lib.hid (Kept.trans hkw hal)
      have HB := Lib.hid (hb.below hal)
      have HC := Lib.hid (hb2.below hal)
      have HE1 := Lib.hid (d1 (by omega))
      have HE2 := Lib.hid (d2 (by omega))
      clear d0 d1 d2 q0 q1 q2
      have hiw := (H0 _ HA.out).out
      rcases p0 with _ | _ | z
      · obtain ⟨rfl, rfl, rfl, rfl, rfl⟩ := hiw
        have HVB : Hid (Blk (wr.alloc (.cells #[.int .i64 4, .bool false, .slice none 0 0, .int .u64 0, .string ⟨#[]⟩, .slice none 0 0] 26)) wr.heap.size 26 #[.int .i64 4, .bool false, .slice none 0 0, .int .u64 0, .string ⟨#[]⟩, .slice none 0 0]) := Lib.hid (Blk.new wr _ _)
        clear hb hb2 hkw hal
        go_wp2_with fail
        refine (Num_nil 4 _).mono ?_
        rintro e w1 ⟨v, rfl, hv, hk1⟩
        have HI := Lib.hid (sInt64_some v _ w1 hv.toSI)
        obtain ⟨b9, A9, n9, c9, rfl⟩ := hv.two
        have HK1 := Lib.hid (Kept.trans HA.out hk1)
        have HVB1 := Lib.hid (HVB.out.below hk1)
        clear hk1 hv
        go_wp2_with fail
        refine HI.out.mono ?_
        rintro e w2 ⟨⟨y, f, rfl⟩, hk2⟩
        have HK2 := Lib.hid (Kept.trans HK1.out hk2)
        have hv0 : w2.cell? ⟨wr.heap.size, 0, none⟩ = some (.int .i64 4) := (HVB1.out.below hk2).cell 0
        clear hk2
        go_wp2_with fail
        refine bodyPost_ret (results_tmp4 rfl _ _ _) rfl ?_
        exact ⟨.inr ⟨refused_1 _ _, rfl⟩, HK2.out⟩
      · obtain rfl : k0 = 0 := hiw
        have hc := HC.out
        have f1 : (wr.alloc (.cells #[.int .i64 0, .bool b0, .slice A0 n0 c0, .int .u64 0, .string ⟨#[]⟩, .slice none 0 0] 26)).frozen? ⟨w.heap.size + 2, 0, none⟩ = false := hc.frozen 0
        have g1 : (wr.alloc (.cells #[.int .i64 0, .bool b0, .slice A0 n0 c0, .int .u64 0, .string ⟨#[]⟩, .slice none 0 0] 26)).cell? ⟨w.heap.size + 2, 0, none⟩ = some (.bool false) := hc.cell 0
        have hw3 : Kept (wr.setCell ⟨w.heap.size + 1 + 1, 0, none⟩ (.bool true)) ((wr.setCell ⟨w.heap.size + 1 + 1, 0, none⟩ (.bool true)).alloc (.cells #[.int .i64 0, .bool b0, .slice A0 n0 c0, .int .u64 0, .string ⟨#[]⟩, .slice none 0 0] 26)) := (Below.refl _ _).alloc (Nat.le_refl _) _
        have HC2 := Lib.hid ((hb2.set 0 (.bool true)).below hw3)
        have HB2 := Lib.hid ((hb.far (k := w.heap.size + 1 + 1) (i := 0) (by omega) (.bool true)).below hw3)
        have HK2 := Lib.hid (Kept.trans (hkw.setCell (p := ⟨w.heap.size + 1 + 1, 0, none⟩) (by simp only; omega) (.bool true)) hw3)
        clear hc hb hb2 hkw hal hw3
        go_wp2_with fail
        exact ⟨⟨1, by go_num, by omega, _, _, _, _, _, _, HB2.out, HC2.out, fun h => absurd h (by omega), fun _ => HE1.out, fun _ => HE2.out, fun _ => ⟨none, rfl, rfl, rfl, by decide, by decide⟩, fun h => absurd h (by omega), fun h => absurd h (by omega), HK2.out⟩, by simp [intOf]⟩
      · obtain ⟨rfl, rfl, _, z1, z2⟩ := hiw.num
        have HN := Lib.hid (Num_part _ _ _ _ _ z _ hiw)
        have HVB : Hid (Blk (wr.alloc (.cells #[.int .i64 2, .bool (decide (z < 0)), .slice A0 n0 c0, .int .u64 0, .string ⟨#[]⟩, .slice none 0 0] 26)) wr.heap.size 26 #[.int .i64 2, .bool (decide (z < 0)), .slice A0 n0 c0, .int .u64 0, .string ⟨#[]⟩, .slice none 0 0]) := Lib.hid (Blk.new wr _ _)
        clear hb hb2 hkw hal hiw
        go_wp2_with fail
        refine HN.out.mono ?_
        rintro e w1 ⟨v, rfl, hv, hk1⟩
        obtain ⟨b9, A9, n9, c9, rfl⟩ := hv.two
        have HI := Lib.hid (sInt64_fits b9 A9 n9 c9 z (by omega) (by omega) w1 hv.toSI)
        have HK1 := Lib.hid (Kept.trans HA.out hk1)
        have HVB1 := Lib.hid (HVB.out.below hk1)
        have HB1 := Lib.hid (HB.out.below hk1)
        have HC1 := Lib.hid (HC.out.below hk1)
        clear hk1 hv HN HVB HB HC HA
        go_wp2_with fail
        refine HI.out.mono ?_
        rintro e w2 ⟨rfl, hk2⟩
        have HK2 := Lib.hid (Kept.trans HK1.out hk2)
        have hv0 : w2.cell? ⟨wr.heap.size, 0, none⟩ = some (.int .i64 2) := (HVB1.out.below hk2).cell 0
        have hb2 := HB1.out.below hk2
        have HC2 := Lib.hid (HC1.out.below hk2)
        have f1 : w2.frozen? ⟨w.heap.size + 1, 0, none⟩ = false := hb2.frozen 0
        have g1 : w2.cell? ⟨w.heap.size + 1, 0, none⟩ = some (.int .i64 0) := hb2.cell 0
        have HB3 := Lib.hid (hb2.set 0 (.int .i64 z))
        have HC3 := Lib.hid (HC2.out.far (k := w.heap.size + 1) (i := 0) (by omega) (.int .i64 z))
        have HK3 := Lib.hid (HK2.out.setCell (p := ⟨w.heap.size + 1, 0, none⟩) (by simp only; omega) (.int .i64 z))
        clear hk2 hb2 HC2 HB1 HC1 HI HK1 HVB1
        go_wp2_with fail
        exact ⟨⟨1, by go_num, by omega, _, _, _, _, _, _, HB3.out, HC3.out, fun h => absurd h (by omega), fun _ => HE1.out, fun _ => HE2.out, fun _ => ⟨some z, rfl, rfl, rfl, z1, z2⟩, fun h => absurd h (by omega), fun h => absurd h (by omega), HK3.out⟩, by simp [intOf]⟩
    · obtain ⟨rfl, rfl⟩ := d1 (by omega)
      have hal : Kept wr (wr.alloc (.cells #[.int .i64 k1, .bool b1, .slice A1 n1 c1, .int .u64 0, .string ⟨#[]⟩, .slice none 0 0] 26)) := (Below.refl _ _).alloc (Nat.le_refl _) _
      have HA := Lib.hid (Kept.trans hkw hal)
      have HB := Lib.hid (hb.below hal)
      have HC := Lib.hid (hb2.below hal)
      have HP0 := Lib.hid (q0 (by omega))
      have HE2 := Lib.hid (d2 (by omega))
      clear d0 d1 d2 q0 q1 q2
      have hiw := (H1 _ HA.out).out
      rcases p1 with _ | _ | z
      · obtain ⟨rfl, rfl, rfl, rfl, rfl⟩ := hiw
        have HVB : Hid (Blk (wr.alloc (.cells #[.int .i64 4, .bool false, .slice none 0 0, .int .u64 0, .string ⟨#[]⟩, .slice none 0 0] 26)) wr.heap.size 26 #[.int .i64 4, .bool false, .slice none 0 0, .int .u64 0, .string ⟨#[]⟩, .slice none 0 0]) := Lib.hid (Blk.new wr _ _)
        clear hb hb2 hkw hal
        go_wp2_with fail
        refine (Num_nil 4 _).mono ?_
        rintro e w1 ⟨v, rfl, hv, hk1⟩
        have HI := Lib.hid (sInt64_some v _ w1 hv.toSI)
        obtain ⟨b9, A9, n9, c9, rfl⟩ := hv.two
        have HK1 := Lib.hid (Kept.trans HA.out hk1)
        have HVB1 := Lib.hid (HVB.out.below hk1)
        clear hk1 hv
        go_wp2_with fail
        refine HI.out.mono ?_
        rintro e w2 ⟨⟨y, f, rfl⟩, hk2⟩
        have HK2 := Lib.hid (Kept.trans HK1.out hk2)
        have hv0 : w2.cell? ⟨wr.heap.size, 0, none⟩ = some (.int .i64 4) := (HVB1.out.below hk2).cell 0
        clear hk2
        go_wp2_with fail
        refine bodyPost_ret (results_tmp4 rfl _ _ _) rfl ?_
        exact ⟨.inr ⟨refused_2 _ _, rfl⟩, HK2.out⟩
      · obtain rfl : k1 = 0 := hiw
        have hc := HC.out
        have f1 : (wr.alloc (.cells #[.int .i64 0, .bool b1, .slice A1 n1 c1, .int .u64 0, .string ⟨#[]⟩, .slice none 0 0] 26)).frozen? ⟨w.heap.size + 2, 1, none⟩ = false := hc.frozen 1
        have g1 : (wr.alloc (.cells #[.int .i64 0, .bool b1, .slice A1 n1 c1, .int .u64 0, .string ⟨#[]⟩, .slice none 0 0] 26)).cell? ⟨w.heap.size + 2, 1, none⟩ = some (.bool false) := hc.cell 1
        have hw3 : Kept (wr.setCell ⟨w.heap.size + 1 + 1, 1, none⟩ (.bool true)) ((wr.setCell ⟨w.heap.size + 1 + 1, 1, none⟩ (.bool true)).alloc (.cells #[.int .i64 0, .bool b1, .slice A1 n1 c1, .int .u64 0, .string ⟨#[]⟩, .slice none 0 0] 26)) := (Below.refl _ _).alloc (Nat.le_refl _) _
        have HC2 := Lib.hid ((hb2.set 1 (.bool true)).below hw3)
        have HB2 := Lib.hid ((hb.far (k := w.heap.size + 1 + 1) (i := 1) (by omega) (.bool true)).below hw3)
        have HK2 := Lib.hid (Kept.trans (hkw.setCell (p := ⟨w.heap.size + 1 + 1, 1, none⟩) (by simp only; omega) (.bool true)) hw3)
        clear hc hb hb2 hkw hal hw3
        go_wp2_with fail
        exact ⟨⟨2, by go_num, by omega, _, _, _, _, _, _, HB2.out, HC2.out, fun h => absurd h (by omega), fun h => absurd h (by omega), fun _ => HE2.out, fun _ => HP0.out, fun _ => ⟨none, rfl, rfl, rfl, by decide, by decide⟩, fun h => absurd h (by omega), HK2.out⟩, by simp [intOf]⟩
      · obtain ⟨rfl, rfl, _, z1, z2⟩ := hiw.num
        have HN := Lib.hid (Num_part _ _ _ _ _ z _ hiw)
        have HVB : Hid (Blk (wr.alloc (.cells #[.int .i64 2, .bool (decide (z < 0)), .slice A1 n1 c1, .int .u64 0, .string ⟨#[]⟩, .slice none 0 0] 26)) wr.heap.size 26 #[.int .i64 2, .bool (decide (z < 0)), .slice A1 n1 c1, .int .u64 0, .string ⟨#[]⟩, .slice none 0 0]) := Lib.hid (Blk.new wr _ _)
        clear hb hb2 hkw hal hiw
        go_wp2_with fail
        refine HN.out.mono ?_
        rintro e w1 ⟨v, rfl, hv, hk1⟩
        obtain ⟨b9, A9, n9, c9, rfl⟩ := hv.two
        have HI := Lib.hid (sInt64_fits b9 A9 n9 c9 z (by omega) (by omega) w1 hv.toSI)
        have HK1 := Lib.hid (Kept.trans HA.out hk1)
        have HVB1 := Lib.hid (HVB.out.below hk1)
        have HB1 := Lib.hid (HB.out.below hk1)
        have HC1 := Lib.hid (HC.out.below hk1)
        clear hk1 hv HN HVB HB HC HA
        go_wp2_with fail
        refine HI.out.mono ?_
        rintro e w2 ⟨rfl, hk2⟩
        have HK2 := Lib.hid (Kept.trans HK1.out hk2)
        have hv0 : w2.cell? ⟨wr.heap.size, 0, none⟩ = some (.int .i64 2) := (HVB1.out.below hk2).cell 0
        have hb2 := HB1.out.below hk2
        have HC2 := Lib.hid (HC1.out.below hk2)
        have f1 : w2.frozen? ⟨w.heap.size + 1, 1, none⟩ = false := hb2.frozen 1
        have g1 : w2.cell? ⟨w.heap.size + 1, 1, none⟩ = some (.int .i64 0) := hb2.cell 1
        have HB3 := Lib.hid (hb2.set 1 (.int .i64 z))
        have HC3 := Lib.hid (HC2.out.far (k := w.heap.size + 1) (i := 1) (by omega) (.int .i64 z))
        have HK3 := Lib.hid (HK2.out.setCell (p := ⟨w.heap.size + 1, 1, none⟩) (by simp only; omega) (.int .i64 z))
        clear hk2 hb2 HC2 HB1 HC1 HI HK1 HVB1
        go_wp2_with fail
        exact ⟨⟨2, by go_num, by omega, _, _, _, _, _, _, HB3.out, HC3.out, fun h => absurd h (by omega), fun h => absurd h (by omega), fun _ => HE2.out, fun _ => HP0.out, fun _ => ⟨some z, rfl, rfl, rfl, z1, z2⟩, fun h => absurd h (by omega), HK3.out⟩, by simp [intOf]⟩
    · obtain ⟨rfl, rfl⟩ := d2 (by omega)
      have hal : Kept wr (wr.alloc (.cells #[.int .i64 k2, .bool b2, .slice A2 n2 c2, .int .u64 0, .string ⟨#[]⟩, .slice none 0 0] 26)) := (Below.refl _ _).alloc (Nat.le_refl _) _
      have HA := Lib.hid (Kept.trans hkw hal)
      have HB := Lib.hid (hb.below hal)
      have HC := Lib.hid (hb2.below hal)
      have HP0 := Lib.hid (q0 (by omega))
      have HP1 := Lib.hid (q1 (by omega))
      clear d0 d1 d2 q0 q1 q2
      have hiw := (H2 _ HA.out).out
      rcases p2 with _ | _ | z
      · obtain ⟨rfl, rfl, rfl, rfl, rfl⟩ := hiw
        have HVB : Hid (Blk (wr.alloc (.cells #[.int .i64 4, .bool false, .slice none 0 0, .int .u64 0, .string ⟨#[]⟩, .slice none 0 0] 26)) wr.heap.size 26 #[.int .i64 4, .bool false, .slice none 0 0, .int .u64 0, .string ⟨#[]⟩, .slice none 0 0]) := Lib.hid (Blk.new wr _ _)
        clear hb hb2 hkw hal
        go_wp2_with fail
        refine (Num_nil 4 _).mono ?_
        rintro e w1 ⟨v, rfl, hv, hk1⟩
        have HI := Lib.hid (sInt64_some v _ w1 hv.toSI)
        obtain ⟨b9, A9, n9, c9, rfl⟩ := hv.two
        have HK1 := Lib.hid (Kept.trans HA.out hk1)
        have HVB1 := Lib.hid (HVB.out.below hk1)
        clear hk1 hv
        go_wp2_with fail
        refine HI.out.mono ?_
        rintro e w2 ⟨⟨y, f, rfl⟩, hk2⟩
        have HK2 := Lib.hid (Kept.trans HK1.out hk2)
        have hv0 : w2.cell? ⟨wr.heap.size, 0, none⟩ = some (.int .i64 4) := (HVB1.out.below hk2).cell 0
        clear hk2
        go_wp2_with fail
        refine bodyPost_ret (results_tmp4 rfl _ _ _) rfl ?_
        exact ⟨.inr ⟨refused_3 _ _, rfl⟩, HK2.out⟩
      · obtain rfl : k2 = 0 := hiw
        have hc := HC.out
        have f1 : (wr.alloc (.cells #[.int .i64 0, .bool b2, .slice A2 n2 c2, .int .u64 0, .string ⟨#[]⟩, .slice none 0 0] 26)).frozen? ⟨w.heap.size + 2, 2, none⟩ = false := hc.frozen 2
        have g1 : (wr.alloc (.cells #[.int .i64 0, .bool b2, .slice A2 n2 c2, .int .u64 0, .string ⟨#[]⟩, .slice none 0 0] 26)).cell? ⟨w.heap.size + 2, 2, none⟩ = some (.bool false) := hc.cell 2
        have hw3 : Kept (wr.setCell ⟨w.heap.size + 1 + 1, 2, none⟩ (.bool true)) ((wr.setCell ⟨w.heap.size + 1 + 1, 2, none⟩ (.bool true)).alloc (.cells #[.int .i64 0, .bool b2, .slice A2 n2 c2, .int .u64 0, .string ⟨#[]⟩, .slice none 0 0] 26)) := (Below.refl _ _).alloc (Nat.le_refl _) _
        have HC2 := Lib.hid ((hb2.set 2 (.bool true)).below hw3)
        have HB2 := Lib.hid ((hb.far (k := w.heap.size + 1 + 1) (i := 2) (by omega) (.bool true)).below hw3)
        have HK2 := Lib.hid (Kept.trans (hkw.setCell (p := ⟨w.heap.size + 1 + 1, 2, none⟩) (by simp only; omega) (.bool true)) hw3)
        clear hc hb hb2 hkw hal hw3
        go_wp2_with fail
        exact ⟨⟨3, by go_num, by omega, _, _, _, _, _, _, HB2.out, HC2.out, fun h => absurd h (by omega), fun h => absurd h (by omega), fun h => absurd h (by omega), fun _ => HP0.out, fun _ => HP1.out, fun _ => ⟨none, rfl, rfl, rfl, by decide, by decide⟩, HK2.out⟩, by simp [intOf]⟩
      · obtain ⟨rfl, rfl, _, z1, z2⟩ := hiw.num
        have HN := Lib.hid (Num_part _ _ _ _ _ z _ hiw)
        have HVB : Hid (Blk (wr.alloc (.cells #[.int .i64 2, .bool (decide (z < 0)), .slice A2 n2 c2, .int .u64 0, .string ⟨#[]⟩, .slice none 0 0] 26)) wr.heap.size 26 #[.int .i64 2, .bool (decide (z < 0)), .slice A2 n2 c2, .int .u64 0, .string ⟨#[]⟩, .slice none 0 0]) := Lib.hid (Blk.new wr _ _)
        clear hb hb2 hkw hal hiw
        go_wp2_with fail
        refine HN.out.mono ?_
        rintro e w1 ⟨v, rfl, hv, hk1⟩
        obtain ⟨b9, A9, n9, c9, rfl⟩ := hv.two
        have HI := Lib.hid (sInt64_fits b9 A9 n9 c9 z (by omega) (by omega) w1 hv.toSI)
        have HK1 := Lib.hid (Kept.trans HA.out hk1)
        have HVB1 := Lib.hid (HVB.out.below hk1)
        have HB1 := Lib.hid (HB.out.below hk1)
        have HC1 := Lib.hid (HC.out.below hk1)
        clear hk1 hv HN HVB HB HC HA
        go_wp2_with fail
        refine HI.out.mono ?_
        rintro e w2 ⟨rfl, hk2⟩
        have HK2 := Lib.hid (Kept.trans HK1.out hk2)
        have hv0 : w2.cell? ⟨wr.heap.size, 0, none⟩ = some (.int .i64 2) := (HVB1.out.below hk2).cell 0
        have hb2 := HB1.out.below hk2
        have HC2 := Lib.hid (HC1.out.below hk2)
        have f1 : w2.frozen? ⟨w.heap.size + 1, 2, none⟩ = false := hb2.frozen 2
        have g1 : w2.cell? ⟨w.heap.size + 1, 2, none⟩ = some (.int .i64 1) := hb2.cell 2
        have HB3 := Lib.hid (hb2.set 2 (.int .i64 z))
        have HC3 := Lib.hid (HC2.out.far (k := w.heap.size + 1) (i := 2) (by omega) (.int .i64 z))
        have HK3 := Lib.hid (HK2.out.setCell (p := ⟨w.heap.size + 1, 2, none⟩) (by simp only; omega) (.int .i64 z))
        clear hk2 hb2 HC2 HB1 HC1 HI HK1 HVB1
        go_wp2_with fail
        exact ⟨⟨3, by go_num, by omega, _, _, _, _, _, _, HB3.out, HC3.out, fun h => absurd h (by omega), fun h => absurd h (by omega), fun h => absurd h (by omega), fun _ => HP0.out, fun _ => HP1.out, fun _ => ⟨some z, rfl, rfl, rfl, z1, z2⟩, HK3.out⟩, by simp [intOf]⟩
    · have s0 := q0 (by omega)
      have s1 := q1 (by omega)
      have s2 := q2 (by omega)
      obtain ⟨o0, e0, hx0, hl0, r0, r0'⟩ := s0
      obtain ⟨o1, e1, hx1, hl1, r1, r1'⟩ := s1
      obtain ⟨o2, e2, hx2, hl2, r2, r2'⟩ := s2
      have hsx : x2 = stp o2 := by rw [hx2]; cases o2 <;> rfl
      have HE0 := fun oth s W => Lib.hid (end_any n hn l0 x0 oth s r0 r0' W)
      have HE1 := fun oth s W => Lib.hid (end_any n hn l1 x1 oth s r1 r1' W)
      have ho0 : (if l0 then none else some x0) = o0 := by rw [hl0, hx0]; cases o0 <;> rfl
      have ho1 : (if l1 then none else some x1) = o1 := by rw [hl1, hx1]; cases o1 <;> rfl
      rw [ho0] at HE0
      rw [ho1] at HE1
      have g2 : wr.cell? ⟨w.heap.size + 1, 2, none⟩ = some (.int .i64 x2) := hb.cell 2
      have G : wr.cell? ⟨w.heap.size + 2, 0, none⟩ = some (.bool l0) ∧ wr.cell? ⟨w.heap.size + 1, 0, none⟩ = some (.int .i64 x0) ∧ wr.cell? ⟨w.heap.size + 2, 1, none⟩ = some (.bool l1) ∧ wr.cell? ⟨w.heap.size + 1, 1, none⟩ = some (.int .i64 x1) := ⟨hb2.cell 0, hb.cell 0, hb2.cell 1, hb.cell 1⟩
      have HK9 := Lib.hid hkw
      have HX := Lib.hid hsx
      have HE := Lib.hid (And.intro e0 (And.intro e1 e2))
      clear H0 H1 H2 hix0 hix1 hix2 hb hb2 d0 d1 d2 q0 q1 q2 hkw ho0 ho1 hx0 hl0 hx1 hl1 hx2 hl2 e0 e1 e2 hsx
      rcases Int.lt_trichotomy x2 0 with hs | hs | hs
      · go_wp2_with fail
        obtain ⟨u, hu⟩ : ∃ u, u = endR n o0 ((n : Int) - 1) x2 := ⟨_, rfl⟩
        obtain ⟨v, hv⟩ : ∃ v, v = endR n o1 (-1) x2 := ⟨_, rfl⟩
        have HF0 : Hid (∀ W : World, Calls Tryz.prog 14 #[.int .i64 n, .bool l0, .int .i64 x0, .int .i64 ((n : Int) - 1), .int .i64 x2] W fun e w' => e = .returned (.int .i64 u) ∧ W = w') := Lib.hid (fun W => by rw [hu]; exact (HE0 ((n : Int) - 1) x2 W).out)
        have HF1 : Hid (∀ W : World, Calls Tryz.prog 14 #[.int .i64 n, .bool l1, .int .i64 x1, .int .i64 (-1), .int .i64 x2] W fun e w' => e = .returned (.int .i64 v) ∧ W = w') := Lib.hid (fun W => by rw [hv]; exact (HE1 (-1) x2 W).out)
        have HU := Lib.hid hu
        have HV := Lib.hid hv
        clear hu hv HE0 HE1
        go_region_held3 (fun X : World => X.cell? ⟨w.heap.size + 2, 0, none⟩ = some (.bool l0) ∧ X.cell? ⟨w.heap.size + 1, 0, none⟩ = some (.int .i64 x0) ∧ X.cell? ⟨w.heap.size + 2, 1, none⟩ = some (.bool l1) ∧ X.cell? ⟨w.heap.size + 1, 1, none⟩ = some (.int .i64 x1)) (exact G)
          (first
            | (go_at_call 14
               (with_reducible refine Calls.mono (HF0.out _) ?_)
               rintro e w9 ⟨rfl, rfl⟩)
            | (go_at_call 14
               (with_reducible refine Calls.mono (HF1.out _) ?_)
               rintro e w9 ⟨rfl, rfl⟩))
        go_wp2_with fail
        refine bodyPost_ret (results_tmp4 rfl _ _ _) rfl ?_
        obtain ⟨e0, e1, e2⟩ := HE.out
        have hxx := HX.out
        have hf : fR n (stp o2) o0 = u := by rw [HU.out, ← hxx]; unfold fR; rw [if_neg (by omega)]
        have ht : tR n (stp o2) o1 = v := by rw [HV.out, ← hxx]; unfold tR; rw [if_neg (by omega)]
        refine ⟨.inl ⟨o0, o1, o2, e0, e1, e2, by omega, by omega, by omega, ?_⟩, HK9.out.drew⟩
        rw [hf, ht, ← hxx]
        rfl
      · subst hs
        go_wp2_with fail
        refine bodyPost_ret (results_tmp4 rfl _ _ _) rfl ?_
        obtain ⟨e0, e1, e2⟩ := HE.out
        refine ⟨.inr ⟨?_, rfl⟩, HK9.out⟩
        rw [e0, e1, e2]
        exact HX.out.symm
      · go_wp2_with fail
        obtain ⟨u, hu⟩ : ∃ u, u = endR n o0 0 x2 := ⟨_, rfl⟩
        obtain ⟨v, hv⟩ : ∃ v, v = endR n o1 n x2 := ⟨_, rfl⟩
        have HF0 : Hid (∀ W : World, Calls Tryz.prog 14 #[.int .i64 n, .bool l0, .int .i64 x0, .int .i64 0, .int .i64 x2] W fun e w' => e = .returned (.int .i64 u) ∧ W = w') := Lib.hid (fun W => by rw [hu]; exact (HE0 0 x2 W).out)
        have HF1 : Hid (∀ W : World, Calls Tryz.prog 14 #[.int .i64 n, .bool l1, .int .i64 x1, .int .i64 n, .int .i64 x2] W fun e w' => e = .returned (.int .i64 v) ∧ W = w') := Lib.hid (fun W => by rw [hv]; exact (HE1 n x2 W).out)
        have HU := Lib.hid hu
        have HV := Lib.hid hv
        clear hu hv HE0 HE1
        go_region_held3 (fun X : World => X.cell? ⟨w.heap.size + 2, 0, none⟩ = some (.bool l0) ∧ X.cell? ⟨w.heap.size + 1, 0, none⟩ = some (.int .i64 x0) ∧ X.cell? ⟨w.heap.size + 2, 1, none⟩ = some (.bool l1) ∧ X.cell? ⟨w.heap.size + 1, 1, none⟩ = some (.int .i64 x1)) (exact G)
          (first
            | (go_at_call 14
               (with_reducible refine Calls.mono (HF0.out _) ?_)
               rintro e w9 ⟨rfl, rfl⟩)
            | (go_at_call 14
               (with_reducible refine Calls.mono (HF1.out _) ?_)
               rintro e w9 ⟨rfl, rfl⟩))
        go_wp2_with fail
        refine bodyPost_ret (results_tmp4 rfl _ _ _) rfl ?_
        obtain ⟨e0, e1, e2⟩ := HE.out
        have hxx := HX.out
        have hf : fR n (stp o2) o0 = u := by rw [HU.out, ← hxx]; unfold fR; rw [if_pos hs]
        have ht : tR n (stp o2) o1 = v := by rw [HV.out, ← hxx]; unfold tR; rw [if_pos hs]
        refine ⟨.inl ⟨o0, o1, o2, e0, e1, e2, by omega, by omega, by omega, ?_⟩, HK9.out.drew⟩
        rw [hf, ht, ← hxx]
        rfl
end Go.Proofs.YtdbdpllafknlcaaGreat
