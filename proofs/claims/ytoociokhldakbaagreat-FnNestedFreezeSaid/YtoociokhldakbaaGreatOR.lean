/- spec.Nested. -/
import Derived.Test.YtoociokhldakbaaGreatOQ
import Derived.OwnWalk
import Derived.Deep.DeepMust
import Derived.Deep.AppendLies
import Derived.Deep.RegionHeld3
import Derived.Orders
namespace Go.Proofs.YtoociokhldakbaaGreat
open Go.ChangeShapes Go.WideShapes Go.ChangeAt Go.RowKit
set_option linter.unusedVariables false
set_option maxRecDepth 100000 in
set_option maxHeartbeats 2000000 in
theorem CleanGraph_none (root : Int) (w : World) :
    Calls Tryz.prog 12 #[.agg #[.slice none 0 0, .int .i64 root]] w fun e w' => (∃ v, e = .returned v ∧ GraphQ w.heap.size w' v) ∧ Kept w w' := by
  have HEND : Hid (∀ (w' : World) (g : Nat) (W' : World), w' = (W'.alloc (.cells #[.int .i64 6, .bool false, .slice none 0 0, .int .u64 0, .string ⟨#[]⟩, .slice none 0 0] 45)) → g = W'.heap.size → w.heap.size ≤ g → GraphQ w.heap.size w' (.agg #[.slice (some ⟨g, 0, none⟩) 1 1, .int .i64 0])) := Lib.hid fun w' g W' e1 e2 e3 => by
    subst e1 e2
    refine ⟨_, 1, 0, rfl, by decide, by decide, #[.int .i64 6, .bool false, .slice none 0 0, .int .u64 0, .string ⟨#[]⟩, .slice none 0 0].toList, ⟨rfl, .inr ⟨W'.heap.size, 1, #[.int .i64 6, .bool false, .slice none 0 0, .int .u64 0, .string ⟨#[]⟩, .slice none 0 0], rfl, e3, heap_alloc_new W' _, by decide, by decide, rfl, rfl⟩⟩, fun i hi => ?_⟩
    obtain rfl : i = 0 := by omega
    exact ⟨_, six_lit _ _ _ _ _ _, 6, false, none, 0, [], 0, ⟨#[]⟩, none, 0, [], rfl, Sl.nil _, (fun b off e => by cases e), Sl.nil _, (fun b off e => by cases e), by decide, (fun d hd => by cases hd), fun _ => by decide, by decide, by decide, by decide, (fun d hd => by cases hd), (fun _ d hd => by cases hd), fun _ _ => rfl⟩
  go_enter Tryz.func12, Tryz.ntmps12
  have hb := (three_boxes w #[.slice none 0 0, .int .i64 root] #[.slice (some ⟨w.heap.size + 1 + 1 + 1, 0, none⟩) 1 1, .int .i64 0] #[.slice none 0 0, .int .i64 0] 24 24 24)
  have HB3 := Lib.hid hb.2.2.1
  have HK3 := Lib.hid hb.1
  clear hb
  go_wp2_with fail
  have hk4 := (Below.refl _ (((w.alloc (.cells #[.slice none 0 0, .int .i64 root] 24)).alloc (.cells #[.slice (some ⟨w.heap.size + 1 + 1 + 1, 0, none⟩) 1 1, .int .i64 0] 24)).alloc (.cells #[.slice none 0 0, .int .i64 0] 24))).alloc (Nat.le_refl _) (.cells #[.int .i64 6, .bool false, .slice none 0 0, .int .u64 0, .string ⟨#[]⟩, .slice none 0 0] 45)
  exact bodyPost_blk rfl rfl (Blk.below HB3.out hk4) Tryz.underlying24 rfl (by exact info_Gr) rfl ⟨⟨_, rfl, HEND.out _ _ _ rfl (by simp) (by omega)⟩, HK3.out.trans hk4⟩
set_option maxRecDepth 100000 in
set_option maxHeartbeats 2000000 in
theorem Nested_any (GA : Option Addr) (n0 gc : Nat) (root : Int) (hn0 : n0 ≤ 9223372036854775807) (w : World) (hg : ∀ i, i < n0 → ∃ g o v, GA = some ⟨g, o, none⟩ ∧ At6 w g o i v ∧ RN (fun _ => True) i (fun _ => True) w v) :
    Calls Tryz.prog 5 #[.agg #[.slice GA n0 gc, .int .i64 root]] w fun e w' => (∃ v, e = .returned v ∧ GraphQ w.heap.size w' v) ∧ Kept w w' := by
  obtain ⟨i0, hi0, hi1, hi2, hi3⟩ := info_growN
  have HI : Hid (Tryz.prog.info? 45 = some i0 ∧ i0.zero = some (.agg #[.int .i64 0, .bool false, .slice none 0 0, .int .u64 0, .string ⟨#[]⟩, .slice none 0 0]) ∧ i0.size = 6 ∧ i0.bytes = 88) := Lib.hid ⟨hi0, hi1, hi2, hi3⟩
  obtain ⟨hk0, hbx, hbz⟩ := two_boxes w #[.slice GA n0 gc, .int .i64 root] #[.slice none 0 0, .int .i64 0] 24 24
  have HBX := Lib.hid hbx
  have HBZ := Lib.hid hbz
  have HK0 := Lib.hid hk0
  have hz : ((w.alloc (.cells #[.slice GA n0 gc, .int .i64 root] 24)).alloc (.cells #[.slice none 0 0, .int .i64 0] 24)).heap.size = w.heap.size + 1 + 1 := by simp
  have HZ := Lib.hid hz
  have HX := Lib.hid hg
  have hnI : (n0 : Int) ≤ 9223372036854775807 := by omega
  have ST : Hid (CI ((w.alloc (.cells #[.slice GA n0 gc, .int .i64 root] 24)).alloc (.cells #[.slice none 0 0, .int .i64 0] 24)) (w.heap.size + 1 + 1) root (RN (fun x => knd x 1 ≤ 7)) (fun c => c < w.heap.size) (((w.alloc (.cells #[.slice GA n0 gc, .int .i64 root] 24)).alloc (.cells #[.slice none 0 0, .int .i64 0] 24)).alloc (.cells #[.slice none 0 0, .int .i64 root] 24)) 0 (.slice none 0 0)) := Lib.hid ⟨(Below.refl _ _).alloc (Nat.le_refl _) _, by
      have := Blk.new ((w.alloc (.cells #[.slice GA n0 gc, .int .i64 root] 24)).alloc (.cells #[.slice none 0 0, .int .i64 0] 24)) 24 #[.slice none 0 0, .int .i64 root]
      rwa [hz] at this, GrE.start _ _ _ _ _, Nat.le_of_eq hz, fun c hc => by omega⟩
  clear hi0 hi1 hi2 hi3 hk0 hbx hbz hz hg
  go_enter Tryz.func5, Tryz.ntmps5
  go_wp2_with fail
  generalize ((w.alloc (.cells #[.slice GA n0 gc, .int .i64 root] 24)).alloc (.cells #[.slice none 0 0, .int .i64 0] 24)) = W at *
  go_loopw [4] (fun iv wr => ∃ (i : Nat) (sv : Value), iv = .int .i64 (i : Int) ∧ i ≤ n0 ∧ i ≤ 12 ∧ (i = 0 → sv = .slice none 0 0) ∧ CI W (w.heap.size + 1 + 1) root (RN (fun x => knd x 1 ≤ 7)) (fun c => c < w.heap.size) wr i sv) (fun iv _ => 20 - (intOf iv).toNat)
  case atStart => exact ⟨0, _, rfl, by omega, by omega, fun _ => rfl, ST.out⟩
  case round =>
    obtain ⟨i, sv, rfl, hi, hi12, hnil, hG⟩ := hrel
    have HNIL := Lib.hid hnil
    clear hnil
    have HG := Lib.hid hG
    obtain ⟨SA, sc, rfl⟩ := hG.2.2.1.slice
    have s5 := HG.out.2.1.cell 0
    have t5 := (HBX.out.below HG.out.1).cell 0
    have i0' : (0 : Int) ≤ (i : Int) := by omega
    by_cases hlt : i < n0 ∧ i < 12
    · obtain ⟨g, oo, v', rfl, ha, ho⟩ := HX.out i hlt.1
      obtain ⟨x, ng, A, c, l, bits, t, KA, kc, zs, rfl, h1, h2, h3, h4, h5, h6, _⟩ := RN.moves _ i (fun _ => True) (fun c => c < w.heap.size) w wr _ ho (fun _ _ h => h) (fun c _ hl => (HK0.out.trans HG.out.1).block c hl)
      have HRN : Hid (Sl wr A c (by8 l) ∧ (∀ b off, A = some ⟨b, off, none⟩ → by8 l ≠ [] → b < w.heap.size) ∧ Sl wr KA kc (ints zs) ∧ (∀ b off, KA = some ⟨b, off, none⟩ → ints zs ≠ [] → b < w.heap.size) ∧ (∀ d, d ∈ l → d < 256) ∧ bits < 18446744073709551616) := Lib.hid ⟨h1, h2, h3, h4, h5, h6⟩
      obtain ⟨u0, u1, u2, u3, u4, u5, e, a0, a1, a2, a3, a4, a5⟩ := ha.below (HK0.out.trans HG.out.1)
      injection e with e; injection e with e
      injection e with e0 e; injection e with e1 e; injection e with e2 e; injection e with e3 e; injection e with e4 e; injection e with e5 _
      subst e0 e1 e2 e3 e4 e5
      have HXR := Lib.hid HG.out.2.2.1.choose_spec.1
      have i1 : (i : Int) < (n0 : Int) := by omega
      have i2 : (i : Int) < 12 := by omega
      have HLT := Lib.hid hlt
      clear ha ho hG hlt h1 h2 h3 h4 h5 h6 hi hi12
      go_wp2_with fail
      refine (turn10_any x _).mono ?_
      rintro e w1 ⟨rfl, rfl⟩
      have hkm := (knd_mod x).2
      have hkd : knd x 1 = (x.tmod 10 + 10).tmod 10 := by
        unfold knd
        dsimp only
        rw [if_neg (by omega)]
      have HKD := Lib.hid hkd
      have HKM := Lib.hid hkm
      clear hkd hkm a0 a1 a2 a3 a4 a5
      by_cases h8 : (x.tmod 10 + 10).tmod 10 = 8
      · have n8 : ((x.tmod 10 + 10).tmod 10 == 8) = true := by simpa using h8
        clear h8
        have hk5 : Kept wr ((wr.alloc (.cells #[.int .i64 6, .bool ng, .slice A l.length c, .int .u64 (bits : Int), .string t, .slice KA zs.length kc] 45)).alloc (.cells #[.int .i64 6, .bool ng, .slice A l.length c, .int .u64 (bits : Int), .string t, .slice KA zs.length kc] 45)) := ((Below.refl _ _).alloc (Nat.le_refl _) _).alloc (by simp) _
        have HG4 := Lib.hid (CI.below (RN.moves _) HG.out hk5)
        obtain ⟨xs, hx4, hv4⟩ := HG4.out.2.2.1
        have HX4 := Lib.hid hx4
        have HV4 := Lib.hid hv4
        have HNW : Hid (∃ v, Six [.int .i64 6, .bool ng, .slice A l.length c, .int .u64 (bits : Int), .string t, .slice KA zs.length kc] 0 v ∧ RN (fun x => knd x 1 ≤ 7) i (fun c => (fun c => c < w.heap.size) c ∧ (Value.slice SA i sc).ownBlock ≠ some c) ((wr.alloc (.cells #[.int .i64 6, .bool ng, .slice A l.length c, .int .u64 (bits : Int), .string t, .slice KA zs.length kc] 45)).alloc (.cells #[.int .i64 6, .bool ng, .slice A l.length c, .int .u64 (bits : Int), .string t, .slice KA zs.length kc] 45)) v) := Lib.hid ⟨_, six_lit _ _ _ _ _ _, by
          obtain ⟨h1, h2, h3, h4, h5, h6⟩ := HRN.out
          have hlt := HXR.out.lt
          exact RN.moves _ i (fun c => c < w.heap.size) _ wr ((wr.alloc (.cells #[.int .i64 6, .bool ng, .slice A l.length c, .int .u64 (bits : Int), .string t, .slice KA zs.length kc] 45)).alloc (.cells #[.int .i64 6, .bool ng, .slice A l.length c, .int .u64 (bits : Int), .string t, .slice KA zs.length kc] 45)) _ ⟨6, ng, A, c, l, bits, t, KA, kc, zs, rfl, h1, h2, h3, h4, h5, h6, by decide⟩ (fun c' hc hl => ⟨hc, fun e => by have := (hlt c' e).1; have hc' : c' < w.heap.size := hc; omega⟩) (fun c' _ hl => hk5.block c' hl)⟩
        have hzw : (wr.alloc (.cells #[.int .i64 6, .bool ng, .slice A l.length c, .int .u64 (bits : Int), .string t, .slice KA zs.length kc] 45)).heap.size = wr.heap.size + 1 := by simp
        have s6 : (wr.alloc (.cells #[.int .i64 6, .bool ng, .slice A l.length c, .int .u64 (bits : Int), .string t, .slice KA zs.length kc] 45)).cell? ⟨w.heap.size + 1 + 1, 0, none⟩ = some (.slice SA i sc) := (Blk.below HG.out.2.1 ((Below.refl _ wr).alloc (Nat.le_refl _) (.cells #[.int .i64 6, .bool ng, .slice A l.length c, .int .u64 (bits : Int), .string t, .slice KA zs.length kc] 45))).cell 0
        clear hk5 hx4 hv4
        go_wp2_with (at_builtin; go_must (refine wpList_append_lies _ rfl (.tmp 35) (.tmp 37) 22 rfl (w.heap.size + 1 + 1 + 1) 45 i0 (.agg #[.int .i64 0, .bool false, .slice none 0 0, .int .u64 0, .string ⟨#[]⟩, .slice none 0 0]) 6 88 Tryz.underlying22 HI.out.1 HI.out.2.1 HI.out.2.2.1 HI.out.2.2.2 rfl (by omega) _ i _ rfl HX4.out ⟨wr.heap.size + 1, 0, none⟩ 1 1 [.int .i64 6, .bool ng, .slice A l.length c, .int .u64 (bits : Int), .string t, .slice KA zs.length kc] rfl rfl (by rw [← hzw]; exact cells_new (wr.alloc (.cells #[.int .i64 6, .bool ng, .slice A l.length c, .int .u64 (bits : Int), .string t, .slice KA zs.length kc] 45)) _ _) (by intro u hu; simp at hu; rcases hu with rfl | rfl | rfl | rfl | rfl | rfl <;> rfl) (by omega) (by have := HLT.out; simp only [maxLen]; omega) (by have := HLT.out; omega) (by have := HG4.out.2.1.lt; omega) _ rfl ?_); intro g2 cap2 w8 ho2 hg2 hat hgl; have HST5 := Lib.hid (CI.step (RN.moves _) HG4.out HX4.out HV4.out ho2 hg2 hat HNW.out); have d5 := HST5.out.1; have dz := HST5.out.2.1; clear ho2 hg2 hat hgl s5 s6)
        exact ⟨⟨i + 1, _, by go_num, by have := HLT.out; omega, by have := HLT.out; omega, fun h => by omega, HST5.out.2.2.2⟩, by have := HLT.out; simp [intOf]; omega⟩
      · have n8 : ((x.tmod 10 + 10).tmod 10 == 8) = false := by simpa using h8
        by_cases h9 : (x.tmod 10 + 10).tmod 10 = 9
        · have n9 : ((x.tmod 10 + 10).tmod 10 == 9) = true := by simpa using h9
          clear h8 h9
          have hk5 : Kept wr ((wr.alloc (.cells #[.int .i64 7, .bool ng, .slice A l.length c, .int .u64 (bits : Int), .string t, .slice KA zs.length kc] 45)).alloc (.cells #[.int .i64 7, .bool ng, .slice A l.length c, .int .u64 (bits : Int), .string t, .slice KA zs.length kc] 45)) := ((Below.refl _ _).alloc (Nat.le_refl _) _).alloc (by simp) _
          have HG4 := Lib.hid (CI.below (RN.moves _) HG.out hk5)
          obtain ⟨xs, hx4, hv4⟩ := HG4.out.2.2.1
          have HX4 := Lib.hid hx4
          have HV4 := Lib.hid hv4
          have HNW : Hid (∃ v, Six [.int .i64 7, .bool ng, .slice A l.length c, .int .u64 (bits : Int), .string t, .slice KA zs.length kc] 0 v ∧ RN (fun x => knd x 1 ≤ 7) i (fun c => (fun c => c < w.heap.size) c ∧ (Value.slice SA i sc).ownBlock ≠ some c) ((wr.alloc (.cells #[.int .i64 7, .bool ng, .slice A l.length c, .int .u64 (bits : Int), .string t, .slice KA zs.length kc] 45)).alloc (.cells #[.int .i64 7, .bool ng, .slice A l.length c, .int .u64 (bits : Int), .string t, .slice KA zs.length kc] 45)) v) := Lib.hid ⟨_, six_lit _ _ _ _ _ _, by
            obtain ⟨h1, h2, h3, h4, h5, h6⟩ := HRN.out
            have hlt := HXR.out.lt
            exact RN.moves _ i (fun c => c < w.heap.size) _ wr ((wr.alloc (.cells #[.int .i64 7, .bool ng, .slice A l.length c, .int .u64 (bits : Int), .string t, .slice KA zs.length kc] 45)).alloc (.cells #[.int .i64 7, .bool ng, .slice A l.length c, .int .u64 (bits : Int), .string t, .slice KA zs.length kc] 45)) _ ⟨7, ng, A, c, l, bits, t, KA, kc, zs, rfl, h1, h2, h3, h4, h5, h6, by decide⟩ (fun c' hc hl => ⟨hc, fun e => by have := (hlt c' e).1; have hc' : c' < w.heap.size := hc; omega⟩) (fun c' _ hl => hk5.block c' hl)⟩
          have hzw : (wr.alloc (.cells #[.int .i64 7, .bool ng, .slice A l.length c, .int .u64 (bits : Int), .string t, .slice KA zs.length kc] 45)).heap.size = wr.heap.size + 1 := by simp
          have s6 : (wr.alloc (.cells #[.int .i64 7, .bool ng, .slice A l.length c, .int .u64 (bits : Int), .string t, .slice KA zs.length kc] 45)).cell? ⟨w.heap.size + 1 + 1, 0, none⟩ = some (.slice SA i sc) := (Blk.below HG.out.2.1 ((Below.refl _ wr).alloc (Nat.le_refl _) (.cells #[.int .i64 7, .bool ng, .slice A l.length c, .int .u64 (bits : Int), .string t, .slice KA zs.length kc] 45))).cell 0
          clear hk5 hx4 hv4
          go_wp2_with (at_builtin; go_must (refine wpList_append_lies _ rfl (.tmp 35) (.tmp 37) 22 rfl (w.heap.size + 1 + 1 + 1) 45 i0 (.agg #[.int .i64 0, .bool false, .slice none 0 0, .int .u64 0, .string ⟨#[]⟩, .slice none 0 0]) 6 88 Tryz.underlying22 HI.out.1 HI.out.2.1 HI.out.2.2.1 HI.out.2.2.2 rfl (by omega) _ i _ rfl HX4.out ⟨wr.heap.size + 1, 0, none⟩ 1 1 [.int .i64 7, .bool ng, .slice A l.length c, .int .u64 (bits : Int), .string t, .slice KA zs.length kc] rfl rfl (by rw [← hzw]; exact cells_new (wr.alloc (.cells #[.int .i64 7, .bool ng, .slice A l.length c, .int .u64 (bits : Int), .string t, .slice KA zs.length kc] 45)) _ _) (by intro u hu; simp at hu; rcases hu with rfl | rfl | rfl | rfl | rfl | rfl <;> rfl) (by omega) (by have := HLT.out; simp only [maxLen]; omega) (by have := HLT.out; omega) (by have := HG4.out.2.1.lt; omega) _ rfl ?_); intro g2 cap2 w8 ho2 hg2 hat hgl; have HST5 := Lib.hid (CI.step (RN.moves _) HG4.out HX4.out HV4.out ho2 hg2 hat HNW.out); have d5 := HST5.out.1; have dz := HST5.out.2.1; clear ho2 hg2 hat hgl s5 s6)
          exact ⟨⟨i + 1, _, by go_num, by have := HLT.out; omega, by have := HLT.out; omega, fun h => by omega, HST5.out.2.2.2⟩, by have := HLT.out; simp [intOf]; omega⟩
        · have n9 : ((x.tmod 10 + 10).tmod 10 == 9) = false := by simpa using h9
          have HK7 : Hid (knd x 1 ≤ 7) := Lib.hid (by have h1 := HKD.out; have h2 := HKM.out; omega)
          clear h8 h9
          have hk5 : Kept wr ((wr.alloc (.cells #[.int .i64 x, .bool ng, .slice A l.length c, .int .u64 (bits : Int), .string t, .slice KA zs.length kc] 45)).alloc (.cells #[.int .i64 x, .bool ng, .slice A l.length c, .int .u64 (bits : Int), .string t, .slice KA zs.length kc] 45)) := ((Below.refl _ _).alloc (Nat.le_refl _) _).alloc (by simp) _
          have HG4 := Lib.hid (CI.below (RN.moves _) HG.out hk5)
          obtain ⟨xs, hx4, hv4⟩ := HG4.out.2.2.1
          have HX4 := Lib.hid hx4
          have HV4 := Lib.hid hv4
          have HNW : Hid (∃ v, Six [.int .i64 x, .bool ng, .slice A l.length c, .int .u64 (bits : Int), .string t, .slice KA zs.length kc] 0 v ∧ RN (fun x => knd x 1 ≤ 7) i (fun c => (fun c => c < w.heap.size) c ∧ (Value.slice SA i sc).ownBlock ≠ some c) ((wr.alloc (.cells #[.int .i64 x, .bool ng, .slice A l.length c, .int .u64 (bits : Int), .string t, .slice KA zs.length kc] 45)).alloc (.cells #[.int .i64 x, .bool ng, .slice A l.length c, .int .u64 (bits : Int), .string t, .slice KA zs.length kc] 45)) v) := Lib.hid ⟨_, six_lit _ _ _ _ _ _, by
            obtain ⟨h1, h2, h3, h4, h5, h6⟩ := HRN.out
            have hlt := HXR.out.lt
            exact RN.moves _ i (fun c => c < w.heap.size) _ wr ((wr.alloc (.cells #[.int .i64 x, .bool ng, .slice A l.length c, .int .u64 (bits : Int), .string t, .slice KA zs.length kc] 45)).alloc (.cells #[.int .i64 x, .bool ng, .slice A l.length c, .int .u64 (bits : Int), .string t, .slice KA zs.length kc] 45)) _ ⟨x, ng, A, c, l, bits, t, KA, kc, zs, rfl, h1, h2, h3, h4, h5, h6, HK7.out⟩ (fun c' hc hl => ⟨hc, fun e => by have := (hlt c' e).1; have hc' : c' < w.heap.size := hc; omega⟩) (fun c' _ hl => hk5.block c' hl)⟩
          have hzw : (wr.alloc (.cells #[.int .i64 x, .bool ng, .slice A l.length c, .int .u64 (bits : Int), .string t, .slice KA zs.length kc] 45)).heap.size = wr.heap.size + 1 := by simp
          have s6 : (wr.alloc (.cells #[.int .i64 x, .bool ng, .slice A l.length c, .int .u64 (bits : Int), .string t, .slice KA zs.length kc] 45)).cell? ⟨w.heap.size + 1 + 1, 0, none⟩ = some (.slice SA i sc) := (Blk.below HG.out.2.1 ((Below.refl _ wr).alloc (Nat.le_refl _) (.cells #[.int .i64 x, .bool ng, .slice A l.length c, .int .u64 (bits : Int), .string t, .slice KA zs.length kc] 45))).cell 0
          clear hk5 hx4 hv4
          go_wp2_with (at_builtin; go_must (refine wpList_append_lies _ rfl (.tmp 35) (.tmp 37) 22 rfl (w.heap.size + 1 + 1 + 1) 45 i0 (.agg #[.int .i64 0, .bool false, .slice none 0 0, .int .u64 0, .string ⟨#[]⟩, .slice none 0 0]) 6 88 Tryz.underlying22 HI.out.1 HI.out.2.1 HI.out.2.2.1 HI.out.2.2.2 rfl (by omega) _ i _ rfl HX4.out ⟨wr.heap.size + 1, 0, none⟩ 1 1 [.int .i64 x, .bool ng, .slice A l.length c, .int .u64 (bits : Int), .string t, .slice KA zs.length kc] rfl rfl (by rw [← hzw]; exact cells_new (wr.alloc (.cells #[.int .i64 x, .bool ng, .slice A l.length c, .int .u64 (bits : Int), .string t, .slice KA zs.length kc] 45)) _ _) (by intro u hu; simp at hu; rcases hu with rfl | rfl | rfl | rfl | rfl | rfl <;> rfl) (by omega) (by have := HLT.out; simp only [maxLen]; omega) (by have := HLT.out; omega) (by have := HG4.out.2.1.lt; omega) _ rfl ?_); intro g2 cap2 w8 ho2 hg2 hat hgl; have HST5 := Lib.hid (CI.step (RN.moves _) HG4.out HX4.out HV4.out ho2 hg2 hat HNW.out); have d5 := HST5.out.1; have dz := HST5.out.2.1; clear ho2 hg2 hat hgl s5 s6)
          exact ⟨⟨i + 1, _, by go_num, by have := HLT.out; omega, by have := HLT.out; omega, fun h => by omega, HST5.out.2.2.2⟩, by have := HLT.out; simp [intOf]; omega⟩
    · have HEND : Hid (Calls Tryz.prog 12 #[.agg #[.slice SA i sc, .int .i64 root]] wr fun e w' => (∃ v, e = .returned v ∧ GraphQ wr.heap.size w' v) ∧ Kept wr w') := Lib.hid (by
        by_cases h0 : i = 0
        · subst h0
          rw [HNIL.out rfl]
          exact CleanGraph_none root wr
        · obtain ⟨g, c, e1, _, _, _, _, hv⟩ := HG.out.2.2.1.form (RN.moves _) (by omega)
          rw [e1]
          exact CleanGraph_some _ g i c root (by omega) hi12 wr hv)
      have HKW := Lib.hid (HK0.out.trans HG.out.1)
      have HBW := Lib.hid (HBZ.out.below HG.out.1)
      have c1 := HG.out.2.1.cell 1
      by_cases hin : i < n0
      · have i1 : (i : Int) < (n0 : Int) := by omega
        have i2 : ¬ (i : Int) < 12 := by omega
        clear hlt hi i0' hG hin hi12
        go_wp2_with fail
        refine HEND.out.mono ?_
        rintro e w9 ⟨⟨v9, rfl, hv9⟩, hk9⟩
        have HV9 := Lib.hid hv9
        have HK9 := Lib.hid (HKW.out.trans hk9)
        have HB9 := Lib.hid (HBW.out.below hk9)
        obtain ⟨A9, n9, nc, r9, rfl⟩ := hv9.two
        have hst := run_storeVar_row (P := Tryz.prog) w9 (w.heap.size + 1) 24 24 _ #[.slice A9 n9 nc, .int .i64 r9] HB9.out info_Gr rfl (by simp [Value.oneCell'])
        simp [go_sem] at hst
        clear hk9 hv9
        go_wp2_with fail
        refine bodyPost_blk rfl rfl (setRow_heap _ _ _ #[.slice A9 n9 nc, .int .i64 r9] _ _ HB9.out) Tryz.underlying24 rfl (by exact info_Gr) rfl ⟨⟨_, rfl, ?_⟩, below_setRow HK9.out (by omega) _⟩
        have hlw := HBW.out.lt
        exact HV9.out.setRow (by omega) HKW.out.size _
      · have i1 : ¬ (i : Int) < (n0 : Int) := by omega
        clear hlt hi i0' hG hin hi12
        go_wp2_with fail
        refine HEND.out.mono ?_
        rintro e w9 ⟨⟨v9, rfl, hv9⟩, hk9⟩
        have HV9 := Lib.hid hv9
        have HK9 := Lib.hid (HKW.out.trans hk9)
        have HB9 := Lib.hid (HBW.out.below hk9)
        obtain ⟨A9, n9, nc, r9, rfl⟩ := hv9.two
        have hst := run_storeVar_row (P := Tryz.prog) w9 (w.heap.size + 1) 24 24 _ #[.slice A9 n9 nc, .int .i64 r9] HB9.out info_Gr rfl (by simp [Value.oneCell'])
        simp [go_sem] at hst
        clear hk9 hv9
        go_wp2_with fail
        refine bodyPost_blk rfl rfl (setRow_heap _ _ _ #[.slice A9 n9 nc, .int .i64 r9] _ _ HB9.out) Tryz.underlying24 rfl (by exact info_Gr) rfl ⟨⟨_, rfl, ?_⟩, below_setRow HK9.out (by omega) _⟩
        have hlw := HBW.out.lt
        exact HV9.out.setRow (by omega) HKW.out.size _
end Go.Proofs.YtoociokhldakbaaGreat
