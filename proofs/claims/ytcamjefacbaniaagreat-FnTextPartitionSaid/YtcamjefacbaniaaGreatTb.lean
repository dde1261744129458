/- The reference's answer to isspace. -/
import Derived.Test.YtcamjefacbaniaaGreatTa
namespace Go.Proofs.YtcamjefacbaniaaGreat
open Go.ChangeShapes Go.WideShapes Go.ChangeAt Go.RowKit
set_option linter.unusedVariables false
theorem bvv_size (b : Bool) : (bvv b).size = 6 := rfl
set_option maxRecDepth 100000 in
theorem BoolVal_any (b : Bool) (w : World) :
    Calls Tryz.prog 34 #[.bool b] w fun e w' => e = .returned (.agg (bvv b)) ∧ Kept w w' := by
  have ho : Kept w (w.alloc (.cells (bvv b) 27)) := (Below.refl _ _).alloc (Nat.le_refl _) _
  have hb := Blk.new w 27 (bvv b)
  have HO := Lib.hid ho
  have HB := Lib.hid hb
  clear ho hb
  cases b
  all_goals
    go_enter Tryz.func34, Tryz.ntmps34
    go_wp2_with fail
    exact bodyPost_blk rfl rfl HB.out Tryz.underlying27 rfl (by exact info_V) rfl ⟨rfl, HO.out⟩
set_option maxRecDepth 100000 in
theorem blank_any (c : Nat) (hc : c < 256) (w : World) :
    Calls Tryz.prog 33 #[.int .u8 (c : Int)] w fun e w' => e = .returned (.bool (blk c)) ∧ w = w' := by
  have hx : (c : Int) < 256 := by omega
  by_cases h1 : c = 32
  · subst h1
    go_enter Tryz.func33, Tryz.ntmps33
    go_wp2
    go_ret
    exact ⟨rfl, rfl⟩
  · have h1' : ((c : Int) == 32) = false := by rw [beq_eq_false_iff_ne]; omega
    have h1n : (c == 32) = false := by rw [beq_eq_false_iff_ne]; exact h1
    by_cases h2 : 9 ≤ c
    · by_cases h3 : c ≤ 13
      · have e : blk c = true := by unfold blk; simp [h2, h3]
        have h2' : (9 : Int) ≤ (c : Int) := by omega
        have h3' : (c : Int) ≤ 13 := by omega
        rw [e]
        clear e h1 h1n h2 h3
        go_enter Tryz.func33, Tryz.ntmps33
        go_wp2
        go_ret
        exact ⟨rfl, rfl⟩
      · have e : blk c = false := by unfold blk; rw [h1n]; simp [h3]
        have h2' : (9 : Int) ≤ (c : Int) := by omega
        have h3' : ¬ (c : Int) ≤ 13 := by omega
        rw [e]
        clear e h1 h1n h2 h3
        go_enter Tryz.func33, Tryz.ntmps33
        go_wp2
        go_ret
        exact ⟨rfl, rfl⟩
    · have e : blk c = false := by unfold blk; rw [h1n]; simp [h2]
      have h2' : ¬ (9 : Int) ≤ (c : Int) := by omega
      rw [e]
      clear e h1 h1n h2
      go_enter Tryz.func33, Tryz.ntmps33
      go_wp2
      go_ret
      exact ⟨rfl, rfl⟩
def upc (c : Nat) : Bool := decide (65 ≤ c) && decide (c ≤ 90)
def loc (c : Nat) : Bool := decide (97 ≤ c) && decide (c ≤ 122)
set_option maxRecDepth 100000 in
theorem upper_any (c : Nat) (hc : c < 256) (w : World) :
    Calls Tryz.prog 30 #[.int .u8 (c : Int)] w fun e w' => e = .returned (.bool (upc c)) ∧ w = w' := by
  have hx : (c : Int) < 256 := by omega
  by_cases h : 65 ≤ c
  · have h2 : (65 : Int) ≤ (c : Int) := by omega
    by_cases h3 : c ≤ 90
    · have h4 : (c : Int) ≤ 90 := by omega
      have e : upc c = true := by simp [upc, h, h3]
      rw [e]
      clear e h h3
      go_enter Tryz.func30, Tryz.ntmps30
      go_wp2
      go_ret
      exact ⟨rfl, rfl⟩
    · have h4 : ¬ (c : Int) ≤ 90 := by omega
      have e : upc c = false := by simp [upc, h3]
      rw [e]
      clear e h h3
      go_enter Tryz.func30, Tryz.ntmps30
      go_wp2
      go_ret
      exact ⟨rfl, rfl⟩
  · have h2 : ¬ (65 : Int) ≤ (c : Int) := by omega
    have e : upc c = false := by simp [upc, h]
    rw [e]
    clear e h
    go_enter Tryz.func30, Tryz.ntmps30
    go_wp2
    go_ret
    exact ⟨rfl, rfl⟩
set_option maxRecDepth 100000 in
theorem lower_any (c : Nat) (hc : c < 256) (w : World) :
    Calls Tryz.prog 31 #[.int .u8 (c : Int)] w fun e w' => e = .returned (.bool (loc c)) ∧ w = w' := by
  have hx : (c : Int) < 256 := by omega
  by_cases h : 97 ≤ c
  · have h2 : (97 : Int) ≤ (c : Int) := by omega
    by_cases h3 : c ≤ 122
    · have h4 : (c : Int) ≤ 122 := by omega
      have e : loc c = true := by simp [loc, h, h3]
      rw [e]
      clear e h h3
      go_enter Tryz.func31, Tryz.ntmps31
      go_wp2
      go_ret
      exact ⟨rfl, rfl⟩
    · have h4 : ¬ (c : Int) ≤ 122 := by omega
      have e : loc c = false := by simp [loc, h3]
      rw [e]
      clear e h h3
      go_enter Tryz.func31, Tryz.ntmps31
      go_wp2
      go_ret
      exact ⟨rfl, rfl⟩
  · have h2 : ¬ (97 : Int) ≤ (c : Int) := by omega
    have e : loc c = false := by simp [loc, h]
    rw [e]
    clear e h
    go_enter Tryz.func31, Tryz.ntmps31
    go_wp2
    go_ret
    exact ⟨rfl, rfl⟩
/-- isspace, the method's name -/
abbrev nmSpace : ByteArray := ⟨#[105, 115, 115, 112, 97, 99, 101]⟩
set_option maxRecDepth 100000 in
set_option maxHeartbeats 8000000 in
theorem cases_any (T : ByteArray) (hT : T.size ≤ 60) (w : World) :
    Calls Tryz.prog 16 #[.string T, .string nmSpace] w fun e w' => e = .returned (.agg (bvv (spc T))) ∧ Kept w w' := by
  obtain ⟨W1, cap, hc, hb, hcap, hk⟩ := conv_any (P := Tryz.prog) (w.alloc (.cells #[.int .i64 0, .bool false, .slice none 0 0, .int .u64 0, .string ⟨#[]⟩, .slice none 0 0] 27)) 9 23 T Tryz.underlying9 Tryz.underlying23 Tryz.underlying5
  have hsz := World.size_alloc w (.cells #[.int .i64 0, .bool false, .slice none 0 0, .int .u64 0, .string ⟨#[]⟩, .slice none 0 0] 27)
  rw [hsz] at hc hb
  have hk0 : Kept w (w.alloc (.cells #[.int .i64 0, .bool false, .slice none 0 0, .int .u64 0, .string ⟨#[]⟩, .slice none 0 0] 27)) := (Below.refl _ _).alloc (Nat.le_refl _) _
  have hV0 := Blk.new w 27 #[.int .i64 0, .bool false, .slice none 0 0, .int .u64 0, .string ⟨#[]⟩, .slice none 0 0]
  have HB0 := Lib.hid hb
  have HV0 := Lib.hid hV0
  have HK0 := Lib.hid hk0
  have HK1 := Lib.hid hk
  clear hb hV0 hk0 hk
  rcases Nat.eq_zero_or_pos T.size with hz | hz
  · have hz0 : ¬ (0 : Int) < (T.size : Int) := by omega
    have hsp : spc T = false := by unfold spc; rw [decide_eq_false (by omega)]; rfl
    rw [hsp]
    have hz1 : decide (0 < T.size) = false := decide_eq_false (by omega)
    have HZ := Lib.hid hz
    clear hz hsp
    go_enter Tryz.func16, Tryz.ntmps16
    go_wp2_with fail
    generalize w.alloc (.cells #[.int .i64 0, .bool false, .slice none 0 0, .int .u64 0, .string ⟨#[]⟩, .slice none 0 0] 27) = W0 at *
    go_loopw [6, 8] (fun av iv wr => iv = .int .i64 0 ∧ av = .bool false ∧ Kept W0 wr) (fun _ iv _ => T.size - (intOf iv).toNat)
    case atStart => exact ⟨rfl, rfl, HK1.out⟩
    case round =>
      obtain ⟨rfl, rfl, hbr⟩ := hrel
      have HV1 := Lib.hid (HV0.out.below hbr)
      have HBR := Lib.hid hbr
      clear hbr
      go_wp2_with fail
      refine (BoolVal_any false wr).mono ?_
      rintro e w2 ⟨rfl, hk2⟩
      have H := Lib.hid (HV1.out.below hk2)
      have HK := Lib.hid ((HK0.out.trans HBR.out).trans hk2)
      have hst := run_storeVar_row (P := Tryz.prog) w2 w.heap.size 27 27 _ (bvv false) H.out info_V rfl (by simp [Value.oneCell', bvv])
      simp [go_sem, bvv_size] at hst
      go_wp2_with fail
      refine bodyPost_blk (cs := bvv false) rfl rfl (setRow_heap _ _ _ _ _ _ H.out) Tryz.underlying27 rfl (by exact info_V) rfl ?_
      exact ⟨rfl, below_setRow HK.out (Nat.le_refl _) _⟩
  have hz0 : (0 : Int) < (T.size : Int) := by omega
  go_enter Tryz.func16, Tryz.ntmps16
  go_wp2_with fail
  generalize w.alloc (.cells #[.int .i64 0, .bool false, .slice none 0 0, .int .u64 0, .string ⟨#[]⟩, .slice none 0 0] 27) = W0 at *
  clear hc
  go_loopw [6, 8] (fun av iv wr => ∃ (k : Nat) (f : Nat → Nat), iv = .int .i64 k ∧ k ≤ T.size ∧ av = .bool (blks T k) ∧ BR wr (w.heap.size + 1) T.size f ∧ Kept W0 wr) (fun _ iv _ => T.size - (intOf iv).toNat)
  case atStart => exact ⟨0, _, rfl, Nat.zero_le _, rfl, HB0.out, HK1.out⟩
  case round =>
    obtain ⟨k, f, rfl, hk, rfl, hb, hbr⟩ := hrel
    by_cases hlt : k < T.size
    · have hcb := bt_lt T k
      have hbg := bt_get T k hlt
      have k1 : (k : Int) < (T.size : Int) := by omega
      have hfr := hb.free hlt
      have hcl := hb.cell hlt
      have HST := Lib.hid (blks_succ T k)
      have HS1 : Hid (∀ v : Nat, BR (wr.setCell ⟨w.heap.size + 1, k, none⟩ (.int .u8 ((v : Nat) : Int))) (w.heap.size + 1) T.size (fun j => if j = k then v else f j)) := Lib.hid fun v => hb.set k v
      have HS2 : Hid (∀ v : Nat, Kept W0 (wr.setCell ⟨w.heap.size + 1, k, none⟩ (.int .u8 ((v : Nat) : Int)))) := Lib.hid fun v => hbr.setCell (by simp only; omega) _
      have HBR := Lib.hid hbr
      have HB := Lib.hid hb
      clear hbr hb
      generalize blks T k = a at *
      generalize f k = old at *
      generalize bt T k = c at *
      have HU := Lib.hid (upper_any c hcb)
      have HL := Lib.hid (lower_any c hcb)
      have HBL := Lib.hid (blank_any c hcb)
      have hlo : loc c = true → 97 ≤ c := fun h => by unfold loc at h; simp at h; omega
      have hup : upc c = true → c ≤ 90 := fun h => by unfold upc at h; simp at h; omega
      generalize blk c = bb at *
      generalize upc c = u at *
      generalize loc c = l at *
      by_cases h0 : k = 0
      · have h0' : ((k : Int) == 0) = true := by rw [beq_iff_eq]; omega
        clear h0
        cases l
        · clear hlo hup
          cases u <;> cases a
          all_goals
            go_wp2_with (first | (go_at_call 30; refine (HU.out _).mono ?_; rintro e w1 ⟨rfl, rfl⟩) | (go_at_call 31; refine (HL.out _).mono ?_; rintro e w1 ⟨rfl, rfl⟩) | (go_at_call 33; refine (HBL.out _).mono ?_; rintro e w1 ⟨rfl, rfl⟩))
            exact ⟨⟨k + 1, _, by go_num, by omega, by rw [HST.out]; rfl, HB.out, HBR.out⟩, by simp [intOf]; omega⟩
        · have h97 := hlo rfl
          clear hlo hup
          have hw : IntKind.u8.wrap ((c : Int) - 32) = ((c - 32 : Nat) : Int) := by rw [IntKind.wrap_u8]; omega
          clear h97
          cases u <;> cases a
          all_goals
            go_wp2_with (first | (go_at_call 30; refine (HU.out _).mono ?_; rintro e w1 ⟨rfl, rfl⟩) | (go_at_call 31; refine (HL.out _).mono ?_; rintro e w1 ⟨rfl, rfl⟩) | (go_at_call 33; refine (HBL.out _).mono ?_; rintro e w1 ⟨rfl, rfl⟩))
            exact ⟨⟨k + 1, _, by go_num, by omega, by rw [HST.out]; rfl, HS1.out _, HS2.out _⟩, by simp [intOf]; omega⟩
      · have h0' : ((k : Int) == 0) = false := by rw [beq_eq_false_iff_ne]; omega
        clear h0
        cases u
        · clear hlo hup
          cases l <;> cases a
          all_goals
            go_wp2_with (first | (go_at_call 30; refine (HU.out _).mono ?_; rintro e w1 ⟨rfl, rfl⟩) | (go_at_call 31; refine (HL.out _).mono ?_; rintro e w1 ⟨rfl, rfl⟩) | (go_at_call 33; refine (HBL.out _).mono ?_; rintro e w1 ⟨rfl, rfl⟩))
            exact ⟨⟨k + 1, _, by go_num, by omega, by rw [HST.out]; rfl, HB.out, HBR.out⟩, by simp [intOf]; omega⟩
        · have h97 := hup rfl
          obtain ⟨q, hq⟩ : ∃ q, q = c + 32 := ⟨_, rfl⟩
          clear hlo hup
          have hw : IntKind.u8.wrap ((c : Int) + 32) = (q : Int) := by rw [IntKind.wrap_u8, hq]; omega
          clear h97 hq
          cases l <;> cases a
          all_goals
            go_wp2_with (first | (go_at_call 30; refine (HU.out _).mono ?_; rintro e w1 ⟨rfl, rfl⟩) | (go_at_call 31; refine (HL.out _).mono ?_; rintro e w1 ⟨rfl, rfl⟩) | (go_at_call 33; refine (HBL.out _).mono ?_; rintro e w1 ⟨rfl, rfl⟩))
            exact ⟨⟨k + 1, _, by go_num, by omega, by rw [HST.out]; rfl, HS1.out _, HS2.out _⟩, by simp [intOf]; omega⟩
    · obtain rfl : k = T.size := by omega
      have hsp : spc T = blks T T.size := by unfold spc; rw [decide_eq_true hz, Bool.true_and]
      generalize hbb : blks T T.size = b at *
      have HSP := Lib.hid hsp
      clear hbb
      have hzr := hbr.size
      have HV1 := Lib.hid (HV0.out.below hbr)
      have HBR := Lib.hid hbr
      clear hb hbr hsp
      go_wp2_with fail
      refine (BoolVal_any b wr).mono ?_
      rintro e w2 ⟨rfl, hk2⟩
      have H := Lib.hid (HV1.out.below hk2)
      have HK := Lib.hid ((HK0.out.trans HBR.out).trans hk2)
      have hst := run_storeVar_row (P := Tryz.prog) w2 w.heap.size 27 27 _ (bvv b) H.out info_V rfl (by simp [Value.oneCell', bvv])
      simp [go_sem, bvv_size] at hst
      go_wp2_with fail
      refine bodyPost_blk (cs := bvv b) rfl rfl (setRow_heap _ _ _ _ _ _ H.out) Tryz.underlying27 rfl (by exact info_V) rfl ?_
      exact ⟨by rw [HSP.out], below_setRow HK.out (Nat.le_refl _) _⟩
end Go.Proofs.YtcamjefacbaniaaGreat
