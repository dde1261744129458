/- The reference's partition, from the beginning on. -/
import Derived.Test.YtcamjefacbaniaaGreatPb
import Derived.Test.YtcamjefacbaniaaGreatTc
import Derived.RegionTactic
import Derived.BigRegion
namespace Go.Proofs.YtcamjefacbaniaaGreat
open Go.ChangeShapes Go.WideShapes Go.ChangeAt Go.RowKit
set_option linter.unusedVariables false
/-- a text, as the laws have it -/
def tvv (s : ByteArray) : Array Value := #[.int .i64 4, .bool false, .slice none 0 0, .int .u64 0, .string s, .slice none 0 0]
theorem tvv_size (s : ByteArray) : (tvv s).size = 6 := rfl
/-- a tuple with n kids -/
def kvv (A : Option Addr) (n c : Nat) : Array Value := #[.int .i64 7, .bool false, .slice none 0 0, .int .u64 0, .string ⟨#[]⟩, .slice A n c]
theorem kvv_size (A : Option Addr) (n c : Nat) : (kvv A n c).size = 6 := rfl
set_option maxRecDepth 100000 in
theorem TextVal_any (s : ByteArray) (w : World) :
    Calls Tryz.prog 7 #[.string s] w fun e w' => e = .returned (.agg (tvv s)) ∧ Kept w w' := by
  have ho : Kept w (w.alloc (.cells (tvv s) 27)) := (Below.refl _ _).alloc (Nat.le_refl _) _
  have hb := Blk.new w 27 (tvv s)
  have HO := Lib.hid ho
  have HB := Lib.hid hb
  clear ho hb
  go_enter Tryz.func7, Tryz.ntmps7
  go_wp2_with fail
  exact bodyPost_blk rfl rfl HB.out Tryz.underlying27 rfl (by exact info_V) rfl ⟨rfl, HO.out⟩
theorem TextVal_any2 (s : ByteArray) (w : World) :
    Calls Tryz.prog 7 #[.string s] w fun e w' => e = .returned (.agg #[.int .i64 4, .bool false, .slice none 0 0, .int .u64 0, .string s, .slice none 0 0]) ∧ Kept w w' := TextVal_any s w
/-- three texts of the laws in a row of their own: each takes six cells -/
def K3 (w : World) (g : Nat) (l : List ByteArray) : Prop := ∃ a b c, l = [a, b, c] ∧ Blk w g 27 #[.int .i64 4, .bool false, .slice none 0 0, .int .u64 0, .string a, .slice none 0 0, .int .i64 4, .bool false, .slice none 0 0, .int .u64 0, .string b, .slice none 0 0, .int .i64 4, .bool false, .slice none 0 0, .int .u64 0, .string c, .slice none 0 0]
def RetAround (back : Bool) (T P : ByteArray) (w : World) (e : Ending) (w' : World) : Prop := ∃ r g, e = .returned (.tuple #[.agg (kvv (some ⟨g, 0, none⟩) 3 3), .bool true]) ∧ PlaceAt back T P (plc T P) r ∧ K3 w' g (prt back T P r) ∧ w.heap.size ≤ g ∧ Kept w w'
set_option maxRecDepth 100000 in
set_option maxHeartbeats 8000000 in
theorem around_false (T P : ByteArray) (hT : T.size ≤ 60) (hP : P.size ≤ 60) (h0 : 0 < P.size) (w : World) :
    Calls Tryz.prog 24 #[.string T, .string (nmPart false), .string P] w (RetAround false T P w) := by
  have hPI : (P.size : Int) ≤ 60 := by omega
  have hP0 : ((P.size : Int) == 0) = false := by rw [beq_eq_false_iff_ne]; omega
  have hTI : (T.size : Int) ≤ 60 := by omega
  have hV0 := Blk.new w 27 #[.int .i64 0, .bool false, .slice none 0 0, .int .u64 0, .string ⟨#[]⟩, .slice none 0 0]
  have hk0 : Kept w (w.alloc (.cells #[.int .i64 0, .bool false, .slice none 0 0, .int .u64 0, .string ⟨#[]⟩, .slice none 0 0] 27)) := (Below.refl _ _).alloc (Nat.le_refl _) _
  have HVW := Lib.hid hV0
  have HK0 := Lib.hid hk0
  clear hV0 hk0
  have e2 : nmPart false = ⟨#[112, 97, 114, 116, 105, 116, 105, 111, 110]⟩ := rfl
  rw [e2]
  clear e2
  go_enter Tryz.func24, Tryz.ntmps24
  go_wp2_with fail
  generalize w.alloc (.cells #[.int .i64 0, .bool false, .slice none 0 0, .int .u64 0, .string ⟨#[]⟩, .slice none 0 0] 27) = W0 at *
  go_loop [9, 10] (fun av iv => ∃ (k : Nat) (r : Int), iv = .int .i64 k ∧ av = .int .i64 r ∧ k ≤ plc T P ∧ Hid (PlaceAt false T P k r)) (fun _ iv => plc T P - (intOf iv).toNat)
  case atStart => exact ⟨0, -1, rfl, rfl, Nat.zero_le _, PlaceAt.zero _ _ _⟩
  case round =>
    obtain ⟨k, r, rfl, rfl, hk, HP⟩ := hrel
    by_cases hlt : k + P.size ≤ T.size
    · have h1 : (k : Int) + (P.size : Int) ≤ (T.size : Int) := by omega
      have hkp : k < plc T P := by unfold plc; omega
      cases ho : oc T P k
      · have hb : ((T.extract k (k + P.size)).toList == P.toList) = false := (oc_list T P k).trans ho
        have HN := Lib.hid (HP.out.miss ho)
        clear ho
        go_wp2_with fail
        exact ⟨⟨k + 1, r, by go_num, rfl, by omega, HN.out⟩, by simp [intOf]; omega⟩
      · have hb : ((T.extract k (k + P.size)).toList == P.toList) = true := (oc_list T P k).trans ho
        by_cases hr : r < 0
        · obtain rfl : r = -1 := by have := HP.out.lo.1; omega
          have HN := Lib.hid (HP.out.hitFirst ho)
          clear ho
          go_wp2_with fail
          exact ⟨⟨k + 1, k, by go_num, rfl, by omega, HN.out⟩, by simp [intOf]; omega⟩
        · have HN := Lib.hid (HP.out.keepFirst (by omega) (k + 1) (by omega))
          clear ho
          go_wp2_with fail
          exact ⟨⟨k + 1, r, by go_num, rfl, by omega, HN.out⟩, by simp [intOf]; omega⟩
    · have h1 : ¬ ((k : Int) + (P.size : Int) ≤ (T.size : Int)) := by omega
      have HPP : Hid (PlaceAt false T P (plc T P) r) := by rw [show plc T P = k by unfold plc at *; omega]; exact HP
      have hk61 : (k : Int) ≤ 61 := by unfold plc at hk; omega
      clear HP hk hlt
      by_cases hr : r < 0
      · obtain rfl : r = -1 := by have := HPP.out.lo.1; omega
        go_wp2_with fail
        have hkn : Kept W0 (W0.alloc (.cells #[.string T, .string ⟨#[]⟩, .string ⟨#[]⟩] 9)) := (Below.refl _ _).alloc (Nat.le_refl _) _
        have hB3 : Blk (W0.alloc (.cells #[.string T, .string ⟨#[]⟩, .string ⟨#[]⟩] 9)) (W0.heap.size) 9 #[.string T, .string ⟨#[]⟩, .string ⟨#[]⟩] := Blk.new W0 9 _
        generalize (W0.alloc (.cells #[.string T, .string ⟨#[]⟩, .string ⟨#[]⟩] 9)) = Wn at *
        have hV3 : Blk Wn w.heap.size 27 #[.int .i64 0, .bool false, .slice none 0 0, .int .u64 0, .string ⟨#[]⟩, .slice none 0 0] := HVW.out.below hkn
        have lV : w.heap.size < W0.heap.size := HVW.out.lt
        have hzn := hkn.size
        have HV3 := Lib.hid hV3
        have HKN := Lib.hid hkn
        have KEEP : Hid (∀ X : World, Kept Wn X → X.cell? ⟨W0.heap.size, 0, none⟩ = some (.string T) ∧ X.cell? ⟨W0.heap.size, 1, none⟩ = some (.string ⟨#[]⟩) ∧ X.cell? ⟨W0.heap.size, 2, none⟩ = some (.string ⟨#[]⟩)) := Lib.hid fun X h => ⟨(hB3.below h).cell 0, (hB3.below h).cell 1, (hB3.below h).cell 2⟩
        have KEEP2 : Hid (∀ (X : World) (cs : Array Value), Kept Wn X → (X.setRow w.heap.size cs).cell? ⟨W0.heap.size, 0, none⟩ = some (.string T) ∧ (X.setRow w.heap.size cs).cell? ⟨W0.heap.size, 1, none⟩ = some (.string ⟨#[]⟩) ∧ (X.setRow w.heap.size cs).cell? ⟨W0.heap.size, 2, none⟩ = some (.string ⟨#[]⟩)) := Lib.hid fun X cs h =>
          ⟨(cell_setRow_other _ _ _ _ (by simp only; omega)).trans (KEEP.out X h).1, (cell_setRow_other _ _ _ _ (by simp only; omega)).trans (KEEP.out X h).2.1, (cell_setRow_other _ _ _ _ (by simp only; omega)).trans (KEEP.out X h).2.2⟩
        clear hV3 hB3 hkn
        go_region_held3 (fun X : World => X.cell? ⟨W0.heap.size, 0, none⟩ = some (.string T) ∧ X.cell? ⟨W0.heap.size, 1, none⟩ = some (.string ⟨#[]⟩) ∧ X.cell? ⟨W0.heap.size, 2, none⟩ = some (.string ⟨#[]⟩))
          (first
            | exact KEEP2.out _ _ hK18
            | exact KEEP.out _ (by go_grown))
          (first
            | (have _hq := hK2
               go_at_call 7
               (with_reducible refine Calls.mono (TextVal_any2 _ _) ?_)
               rintro e w3 ⟨rfl, hk3⟩
               have hK3 : Kept Wn w3 := Below.trans (by go_grown) (hk3.mono (by go_size))
               have hz3 := hK3.size
               have hK18 : Kept Wn (w3.alloc (.cells #[.int .i64 4, .bool false, .slice none 0 0, .int .u64 0, .string T, .slice none 0 0, .int .i64 4, .bool false, .slice none 0 0, .int .u64 0, .string ⟨#[]⟩, .slice none 0 0, .int .i64 4, .bool false, .slice none 0 0, .int .u64 0, .string ⟨#[]⟩, .slice none 0 0] 27)) := Below.alloc hK3 hz3 _
               have hst := run_storeVar_row (P := Tryz.prog) (w3.alloc (.cells #[.int .i64 4, .bool false, .slice none 0 0, .int .u64 0, .string T, .slice none 0 0, .int .i64 4, .bool false, .slice none 0 0, .int .u64 0, .string ⟨#[]⟩, .slice none 0 0, .int .i64 4, .bool false, .slice none 0 0, .int .u64 0, .string ⟨#[]⟩, .slice none 0 0] 27)) w.heap.size 27 27 _ #[.int .i64 7, .bool false, .slice none 0 0, .int .u64 0, .string ⟨#[]⟩, .slice (some ⟨w3.heap.size, 0, none⟩) 3 3] (HV3.out.below hK18) info_V rfl (by simp [Value.oneCell'])
               simp [go_sem] at hst)
            | (have _hq := hK1
               go_at_call 7
               (with_reducible refine Calls.mono (TextVal_any2 _ _) ?_)
               rintro e w2 ⟨rfl, hk2⟩
               have hK2 : Kept Wn w2 := Below.trans (by go_grown) (hk2.mono (by go_size))
               have hz2 := hK2.size)
            | (go_at_call 7
               (with_reducible refine Calls.mono (TextVal_any2 _ _) ?_)
               rintro e w1 ⟨rfl, hk1⟩
               have hK1 : Kept Wn w1 := Below.trans (by go_grown) (hk1.mono (by go_size))
               have hz1 := hK1.size))
        have HK18 := Lib.hid hK18
        have hl3 : w.heap.size < w3.heap.size := by omega
        clear hst
        go_wp2_with fail
        refine bodyPost_ret (results_cell_tmp rfl _ _ _ w.heap.size 27 (kvv (some ⟨w3.heap.size, 0, none⟩) 3 3) _ _ rfl (setRow_heap _ _ _ _ _ _ (HV3.out.below HK18.out)) Tryz.underlying27 (by exact info_V)) rfl ?_
        refine ⟨-1, w3.heap.size, rfl, HPP.out, ⟨T, ⟨#[]⟩, ⟨#[]⟩, by rfl, ?_⟩, Nat.le_of_lt hl3, below_setRow (HK0.out.trans (HKN.out.trans HK18.out)) (Nat.le_refl _) _⟩
        exact (setRow_other _ _ _ _ (by omega)).trans (heap_alloc_new w3 (.cells #[.int .i64 4, .bool false, .slice none 0 0, .int .u64 0, .string T, .slice none 0 0, .int .i64 4, .bool false, .slice none 0 0, .int .u64 0, .string ⟨#[]⟩, .slice none 0 0, .int .i64 4, .bool false, .slice none 0 0, .int .u64 0, .string ⟨#[]⟩, .slice none 0 0] 27))
      · obtain ⟨i, rfl⟩ := Int.eq_ofNat_of_zero_le (by omega : 0 ≤ r)
        have hi := HPP.out.lo.2
        have hi1 : i + P.size ≤ T.size := by unfold plc at hi; omega
        have hi2 : (i : Int) + (P.size : Int) ≤ (T.size : Int) := by omega
        have hi3 : (i : Int) ≤ (T.size : Int) := by omega
        have hge : (0 : Int) ≤ (i : Int) := by omega
        go_wp2_with fail
        go_region
        go_wp2_with fail
        have hkn : Kept W0 ((W0.alloc (.cells #[.string T, .string ⟨#[]⟩, .string ⟨#[]⟩] 9)).alloc (.cells #[.string (T.extract 0 i), .string P, .string (T.extract (i + P.size) T.size)] 9)).drew := by go_grown
        have hB3 : Blk ((W0.alloc (.cells #[.string T, .string ⟨#[]⟩, .string ⟨#[]⟩] 9)).alloc (.cells #[.string (T.extract 0 i), .string P, .string (T.extract (i + P.size) T.size)] 9)).drew (W0.heap.size + 1) 9 #[.string (T.extract 0 i), .string P, .string (T.extract (i + P.size) T.size)] := (by have := Blk.new (W0.alloc (.cells #[.string T, .string ⟨#[]⟩, .string ⟨#[]⟩] 9)) 9 #[.string (T.extract 0 i), .string P, .string (T.extract (i + P.size) T.size)]; rw [World.size_alloc] at this; exact this)
        generalize ((W0.alloc (.cells #[.string T, .string ⟨#[]⟩, .string ⟨#[]⟩] 9)).alloc (.cells #[.string (T.extract 0 i), .string P, .string (T.extract (i + P.size) T.size)] 9)).drew = Wn at *
        have hV3 : Blk Wn w.heap.size 27 #[.int .i64 0, .bool false, .slice none 0 0, .int .u64 0, .string ⟨#[]⟩, .slice none 0 0] := HVW.out.below hkn
        have lV : w.heap.size < W0.heap.size := HVW.out.lt
        have hzn := hkn.size
        have HV3 := Lib.hid hV3
        have HKN := Lib.hid hkn
        have KEEP : Hid (∀ X : World, Kept Wn X → X.cell? ⟨W0.heap.size + 1, 0, none⟩ = some (.string (T.extract 0 i)) ∧ X.cell? ⟨W0.heap.size + 1, 1, none⟩ = some (.string P) ∧ X.cell? ⟨W0.heap.size + 1, 2, none⟩ = some (.string (T.extract (i + P.size) T.size))) := Lib.hid fun X h => ⟨(hB3.below h).cell 0, (hB3.below h).cell 1, (hB3.below h).cell 2⟩
        have KEEP2 : Hid (∀ (X : World) (cs : Array Value), Kept Wn X → (X.setRow w.heap.size cs).cell? ⟨W0.heap.size + 1, 0, none⟩ = some (.string (T.extract 0 i)) ∧ (X.setRow w.heap.size cs).cell? ⟨W0.heap.size + 1, 1, none⟩ = some (.string P) ∧ (X.setRow w.heap.size cs).cell? ⟨W0.heap.size + 1, 2, none⟩ = some (.string (T.extract (i + P.size) T.size))) := Lib.hid fun X cs h =>
          ⟨(cell_setRow_other _ _ _ _ (by simp only; omega)).trans (KEEP.out X h).1, (cell_setRow_other _ _ _ _ (by simp only; omega)).trans (KEEP.out X h).2.1, (cell_setRow_other _ _ _ _ (by simp only; omega)).trans (KEEP.out X h).2.2⟩
        clear hV3 hB3 hkn
        go_region_held3 (fun X : World => X.cell? ⟨W0.heap.size + 1, 0, none⟩ = some (.string (T.extract 0 i)) ∧ X.cell? ⟨W0.heap.size + 1, 1, none⟩ = some (.string P) ∧ X.cell? ⟨W0.heap.size + 1, 2, none⟩ = some (.string (T.extract (i + P.size) T.size)))
          (first
            | exact KEEP2.out _ _ hK18
            | exact KEEP.out _ (by go_grown))
          (first
            | (have _hq := hK2
               go_at_call 7
               (with_reducible refine Calls.mono (TextVal_any2 _ _) ?_)
               rintro e w3 ⟨rfl, hk3⟩
               have hK3 : Kept Wn w3 := Below.trans (by go_grown) (hk3.mono (by go_size))
               have hz3 := hK3.size
               have hK18 : Kept Wn (w3.alloc (.cells #[.int .i64 4, .bool false, .slice none 0 0, .int .u64 0, .string (T.extract 0 i), .slice none 0 0, .int .i64 4, .bool false, .slice none 0 0, .int .u64 0, .string P, .slice none 0 0, .int .i64 4, .bool false, .slice none 0 0, .int .u64 0, .string (T.extract (i + P.size) T.size), .slice none 0 0] 27)) := Below.alloc hK3 hz3 _
               have hst := run_storeVar_row (P := Tryz.prog) (w3.alloc (.cells #[.int .i64 4, .bool false, .slice none 0 0, .int .u64 0, .string (T.extract 0 i), .slice none 0 0, .int .i64 4, .bool false, .slice none 0 0, .int .u64 0, .string P, .slice none 0 0, .int .i64 4, .bool false, .slice none 0 0, .int .u64 0, .string (T.extract (i + P.size) T.size), .slice none 0 0] 27)) w.heap.size 27 27 _ #[.int .i64 7, .bool false, .slice none 0 0, .int .u64 0, .string ⟨#[]⟩, .slice (some ⟨w3.heap.size, 0, none⟩) 3 3] (HV3.out.below hK18) info_V rfl (by simp [Value.oneCell'])
               simp [go_sem] at hst)
            | (have _hq := hK1
               go_at_call 7
               (with_reducible refine Calls.mono (TextVal_any2 _ _) ?_)
               rintro e w2 ⟨rfl, hk2⟩
               have hK2 : Kept Wn w2 := Below.trans (by go_grown) (hk2.mono (by go_size))
               have hz2 := hK2.size)
            | (go_at_call 7
               (with_reducible refine Calls.mono (TextVal_any2 _ _) ?_)
               rintro e w1 ⟨rfl, hk1⟩
               have hK1 : Kept Wn w1 := Below.trans (by go_grown) (hk1.mono (by go_size))
               have hz1 := hK1.size))
        have HK18 := Lib.hid hK18
        have hl3 : w.heap.size < w3.heap.size := by omega
        clear hst
        go_wp2_with fail
        refine bodyPost_ret (results_cell_tmp rfl _ _ _ w.heap.size 27 (kvv (some ⟨w3.heap.size, 0, none⟩) 3 3) _ _ rfl (setRow_heap _ _ _ _ _ _ (HV3.out.below HK18.out)) Tryz.underlying27 (by exact info_V)) rfl ?_
        refine ⟨(i : Int), w3.heap.size, rfl, HPP.out, ⟨(T.extract 0 i), P, (T.extract (i + P.size) T.size), by rw [prt, if_neg (by omega)]; rfl, ?_⟩, Nat.le_of_lt hl3, below_setRow (HK0.out.trans (HKN.out.trans HK18.out)) (Nat.le_refl _) _⟩
        exact (setRow_other _ _ _ _ (by omega)).trans (heap_alloc_new w3 (.cells #[.int .i64 4, .bool false, .slice none 0 0, .int .u64 0, .string (T.extract 0 i), .slice none 0 0, .int .i64 4, .bool false, .slice none 0 0, .int .u64 0, .string P, .slice none 0 0, .int .i64 4, .bool false, .slice none 0 0, .int .u64 0, .string (T.extract (i + P.size) T.size), .slice none 0 0] 27))
end Go.Proofs.YtcamjefacbaniaaGreat
