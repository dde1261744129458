/- spec.escape at x, u and U. -/
import Derived.Test.YtmcemcpnhlmbhaaDoorBn
open Go.Lib
namespace Go.Proofs.YtmcemcpnhlmbhaaDoor
open Go.ChangeShapes Go.WideShapes Go.ChangeAt Go.RowKit
set_option linter.unusedVariables false
/-- the number of hexadecimal digits -/
def hexv (ds : List Nat) : Nat := ds.foldl (fun a d => 16 * a + d) 0
theorem hexv_snoc (ds : List Nat) (d : Nat) : hexv (ds ++ [d]) = 16 * hexv ds + d := by simp [hexv, List.foldl_append]
theorem hexv_step (ds : List Nat) (k : Nat) (h : k < ds.length) : hexv (ds.take (k + 1)) = 16 * hexv (ds.take k) + ds[k]'h := by
  rw [List.take_succ_eq_append_getElem h, hexv_snoc]
theorem hexv_lt (ds : List Nat) (hd : ∀ x ∈ ds, x < 16) : ∀ k, k ≤ ds.length → hexv (ds.take k) < 16 ^ k
  | 0, _ => by simp [hexv]
  | k + 1, h => by
    have h1 := hexv_lt ds hd k (by omega)
    have h2 := hd _ (List.getElem_mem (show k < ds.length by omega))
    rw [hexv_step ds k (by omega), Nat.pow_succ]
    omega
theorem hexv_small (ds : List Nat) (hd : ∀ x ∈ ds, x < 16) (h8 : ds.length ≤ 8) (k : Nat) (hk : k ≤ ds.length) : hexv (ds.take k) < 4294967296 := by
  have h1 := hexv_lt ds hd k hk
  have h2 : 16 ^ k ≤ 16 ^ 8 := Nat.pow_le_pow_right (by decide) (by omega)
  have h3 : (16 : Nat) ^ 8 = 4294967296 := by decide
  omega
theorem digit_nat (d : Nat) (hd : d < 16) : ∃ x : Nat, Lib.hexDigit d = (x : Int) ∧ x < 256 ∧ bits .or .u8 (x : Int) 32 = (x : Int) := by
  obtain ⟨h0, h1, _, h3⟩ := hexDigit_byte d hd
  obtain ⟨x, hx⟩ := Int.eq_ofNat_of_zero_le h0
  refine ⟨x, hx, by omega, ?_⟩
  rw [← hx]
  exact h3
theorem wrap_digit (v d : Nat) (hv : v < 4294967296) (hd : d < 16) : wrap64 ((v : Int) * 16) = (v : Int) * 16 ∧ wrap64 ((v : Int) * 16 + (d : Int)) = (v : Int) * 16 + (d : Int) := by
  unfold wrap64
  omega
theorem place_digit {s : ByteArray} {c : Int} {ds : List Nat} {B' : List Int} (hs : bz s = 92 :: c :: (ds.map Lib.hexDigit ++ B')) (hd : ∀ x ∈ ds, x < 16) (p : Nat) (h2 : 2 ≤ p) (h : p - 2 < ds.length) : ∃ hp : p < s.size, ((s[p]'hp).toNat : Int) = Lib.hexDigit (ds[p - 2]'h) ∧ ds[p - 2]'h < 16 := by
  obtain ⟨q, rfl⟩ : ∃ q, p = q + 2 := ⟨p - 2, by omega⟩
  simp only [Nat.add_sub_cancel] at h ⊢
  obtain ⟨hi, he⟩ := bz_at hs (q + 2) (Lib.hexDigit (ds[q]'h)) (by
    simp only [List.getElem?_cons_succ]
    rw [List.getElem?_append_left (by simpa using h), List.getElem?_map, List.getElem?_eq_getElem h]
    rfl)
  exact ⟨hi, he, hd _ (List.getElem_mem h)⟩
set_option maxRecDepth 100000 in
set_option maxHeartbeats 4000000 in
theorem escape_x (ds : List Nat) (hl : ds.length = 2) (hd : ∀ x ∈ ds, x < 16) (s : ByteArray) (B' : List Int) (hs : bz s = 92 :: 120 :: (ds.map Lib.hexDigit ++ B')) (ys : List Int) (w : World)
    (hC : ∀ w', Calls Tryd.prog 10 #[.int .i64 ((hexv ds : Nat) : Int), .bool true, .bool true, .int .i64 4] w' (RetPart w' ys 4)) :
    Calls Tryd.prog 6 #[.string s, .bool true] w (RetPart w ys 4) := by
  obtain ⟨h1, hx⟩ := bz_at hs 1 120 rfl
  have hzl := bz_size hs
  simp only [List.length_cons, List.length_append, List.length_map] at hzl
  have hz' : ¬ (s.size : Int) < 2 := by omega
  have hz1 : (1 : Int) < (s.size : Int) := by omega
  have hzn : ¬ (s.size : Int) < 4 := by omega
  have hzm : (4 : Int) ≤ (s.size : Int) := by omega
  have HS := Lib.hid (place_digit hs hd)
  have HB : Unit → ∀ k, k ≤ ds.length → hexv (ds.take k) < 4294967296 := fun _ k hk => hexv_small ds hd (by omega) k hk
  have HC := Lib.hid hC
  clear hs hd hzl hC
  have e0 : ((120 : Int) == ((((⟨#[110, 114, 116, 97, 98, 102, 118, 34, 39, 92]⟩ : ByteArray)[0]'(by decide)).toNat : Nat) : Int)) = false := by decide
  have e1 : ((120 : Int) == ((((⟨#[110, 114, 116, 97, 98, 102, 118, 34, 39, 92]⟩ : ByteArray)[1]'(by decide)).toNat : Nat) : Int)) = false := by decide
  have e2 : ((120 : Int) == ((((⟨#[110, 114, 116, 97, 98, 102, 118, 34, 39, 92]⟩ : ByteArray)[2]'(by decide)).toNat : Nat) : Int)) = false := by decide
  have e3 : ((120 : Int) == ((((⟨#[110, 114, 116, 97, 98, 102, 118, 34, 39, 92]⟩ : ByteArray)[3]'(by decide)).toNat : Nat) : Int)) = false := by decide
  have e4 : ((120 : Int) == ((((⟨#[110, 114, 116, 97, 98, 102, 118, 34, 39, 92]⟩ : ByteArray)[4]'(by decide)).toNat : Nat) : Int)) = false := by decide
  have e5 : ((120 : Int) == ((((⟨#[110, 114, 116, 97, 98, 102, 118, 34, 39, 92]⟩ : ByteArray)[5]'(by decide)).toNat : Nat) : Int)) = false := by decide
  have e6 : ((120 : Int) == ((((⟨#[110, 114, 116, 97, 98, 102, 118, 34, 39, 92]⟩ : ByteArray)[6]'(by decide)).toNat : Nat) : Int)) = false := by decide
  have e7 : ((120 : Int) == ((((⟨#[110, 114, 116, 97, 98, 102, 118, 34, 39, 92]⟩ : ByteArray)[7]'(by decide)).toNat : Nat) : Int)) = false := by decide
  have e8 : ((120 : Int) == ((((⟨#[110, 114, 116, 97, 98, 102, 118, 34, 39, 92]⟩ : ByteArray)[8]'(by decide)).toNat : Nat) : Int)) = false := by decide
  have e9 : ((120 : Int) == ((((⟨#[110, 114, 116, 97, 98, 102, 118, 34, 39, 92]⟩ : ByteArray)[9]'(by decide)).toNat : Nat) : Int)) = false := by decide
  go_enter Tryd.func6, Tryd.ntmps6
  go_wp2_with fail
  refine wp_loop_rounds 11 ?_
  rw [rounds_succ]
  go_wp2_with fail
  go_quiet (fail)
  go_wp2_with fail
  rw [rounds_succ]
  go_wp2_with fail
  go_quiet (fail)
  go_wp2_with fail
  rw [rounds_succ]
  go_wp2_with fail
  go_quiet (fail)
  go_wp2_with fail
  rw [rounds_succ]
  go_wp2_with fail
  go_quiet (fail)
  go_wp2_with fail
  rw [rounds_succ]
  go_wp2_with fail
  go_quiet (fail)
  go_wp2_with fail
  rw [rounds_succ]
  go_wp2_with fail
  go_quiet (fail)
  go_wp2_with fail
  rw [rounds_succ]
  go_wp2_with fail
  go_quiet (fail)
  go_wp2_with fail
  rw [rounds_succ]
  go_wp2_with fail
  go_quiet (fail)
  go_wp2_with fail
  rw [rounds_succ]
  go_wp2_with fail
  go_quiet (fail)
  go_wp2_with fail
  rw [rounds_succ]
  go_wp2_with fail
  go_quiet (fail)
  go_wp2_with fail
  rw [rounds_succ]
  go_wp2_with fail
  clear e0 e1 e2 e3 e4 e5 e6 e7 e8 e9
  go_loopw [8, 9, 10] (fun nv iv _ wr => ∃ p : Nat, iv = .int .i64 ((p : Nat) : Int) ∧ 2 ≤ p ∧ p ≤ 4 ∧ nv = .int .i64 ((hexv (ds.take (p - 2)) : Nat) : Int) ∧ Hid (Kept w wr)) (fun _ iv _ _ => 4 - (RowKit.intOf iv).toNat)
  case atStart =>
    refine ⟨2, rfl, Nat.le_refl _, by omega, rfl, ?_⟩
    show Kept _ _
    repeat' (first | exact Below.refl _ _ | refine Kept.trans ?_ (kept_drewN _ _))
  case round =>
    obtain ⟨p, rfl, hp2, hp, rfl, hkr⟩ := hrel
    by_cases hlt : p < 4
    · obtain ⟨hi, hix, hd⟩ := HS.out p hp2 (by omega)
      have hst := hexv_step ds (p - 2) (by omega)
      have hsm := HB () (p - 2) (by omega)
      rw [show p - 2 + 1 = p + 1 - 2 by omega] at hst
      obtain ⟨d, hdd⟩ : ∃ d, d = ds[p - 2]'(by omega) := ⟨_, rfl⟩
      rw [← hdd] at hd hst hix
      clear hdd
      have hor := (hexDigit_byte d hd).2.2.2
      have cP := fun (T : ByteArray) (hT : bz T = [Lib.hexDigit d]) (W : World) => place_hex d hd T hT W
      have hyb := hexDigit_byte d hd
      obtain ⟨y, hy⟩ : ∃ y, y = Lib.hexDigit d := ⟨_, rfl⟩
      simp only [← hy] at hor hix cP hyb
      obtain ⟨v, hv⟩ : ∃ v, v = hexv (ds.take (p - 2)) := ⟨_, rfl⟩
      rw [← hv] at hst hsm ⊢
      have hd0 : ¬ (d : Int) < 0 := by omega
      have HST := Lib.hid hst
      have hltI : (p : Int) < 4 := by omega
      have hpI : (p : Int) < (s.size : Int) := by omega
      have hp1 : p + 1 ≤ 4 := by omega
      obtain ⟨hw1, hw2⟩ := wrap_digit v d hsm hd
      have CP := Lib.hid (cP (strOfNums [y]) (bz_nums [y] (by intro z hz; rw [List.mem_singleton] at hz; subst hz; exact ⟨hyb.1, hyb.2.1⟩)))
      clear hv hst hsm hlt hp hy hd cP hyb
      go_wp2_with fail
      have hcv := run_convert_bytes_arg (P := Tryd.prog) (wr.alloc (.cells #[.int .u8 y] 5)) 26 5 Tryd.underlying26 Tryd.underlying5 wr.heap.size 0 1 1 [y] rfl (fun i hi => by
        obtain rfl : i = 0 := by omega
        exact one_cells wr y 0 _ rfl) 9 Tryd.underlying9
      rw [hcv]
      clear hcv
      go_wp2_with fail
      refine (CP.out _).mono ?_
      rintro e w1 ⟨rfl, rfl⟩
      go_wp2_with fail
      rw [hw2]
      clear hw1 hw2 hor hix
      go_roundw
      case rel =>
        refine ⟨p + 1, by go_num, by omega, by omega, ?_, ?_⟩
        · rw [HST.out]
          go_num
        · exact Kept.trans hkr.out ((Below.refl _ _).alloc (Nat.le_refl _) _)
      case measure => simp [RowKit.intOf]; omega
    · obtain rfl : p = 4 := by omega
      have hv : hexv (ds.take (4 - 2)) = hexv ds := by rw [List.take_of_length_le (by omega)]
      rw [hv]
      clear hlt hp hp2 hv
      go_wp2_with fail
      refine (HC.out _).mono ?_
      rintro e w1 ⟨g, cc, rfl, hcc, hkk⟩
      go_wp2_with fail
      go_returns
      exact ⟨g, cc, rfl, hcc, Kept.trans hkr.out hkk⟩
set_option maxRecDepth 100000 in
set_option maxHeartbeats 4000000 in
theorem escape_u (ds : List Nat) (hl : ds.length = 4) (hd : ∀ x ∈ ds, x < 16) (s : ByteArray) (B' : List Int) (hs : bz s = 92 :: 117 :: (ds.map Lib.hexDigit ++ B')) (ys : List Int) (w : World)
    (hC : ∀ w', Calls Tryd.prog 10 #[.int .i64 ((hexv ds : Nat) : Int), .bool false, .bool true, .int .i64 6] w' (RetPart w' ys 6)) :
    Calls Tryd.prog 6 #[.string s, .bool true] w (RetPart w ys 6) := by
  obtain ⟨h1, hx⟩ := bz_at hs 1 117 rfl
  have hzl := bz_size hs
  simp only [List.length_cons, List.length_append, List.length_map] at hzl
  have hz' : ¬ (s.size : Int) < 2 := by omega
  have hz1 : (1 : Int) < (s.size : Int) := by omega
  have hzn : ¬ (s.size : Int) < 6 := by omega
  have hzm : (6 : Int) ≤ (s.size : Int) := by omega
  have HS := Lib.hid (place_digit hs hd)
  have HB : Unit → ∀ k, k ≤ ds.length → hexv (ds.take k) < 4294967296 := fun _ k hk => hexv_small ds hd (by omega) k hk
  have HC := Lib.hid hC
  clear hs hd hzl hC
  have e0 : ((117 : Int) == ((((⟨#[110, 114, 116, 97, 98, 102, 118, 34, 39, 92]⟩ : ByteArray)[0]'(by decide)).toNat : Nat) : Int)) = false := by decide
  have e1 : ((117 : Int) == ((((⟨#[110, 114, 116, 97, 98, 102, 118, 34, 39, 92]⟩ : ByteArray)[1]'(by decide)).toNat : Nat) : Int)) = false := by decide
  have e2 : ((117 : Int) == ((((⟨#[110, 114, 116, 97, 98, 102, 118, 34, 39, 92]⟩ : ByteArray)[2]'(by decide)).toNat : Nat) : Int)) = false := by decide
  have e3 : ((117 : Int) == ((((⟨#[110, 114, 116, 97, 98, 102, 118, 34, 39, 92]⟩ : ByteArray)[3]'(by decide)).toNat : Nat) : Int)) = false := by decide
  have e4 : ((117 : Int) == ((((⟨#[110, 114, 116, 97, 98, 102, 118, 34, 39, 92]⟩ : ByteArray)[4]'(by decide)).toNat : Nat) : Int)) = false := by decide
  have e5 : ((117 : Int) == ((((⟨#[110, 114, 116, 97, 98, 102, 118, 34, 39, 92]⟩ : ByteArray)[5]'(by decide)).toNat : Nat) : Int)) = false := by decide
  have e6 : ((117 : Int) == ((((⟨#[110, 114, 116, 97, 98, 102, 118, 34, 39, 92]⟩ : ByteArray)[6]'(by decide)).toNat : Nat) : Int)) = false := by decide
  have e7 : ((117 : Int) == ((((⟨#[110, 114, 116, 97, 98, 102, 118, 34, 39, 92]⟩ : ByteArray)[7]'(by decide)).toNat : Nat) : Int)) = false := by decide
  have e8 : ((117 : Int) == ((((⟨#[110, 114, 116, 97, 98, 102, 118, 34, 39, 92]⟩ : ByteArray)[8]'(by decide)).toNat : Nat) : Int)) = false := by decide
  have e9 : ((117 : Int) == ((((⟨#[110, 114, 116, 97, 98, 102, 118, 34, 39, 92]⟩ : ByteArray)[9]'(by decide)).toNat : Nat) : Int)) = false := by decide
  go_enter Tryd.func6, Tryd.ntmps6
  go_wp2_with fail
  refine wp_loop_rounds 11 ?_
  rw [rounds_succ]
  go_wp2_with fail
  go_quiet (fail)
  go_wp2_with fail
  rw [rounds_succ]
  go_wp2_with fail
  go_quiet (fail)
  go_wp2_with fail
  rw [rounds_succ]
  go_wp2_with fail
  go_quiet (fail)
  go_wp2_with fail
  rw [rounds_succ]
  go_wp2_with fail
  go_quiet (fail)
  go_wp2_with fail
  rw [rounds_succ]
  go_wp2_with fail
  go_quiet (fail)
  go_wp2_with fail
  rw [rounds_succ]
  go_wp2_with fail
  go_quiet (fail)
  go_wp2_with fail
  rw [rounds_succ]
  go_wp2_with fail
  go_quiet (fail)
  go_wp2_with fail
  rw [rounds_succ]
  go_wp2_with fail
  go_quiet (fail)
  go_wp2_with fail
  rw [rounds_succ]
  go_wp2_with fail
  go_quiet (fail)
  go_wp2_with fail
  rw [rounds_succ]
  go_wp2_with fail
  go_quiet (fail)
  go_wp2_with fail
  rw [rounds_succ]
  go_wp2_with fail
  clear e0 e1 e2 e3 e4 e5 e6 e7 e8 e9
  go_loopw [8, 9, 10] (fun nv iv _ wr => ∃ p : Nat, iv = .int .i64 ((p : Nat) : Int) ∧ 2 ≤ p ∧ p ≤ 6 ∧ nv = .int .i64 ((hexv (ds.take (p - 2)) : Nat) : Int) ∧ Hid (Kept w wr)) (fun _ iv _ _ => 6 - (RowKit.intOf iv).toNat)
  case atStart =>
    refine ⟨2, rfl, Nat.le_refl _, by omega, rfl, ?_⟩
    show Kept _ _
    repeat' (first | exact Below.refl _ _ | refine Kept.trans ?_ (kept_drewN _ _))
  case round =>
    obtain ⟨p, rfl, hp2, hp, rfl, hkr⟩ := hrel
    by_cases hlt : p < 6
    · obtain ⟨hi, hix, hd⟩ := HS.out p hp2 (by omega)
      have hst := hexv_step ds (p - 2) (by omega)
      have hsm := HB () (p - 2) (by omega)
      rw [show p - 2 + 1 = p + 1 - 2 by omega] at hst
      obtain ⟨d, hdd⟩ : ∃ d, d = ds[p - 2]'(by omega) := ⟨_, rfl⟩
      rw [← hdd] at hd hst hix
      clear hdd
      have hor := (hexDigit_byte d hd).2.2.2
      have cP := fun (T : ByteArray) (hT : bz T = [Lib.hexDigit d]) (W : World) => place_hex d hd T hT W
      have hyb := hexDigit_byte d hd
      obtain ⟨y, hy⟩ : ∃ y, y = Lib.hexDigit d := ⟨_, rfl⟩
      simp only [← hy] at hor hix cP hyb
      obtain ⟨v, hv⟩ : ∃ v, v = hexv (ds.take (p - 2)) := ⟨_, rfl⟩
      rw [← hv] at hst hsm ⊢
      have hd0 : ¬ (d : Int) < 0 := by omega
      have HST := Lib.hid hst
      have hltI : (p : Int) < 6 := by omega
      have hpI : (p : Int) < (s.size : Int) := by omega
      have hp1 : p + 1 ≤ 6 := by omega
      obtain ⟨hw1, hw2⟩ := wrap_digit v d hsm hd
      have CP := Lib.hid (cP (strOfNums [y]) (bz_nums [y] (by intro z hz; rw [List.mem_singleton] at hz; subst hz; exact ⟨hyb.1, hyb.2.1⟩)))
      clear hv hst hsm hlt hp hy hd cP hyb
      go_wp2_with fail
      have hcv := run_convert_bytes_arg (P := Tryd.prog) (wr.alloc (.cells #[.int .u8 y] 5)) 26 5 Tryd.underlying26 Tryd.underlying5 wr.heap.size 0 1 1 [y] rfl (fun i hi => by
        obtain rfl : i = 0 := by omega
        exact one_cells wr y 0 _ rfl) 9 Tryd.underlying9
      rw [hcv]
      clear hcv
      go_wp2_with fail
      refine (CP.out _).mono ?_
      rintro e w1 ⟨rfl, rfl⟩
      go_wp2_with fail
      rw [hw2]
      clear hw1 hw2 hor hix
      go_roundw
      case rel =>
        refine ⟨p + 1, by go_num, by omega, by omega, ?_, ?_⟩
        · rw [HST.out]
          go_num
        · exact Kept.trans hkr.out ((Below.refl _ _).alloc (Nat.le_refl _) _)
      case measure => simp [RowKit.intOf]; omega
    · obtain rfl : p = 6 := by omega
      have hv : hexv (ds.take (6 - 2)) = hexv ds := by rw [List.take_of_length_le (by omega)]
      rw [hv]
      clear hlt hp hp2 hv
      go_wp2_with fail
      refine (HC.out _).mono ?_
      rintro e w1 ⟨g, cc, rfl, hcc, hkk⟩
      go_wp2_with fail
      go_returns
      exact ⟨g, cc, rfl, hcc, Kept.trans hkr.out hkk⟩
set_option maxRecDepth 100000 in
set_option maxHeartbeats 4000000 in
theorem escape_v (ds : List Nat) (hl : ds.length = 8) (hd : ∀ x ∈ ds, x < 16) (s : ByteArray) (B' : List Int) (hs : bz s = 92 :: 85 :: (ds.map Lib.hexDigit ++ B')) (ys : List Int) (w : World)
    (hC : ∀ w', Calls Tryd.prog 10 #[.int .i64 ((hexv ds : Nat) : Int), .bool false, .bool true, .int .i64 10] w' (RetPart w' ys 10)) :
    Calls Tryd.prog 6 #[.string s, .bool true] w (RetPart w ys 10) := by
  obtain ⟨h1, hx⟩ := bz_at hs 1 85 rfl
  have hzl := bz_size hs
  simp only [List.length_cons, List.length_append, List.length_map] at hzl
  have hz' : ¬ (s.size : Int) < 2 := by omega
  have hz1 : (1 : Int) < (s.size : Int) := by omega
  have hzn : ¬ (s.size : Int) < 10 := by omega
  have hzm : (10 : Int) ≤ (s.size : Int) := by omega
  have HS := Lib.hid (place_digit hs hd)
  have HB : Unit → ∀ k, k ≤ ds.length → hexv (ds.take k) < 4294967296 := fun _ k hk => hexv_small ds hd (by omega) k hk
  have HC := Lib.hid hC
  clear hs hd hzl hC
  have e0 : ((85 : Int) == ((((⟨#[110, 114, 116, 97, 98, 102, 118, 34, 39, 92]⟩ : ByteArray)[0]'(by decide)).toNat : Nat) : Int)) = false := by decide
  have e1 : ((85 : Int) == ((((⟨#[110, 114, 116, 97, 98, 102, 118, 34, 39, 92]⟩ : ByteArray)[1]'(by decide)).toNat : Nat) : Int)) = false := by decide
  have e2 : ((85 : Int) == ((((⟨#[110, 114, 116, 97, 98, 102, 118, 34, 39, 92]⟩ : ByteArray)[2]'(by decide)).toNat : Nat) : Int)) = false := by decide
  have e3 : ((85 : Int) == ((((⟨#[110, 114, 116, 97, 98, 102, 118, 34, 39, 92]⟩ : ByteArray)[3]'(by decide)).toNat : Nat) : Int)) = false := by decide
  have e4 : ((85 : Int) == ((((⟨#[110, 114, 116, 97, 98, 102, 118, 34, 39, 92]⟩ : ByteArray)[4]'(by decide)).toNat : Nat) : Int)) = false := by decide
  have e5 : ((85 : Int) == ((((⟨#[110, 114, 116, 97, 98, 102, 118, 34, 39, 92]⟩ : ByteArray)[5]'(by decide)).toNat : Nat) : Int)) = false := by decide
  have e6 : ((85 : Int) == ((((⟨#[110, 114, 116, 97, 98, 102, 118, 34, 39, 92]⟩ : ByteArray)[6]'(by decide)).toNat : Nat) : Int)) = false := by decide
  have e7 : ((85 : Int) == ((((⟨#[110, 114, 116, 97, 98, 102, 118, 34, 39, 92]⟩ : ByteArray)[7]'(by decide)).toNat : Nat) : Int)) = false := by decide
  have e8 : ((85 : Int) == ((((⟨#[110, 114, 116, 97, 98, 102, 118, 34, 39, 92]⟩ : ByteArray)[8]'(by decide)).toNat : Nat) : Int)) = false := by decide
  have e9 : ((85 : Int) == ((((⟨#[110, 114, 116, 97, 98, 102, 118, 34, 39, 92]⟩ : ByteArray)[9]'(by decide)).toNat : Nat) : Int)) = false := by decide
  go_enter Tryd.func6, Tryd.ntmps6
  go_wp2_with fail
  refine wp_loop_rounds 11 ?_
  rw [rounds_succ]
  go_wp2_with fail
  go_quiet (fail)
  go_wp2_with fail
  rw [rounds_succ]
  go_wp2_with fail
  go_quiet (fail)
  go_wp2_with fail
  rw [rounds_succ]
  go_wp2_with fail
  go_quiet (fail)
  go_wp2_with fail
  rw [rounds_succ]
  go_wp2_with fail
  go_quiet (fail)
  go_wp2_with fail
  rw [rounds_succ]
  go_wp2_with fail
  go_quiet (fail)
  go_wp2_with fail
  rw [rounds_succ]
  go_wp2_with fail
  go_quiet (fail)
  go_wp2_with fail
  rw [rounds_succ]
  go_wp2_with fail
  go_quiet (fail)
  go_wp2_with fail
  rw [rounds_succ]
  go_wp2_with fail
  go_quiet (fail)
  go_wp2_with fail
  rw [rounds_succ]
  go_wp2_with fail
  go_quiet (fail)
  go_wp2_with fail
  rw [rounds_succ]
  go_wp2_with fail
  go_quiet (fail)
  go_wp2_with fail
  rw [rounds_succ]
  go_wp2_with fail
  clear e0 e1 e2 e3 e4 e5 e6 e7 e8 e9
  go_loopw [8, 9, 10] (fun nv iv _ wr => ∃ p : Nat, iv = .int .i64 ((p : Nat) : Int) ∧ 2 ≤ p ∧ p ≤ 10 ∧ nv = .int .i64 ((hexv (ds.take (p - 2)) : Nat) : Int) ∧ Hid (Kept w wr)) (fun _ iv _ _ => 10 - (RowKit.intOf iv).toNat)
  case atStart =>
    refine ⟨2, rfl, Nat.le_refl _, by omega, rfl, ?_⟩
    show Kept _ _
    repeat' (first | exact Below.refl _ _ | refine Kept.trans ?_ (kept_drewN _ _))
  case round =>
    obtain ⟨p, rfl, hp2, hp, rfl, hkr⟩ := hrel
    by_cases hlt : p < 10
    · obtain ⟨hi, hix, hd⟩ := HS.out p hp2 (by omega)
      have hst := hexv_step ds (p - 2) (by omega)
      have hsm := HB () (p - 2) (by omega)
      rw [show p - 2 + 1 = p + 1 - 2 by omega] at hst
      obtain ⟨d, hdd⟩ : ∃ d, d = ds[p - 2]'(by omega) := ⟨_, rfl⟩
      rw [← hdd] at hd hst hix
      clear hdd
      have hor := (hexDigit_byte d hd).2.2.2
      have cP := fun (T : ByteArray) (hT : bz T = [Lib.hexDigit d]) (W : World) => place_hex d hd T hT W
      have hyb := hexDigit_byte d hd
      obtain ⟨y, hy⟩ : ∃ y, y = Lib.hexDigit d := ⟨_, rfl⟩
      simp only [← hy] at hor hix cP hyb
      obtain ⟨v, hv⟩ : ∃ v, v = hexv (ds.take (p - 2)) := ⟨_, rfl⟩
      rw [← hv] at hst hsm ⊢
      have hd0 : ¬ (d : Int) < 0 := by omega
      have HST := Lib.hid hst
      have hltI : (p : Int) < 10 := by omega
      have hpI : (p : Int) < (s.size : Int) := by omega
      have hp1 : p + 1 ≤ 10 := by omega
      obtain ⟨hw1, hw2⟩ := wrap_digit v d hsm hd
      have CP := Lib.hid (cP (strOfNums [y]) (bz_nums [y] (by intro z hz; rw [List.mem_singleton] at hz; subst hz; exact ⟨hyb.1, hyb.2.1⟩)))
      clear hv hst hsm hlt hp hy hd cP hyb
      go_wp2_with fail
      have hcv := run_convert_bytes_arg (P := Tryd.prog) (wr.alloc (.cells #[.int .u8 y] 5)) 26 5 Tryd.underlying26 Tryd.underlying5 wr.heap.size 0 1 1 [y] rfl (fun i hi => by
        obtain rfl : i = 0 := by omega
        exact one_cells wr y 0 _ rfl) 9 Tryd.underlying9
      rw [hcv]
      clear hcv
      go_wp2_with fail
      refine (CP.out _).mono ?_
      rintro e w1 ⟨rfl, rfl⟩
      go_wp2_with fail
      rw [hw2]
      clear hw1 hw2 hor hix
      go_roundw
      case rel =>
        refine ⟨p + 1, by go_num, by omega, by omega, ?_, ?_⟩
        · rw [HST.out]
          go_num
        · exact Kept.trans hkr.out ((Below.refl _ _).alloc (Nat.le_refl _) _)
      case measure => simp [RowKit.intOf]; omega
    · obtain rfl : p = 10 := by omega
      have hv : hexv (ds.take (10 - 2)) = hexv ds := by rw [List.take_of_length_le (by omega)]
      rw [hv]
      clear hlt hp hp2 hv
      go_wp2_with fail
      refine (HC.out _).mono ?_
      rintro e w1 ⟨g, cc, rfl, hcc, hkk⟩
      go_wp2_with fail
      go_returns
      exact ⟨g, cc, rfl, hcc, Kept.trans hkr.out hkk⟩
end Go.Proofs.YtmcemcpnhlmbhaaDoor
