import Derived.Test.YtikjdibngkcpkaaPl
namespace Go.Proofs.Ytikjdibngkcpkaa
open Go.ChangeShapes Go.WideShapes Go.ChangeAt Go.RowKit
set_option linter.unusedVariables false
theorem row_src {w : World} {A : Option Addr} {c n : Nat} {z : Int} (hs : Sl w A c (by8 (pbRow z n))) (h : 1 ≤ n) :
    ∃ b off, A = some ⟨b, off, none⟩ ∧ b < w.heap.size ∧ ∀ j, j < n → w.cell? ⟨b, off + j, none⟩ = some (.int .u8 ((pb z (n - 1 - j) : Nat) : Int)) := by
  have hlen := pbRow_len z n
  have hg : ∀ j, j < n → (by8 (pbRow z n))[j]? = some (.int .u8 ((pb z (n - 1 - j) : Nat) : Int)) := fun j hj => by
    unfold by8
    rw [List.getElem?_map, pbRow_get _ _ _ hj]
    rfl
  obtain ⟨b, off, rfl, hc⟩ := hs.at_ (by8_ne (by omega))
  exact ⟨b, off, rfl, block_lt_of_cell (hc 0 _ (hg 0 (by omega))), fun j hj => hc j _ (hg j hj)⟩
/-- the row of the turned digits, i of them laid -/
def tn (z : Int) (n i j : Nat) : Value := if j < i then .int .u8 ((255 - pb z (n - 1 - j) : Nat) : Int) else .int .u8 0
theorem tn_set (z : Int) (n i : Nat) : (fun j => if j = i then Value.int .u8 ((255 - pb z (n - 1 - i) : Nat) : Int) else tn z n i j) = tn z n (i + 1) := by
  funext j
  unfold tn
  by_cases h : j = i
  · subst h
    rw [if_pos rfl, if_pos (by omega)]
  · rw [if_neg h]
    by_cases h2 : j < i
    · rw [if_pos h2, if_pos (by omega)]
    · rw [if_neg h2, if_neg (by omega)]
set_option maxRecDepth 100000 in
set_option maxHeartbeats 2000000 in
theorem back_pos (A : Option Addr) (c m : Nat) (z : Int) (h0 : ¬ z < 0) (hf : Fits m z) (hm : m ≤ 1000000) (w : World) (hs : Sl w A c (by8 (pbRow z (m + 1)))) :
    Calls Try.prog 49 #[.slice A (m + 1) c] w (RetSI w z) := by
  have hk0 : Kept w (w.alloc (.cells #[.bool false, .slice none 0 0] 24)) := by go_grown
  have b2 : Blk (w.alloc (.cells #[.bool false, .slice none 0 0] 24)) w.heap.size 24 #[.bool false, .slice none 0 0] := Blk.new _ _ _
  have HOF := Lib.hid (Of_any false A c (pbRow z (m + 1)) (by rw [pbRow_len]; omega) (pbRow_lt z (m + 1)) _ (hs.below hk0))
  rw [pbRow_pos hf h0, pbRow_len] at HOF
  obtain ⟨b, off, rfl, hbl, hc⟩ := row_src (hs.below hk0) (by omega)
  have c0 := hc 0 (by omega)
  have hp : pb z (m + 1 - 1 - 0) = 0 := by
    have h1 := pbRow_head hf
    rw [pbRow_get z (m + 1) 0 (by omega), if_neg h0] at h1
    injection h1
  rw [hp] at c0
  simp only [Nat.add_zero] at c0
  have l2 := b2.lt
  have n1 : ¬ ((m : Int) + 1 = 0) := by omega
  have n2 : (0 : Int) < (m : Int) + 1 := by omega
  clear hs hc hp
  go_enter Try.func49, Try.ntmps49
  go_wp2_with fail
  generalize (w.alloc (.cells #[.bool false, .slice none 0 0] 24)) = W at *
  refine (HOF.out).mono ?_
  rintro e w3 ⟨v3, rfl, hv3, hk3⟩
  have H := Lib.hid (b2.below hk3)
  have HV3 := Lib.hid hv3
  obtain ⟨b3, A3, n3, c3, rfl⟩ := hv3.two
  have HK3 : Hid (Kept w w3) := Lib.hid (Below.trans hk0 (hk3.mono hk0.size))
  clear hv3 hk3 b2 hk0
  go_wp2_with (refine wpList_store_row rfl 24 (.tmp 2) (.tmp 15) rfl w.heap.size _ rfl rfl 24 _ H.out info_SI rfl (by simp [Value.oneCell']) ?_)
  refine bodyPost_blk (cs := #[.bool b3, .slice A3 n3 c3]) rfl rfl (setRow_heap _ _ _ _ _ _ H.out) Try.underlying24 rfl (by exact info_SI) rfl ?_
  exact ⟨_, rfl, (HV3.out.setRow (by omega) _).mono (by omega), below_setRow HK3.out (by omega) _⟩
set_option maxRecDepth 100000 in
set_option maxHeartbeats 4000000 in
theorem back_neg (A : Option Addr) (c m : Nat) (z : Int) (hz : z.natAbs < Num.Cap) (h0 : z < 0) (hf : Fits m z) (hm : m ≤ 1000000) (w : World) (hs : Sl w A c (by8 (pbRow z (m + 1)))) :
    Calls Try.prog 49 #[.slice A (m + 1) c] w (RetSI w z) := by
  have hk0 : Kept w (w.alloc (.cells #[.bool false, .slice none 0 0] 24)) := by go_grown
  have b2 : Blk (w.alloc (.cells #[.bool false, .slice none 0 0] 24)) w.heap.size 24 #[.bool false, .slice none 0 0] := Blk.new _ _ _
  have hsz := World.size_alloc w (.cells #[.bool false, .slice none 0 0] 24)
  obtain ⟨b, off, rfl, hbl, hc⟩ := row_src (hs.below hk0) (by omega)
  have c0 := hc 0 (by omega)
  have hp : pb z (m + 1 - 1 - 0) = 255 := by
    have h1 := pbRow_head hf
    rw [pbRow_get z (m + 1) 0 (by omega), if_pos h0] at h1
    injection h1
  rw [hp] at c0
  simp only [Nat.add_zero] at c0
  have hmk := run_make_row' (P := Try.prog) 22 5 (.int .u8 0) 1 Try.underlying22 info8 rfl .i64 .i64 (m + 1) (by omega) (by omega) (w.alloc (.cells #[.bool false, .slice none 0 0] 24))
  have eM : ((m + 1 : Nat) : Int) = (m : Int) + 1 := by omega
  rw [eM, hsz] at hmk
  have hr0 : ((w.alloc (.cells #[.bool false, .slice none 0 0] 24)).alloc (.cells (madeCells #[Value.int .u8 0] (m + 1)) 5)).rowIs (w.heap.size + 1) 5 (m + 1) (tn z (m + 1) 0) := by
    rw [← hsz]
    exact (World.rowIs_made _ (.int .u8 0) (m + 1) 5).congr (fun j hj => by unfold tn; rw [if_neg (by omega)])
  have hk2 : Kept (w.alloc (.cells #[.bool false, .slice none 0 0] 24)) ((w.alloc (.cells #[.bool false, .slice none 0 0] 24)).alloc (.cells (madeCells #[Value.int .u8 0] (m + 1)) 5)) := (Below.refl _ _).alloc (Nat.le_refl _) _
  have l2 := b2.lt
  have n1 : ¬ ((m : Int) + 1 = 0) := by omega
  have n2 : (0 : Int) < (m : Int) + 1 := by omega
  have HC := Lib.hid hc
  have HB2 := Lib.hid b2
  have HK0 := Lib.hid hk0
  have HK2 := Lib.hid hk2
  have HR0 := Lib.hid hr0
  clear hs hc hp eM b2 hk0 hk2 hr0
  go_enter Try.func49, Try.ntmps49
  go_wp2_with fail
  generalize (w.alloc (.cells #[.bool false, .slice none 0 0] 24)) = W1 at *
  generalize (W1.alloc (.cells (madeCells #[Value.int .u8 0] (m + 1)) 5)) = W2 at *
  go_loopw [4] (fun iv wr => ∃ i : Nat, iv = .int .i64 i ∧ i ≤ m + 1 ∧ wr.rowIs (w.heap.size + 1) 5 (m + 1) (tn z (m + 1) i) ∧ Kept W1 wr) (fun iv _ => m + 1 - (intOf iv).toNat)
  case atStart => exact ⟨0, rfl, Nat.zero_le _, HR0.out, HK2.out⟩
  case round =>
    obtain ⟨i, rfl, hi, hri, hbr⟩ := hrel
    by_cases hlt : i < m + 1
    · have hcl := hri.cell (i := i) hlt
      have hfr := hri.frozen i
      have hd := pb_lt z (m + 1 - 1 - i)
      have cs := (hbr.cell (p := ⟨b, off + i, none⟩) hbl).trans (HC.out i hlt)
      have hng : tn z (m + 1) i i = .int .u8 0 := by unfold tn; rw [if_neg (by omega)]
      have hset := hri.set i (.int .u8 ((255 - pb z (m + 1 - 1 - i) : Nat) : Int))
      simp only [tn_set] at hset
      rw [hng] at hcl
      have i0 : (0 : Int) ≤ (i : Int) := by omega
      have i1 : (i : Int) < (m : Int) + 1 := by omega
      have HSET := Lib.hid hset
      have HBR : Hid (Kept W1 (wr.setCell ⟨w.heap.size + 1, i, none⟩ (.int .u8 ((255 - pb z (m + 1 - 1 - i) : Nat) : Int)))) := Lib.hid (hbr.setCell (by simp only; omega) _)
      have hxr := Lib.hid (u8_not _ hd)
      clear hset hri hbr hng
      generalize pb z (m + 1 - 1 - i) = d at *
      go_wp2_with fail
      rw [hxr.out]
      exact ⟨⟨i + 1, by go_num, by omega, HSET.out, HBR.out⟩, by simp [intOf]; omega⟩
    · obtain rfl : i = m + 1 := by omega
      have hSl : Sl wr (some ⟨w.heap.size + 1, 0, none⟩) (m + 1) (by8 ((pbRow z (m + 1)).map (fun d => 255 - d))) := Sl_of_row hri (fun j u hu => by
        have hj : j < m + 1 := by
          have := (List.getElem?_eq_some_iff.1 hu).1
          simpa [by8_len, pbRow_len] using this
        unfold by8 at hu
        rw [List.getElem?_map, List.getElem?_map, pbRow_get _ _ _ hj] at hu
        injection hu with hu
        rw [← hu, tn, if_pos hj]) (by simp [by8_len, pbRow_len]) (by unfold maxLen; omega)
      have HOF := Lib.hid (Of_any false _ _ ((pbRow z (m + 1)).map (fun d => 255 - d)) (by simp [pbRow_len]; omega) (fun d hd => by
        obtain ⟨x, _, rfl⟩ := List.mem_map.1 hd
        omega) _ hSl)
      rw [pbRow_neg hf h0, List.length_map, pbRow_len] at HOF
      have HBR := Lib.hid hbr
      have HB := Lib.hid (HB2.out.below hbr)
      have n3 : ¬ ((m : Int) + 1 < (m : Int) + 1) := by omega
      have hzr := hbr.size
      clear hri hbr hSl
      go_wp2_with fail
      refine (HOF.out).mono ?_
      rintro e w3 ⟨v3, rfl, hv3, hk3⟩
      obtain ⟨b3, A3, n4, c3, rfl⟩ := hv3.two
      have HV3 := Lib.hid hv3.toSI
      clear hv3
      have hz3 := hk3.size
      have HK3 := Lib.hid hk3
      clear hk3
      go_wp2_with fail
      refine (sNot_any b3 A3 n4 c3 (-z - 1) (by omega) w3 HV3.out).mono ?_
      rintro e w4 ⟨v4, rfl, hv4, hk4⟩
      have hz4 := hk4.size
      have H := Lib.hid ((HB.out.below HK3.out).below hk4)
      have HV4 := Lib.hid hv4
      obtain ⟨b4, A4, n5, c4, rfl⟩ := hv4.two
      have HK4 : Hid (Kept w w4) := Lib.hid (((HK0.out.trans HBR.out).trans HK3.out).trans hk4)
      clear hv4 hk4
      go_wp2_with (refine wpList_store_row rfl 24 (.tmp 2) (.tmp 35) rfl w.heap.size _ rfl rfl 24 _ H.out info_SI rfl (by simp [Value.oneCell']) ?_)
      refine bodyPost_blk (cs := #[.bool b4, .slice A4 n5 c4]) rfl rfl (setRow_heap _ _ _ _ _ _ H.out) Try.underlying24 rfl (by exact info_SI) rfl ?_
      refine ⟨_, rfl, ?_, below_setRow HK4.out (by omega) _⟩
      have := (HV4.out.setRow (k := w.heap.size) (by omega) #[.bool b4, .slice A4 n5 c4]).mono (B' := w.heap.size) (by omega)
      rwa [show -(-z - 1) - 1 = z by omega] at this
theorem back_any (A : Option Addr) (c m : Nat) (z : Int) (hz : z.natAbs < Num.Cap) (hf : Fits m z) (hm : m ≤ 1000000) (w : World) (hs : Sl w A c (by8 (pbRow z (m + 1)))) :
    Calls Try.prog 49 #[.slice A (m + 1) c] w (RetSI w z) := by
  by_cases h : z < 0
  · exact back_neg A c m z hz h hf hm w hs
  · exact back_pos A c m z h hf hm w hs
end Go.Proofs.Ytikjdibngkcpkaa
