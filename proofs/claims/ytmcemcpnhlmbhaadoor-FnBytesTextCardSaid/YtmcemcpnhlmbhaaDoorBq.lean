/- syntax.Quote(s, true) walked: what it writes. -/
import Derived.Test.YtmcemcpnhlmbhaaDoorBh
import Derived.Shelf.Strconv.Quote
import Derived.Shelf.Strconv.Quoted
import Derived.Lib.QuoteHex
import Derived.Lib.QuoteBits
import Derived.LoopN
open Go.Lib
namespace Go.Proofs.YtmcemcpnhlmbhaaDoor
open Go.ChangeShapes Go.WideShapes Go.ChangeAt Go.RowKit
set_option linter.unusedVariables false
set_option linter.unusedSimpArgs false in
set_option maxHeartbeats 8000000 in
set_option maxRecDepth 1000000 in
/-- syntax.Quote(s, true): a b, a quote, what quoting writes, a quote -/
theorem Quote_any (T : Lib.PrintTabs) (s : ByteArray) (w0 : World) (hlen : 10 * s.size + 40 ≤ 140737488355328)
    (hT : Lib.PrintTabsAt 0 1 2 3 T w0) (hU : Lib.Utf8Tabs 4 5 w0) :
    Calls Tryd.prog 11 #[.string s, .bool true] w0 fun e w' => e = .returned (.string (strOfNums (98 :: 34 :: (Lib.quoteFrom T s.size s ++ [34])))) ∧ Kept w0 w' := by
  obtain ⟨i0, hi, hz0, hz1, hz2⟩ := info_parts (show (Tryd.prog.info? 5).map (fun i => (i.zero, i.size, i.bytes)) = some (some (.int .u8 0), 1, 1) by kernel_rfl)
  obtain ⟨c, hc⟩ : ∃ c, c = 3 * s.size / 2 := ⟨_, rfl⟩
  have hcI : 3 * (s.size : Int) / 2 = (c : Int) := by omega
  have hc1 : s.size ≤ c := by omega
  have hc2 : c ≤ 140737488355328 := by omega
  have hcw : wrap64 (3 * (s.size : Int)) = 3 * (s.size : Int) := by unfold wrap64; omega
  have Hc : Hid (c = 3 * s.size / 2) := hc
  clear hc
  obtain ⟨B, hB⟩ : ∃ B, B = w0.heap.size + 1 := ⟨_, rfl⟩
  have HB : Hid (B = w0.heap.size + 1) := hB
  have HT : Hid (Lib.PrintTabsAt 0 1 2 3 T w0) := hT
  have HU : Hid (Lib.Utf8Tabs 4 5 w0) := hU
  clear hT hU hB
  go_enter Tryd.func11, Tryd.ntmps11
  go_wp2_with (first
    | (at_make; refine wpList_make_own _ rfl _ _ 26 rfl B 5 i0 (.int .u8 0) 1 Tryd.underlying26 hi hz0 hz1 _ _ _ c rfl rfl (by first | rfl | assumption) (by rw [hz2]; omega) (by unfold maxLen; omega) (by rw [HB.out]; simp) ?_
       intro w1 hown hg
       have hq0 := Lib.hid (QB.start (by rw [← HB.out]; exact hown) hg)
       have hb : Lib.OwnBuf B 5 (.slice (some ⟨w0.heap.size + 1, 0, none⟩) 0 c) 0 [] w1 w1 := by
         rw [HB.out]
         simpa [Lib.intCells] using hq0.out.own
       clear hown hg)
    | (at_builtin; first
      | (refine Lib.wpList_append_byte rfl _ _ 26 rfl B 5 i0 Tryd.underlying26 hi hz0 hz1 hz2 _ _ _ rfl w1 _ _ (by assumption) rfl (by first | omega | (simp only [Lib.size_two]; omega)) ?_; intro _ _ hb)
      | (refine Lib.wpList_append_text rfl _ _ 26 9 rfl B 5 i0 Tryd.underlying26 Tryd.underlying9 hi hz0 hz1 hz2 _ _ _ rfl w1 (by assumption) _ rfl (by first | omega | (simp only [Lib.size_two]; omega)) ?_; intro _ _ hb)))
  have hqs := Lib.hid (QB.step (l' := [98, 34]) hq0.out (by rw [← HB.out]; exact hb) rfl (by simp [Lib.intCells]))
  clear hq0 hb
  rename_i wq _
  clear hcI hcw hc1 hc2
  go_loopw [0, 6, 7, 8, 9, 10, 11] (fun vs vb _ _ _ _ _ wr => ∃ (rest : ByteArray) (acc : List Int) (f : Nat), vs = .string rest ∧ rest.size ≤ f ∧ Hid (QB w0 vb (98 :: 34 :: acc) wr) ∧ Hid (acc ++ Lib.quoteFrom T f rest = Lib.quoteFrom T s.size s) ∧ acc.length + 10 * rest.size ≤ 10 * s.size)
    (fun vs _ _ _ _ _ _ _ => match vs with | .string r => r.size | _ => 0)
  case atStart => exact ⟨s, [], s.size, rfl, Nat.le_refl _, hqs, rfl, by simp⟩
  case round =>
    clear hqs
    obtain ⟨rest, acc, f, rfl, hf, hbr, hq, hl⟩ := hrel
    have hlenA : 2 + acc.length + 12 ≤ 140737488355328 := by omega
    obtain ⟨cs, hcs⟩ : ∃ cs, cs = Lib.intCells (98 :: 34 :: acc) := ⟨_, rfl⟩
    have hsz : ∀ K, (rest.extract K rest.size).size = rest.size - K := Lib.size_rest rest
    have hb := hbr.out.own
    rw [← HB.out, ← hcs, show (98 :: 34 :: acc : List Int).length = 2 + acc.length by simp only [List.length_cons]; omega] at hb
    have HC : Hid (cs = Lib.intCells (98 :: 34 :: acc)) := hcs
    clear hcs
    by_cases h0 : 0 < rest.size
    · have h0' : (0 : Int) < (rest.size : Int) := by omega
      have h1' : (1 : Int) ≤ (rest.size : Int) := by omega
      obtain ⟨R, hR⟩ : ∃ R, R = (Utf8.decode rest 0).1 := ⟨_, rfl⟩
      obtain ⟨K, hK⟩ : ∃ K, K = (Utf8.decode rest 0).2 := ⟨_, rfl⟩
      have hx255 := UInt8.toNat_lt (rest[0]'h0)
      by_cases hx : (rest[0]'h0).toNat < 128
      · have hd := decode_ascii rest h0 hx
        rw [hd] at hR hK
        subst hK
        have hst : Lib.quoteStep T rest = Lib.escRune T (R : Int) := by
          rw [hR]
          have := Lib.quoteStep_good T rest (by rw [hd]; intro e; omega)
          rwa [hd] at this
        have HK : Hid (1 = (Utf8.decode rest 0).2) := by rw [hd]; rfl
        have hx0 : (((rest[0]'h0).toNat : Nat) : Int) = (R : Int) := by rw [hR]
        have hR128 : R < 128 := by omega
        clear hR hd hx hx255
        have hszK := hsz 1
        clear hsz
        have hn128 : ¬ (128 : Int) ≤ (R : Int) := by omega
        have hnbad : ¬ (R : Int) = 65533 := by omega
        have hwr : IntKind.i32.wrap (R : Int) = (R : Int) := wrap_i32_small (by omega) (by omega)
        have hwb : IntKind.u8.wrap (R : Int) = (R : Int) := wrap_u8_small (by omega) (by omega)
        have cP : Calls Tryd.prog 14 #[.int .i32 (R : Int)] wr fun e w' => e = .returned (.bool (Lib.isPrintLatin (R : Int))) ∧ w' = wr := Tryd.strconv_IsPrint_latin (R : Int) wr (by omega)
        by_cases hqu : R = 34 ∨ R = 92
        · have hst2 : Lib.escRune T (R : Int) = [92, (R : Int)] := by simp only [Lib.escRune]; rw [if_pos (by omega)]
          rw [hst2] at hst
          replace hst : Unit → _ := fun _ => hst
          clear hst2 cP
          rcases hqu with rfl | rfl
          all_goals (
            go_big_wp2_with (at_builtin; first
                | (refine Lib.wpList_append_byte rfl _ _ 26 rfl B 5 i0 Tryd.underlying26 hi hz0 hz1 hz2 _ _ _ rfl wr _ _ (by assumption) rfl (by first | omega | (simp only [Lib.size_two]; omega)) ?_; intro _ _ hb)
                | (refine Lib.wpList_append_text rfl _ _ 26 9 rfl B 5 i0 Tryd.underlying26 Tryd.underlying9 hi hz0 hz1 hz2 _ _ _ rfl wr (by assumption) _ rfl (by first | omega | (simp only [Lib.size_two]; omega)) ?_; intro _ _ hb))
            go_roundw
            case rel =>
              refine ⟨_, acc ++ Lib.quoteStep T rest, f - 1, rfl, by omega, ?_, ?_, ?_⟩
              · show QB w0 _ _ _
                refine QB.step (Hid.out hbr) (by rw [← HB.out]; exact hb) ?_ ?_
                · rw [hst ()]
                  simp [Lib.size_two, Lib.hexDigits, Nat.add_assoc]
                  try omega
                · rw [hst (), HC.out]
                  simp [Lib.intCells, Lib.runeCells, Lib.strCells, Lib.size_two, Lib.lowerhex_at, Lib.hexDigits, List.append_assoc]
              · show acc ++ Lib.quoteStep T rest ++ Lib.quoteFrom T (f - 1) (rest.extract 1 rest.size) = _
                rw [← hq.out, Lib.quoteFrom_step T f rest h0 hf, ← HK.out, List.append_assoc]
              · have := Lib.quoteStep_length_le T rest
                simp only [List.length_append]; omega
            case measure => simp only []; omega)
        by_cases hpr : 32 ≤ R ∧ R ≤ 126
        · have hst2 : Lib.escRune T (R : Int) = Lib.encodeRuneZ (R : Int) := by simp only [Lib.escRune]; rw [if_neg (by omega), if_pos ((latin_iff (R : Int) (by omega) (by omega) T).2 (by omega))]
          rw [hst2] at hst
          replace hst : Unit → _ := fun _ => hst
          have hlat : Lib.isPrintLatin (R : Int) = true := by simp only [Lib.isPrintLatin, Bool.or_eq_true, Bool.and_eq_true, decide_eq_true_eq]; omega
          rw [hlat] at cP
          clear hst2 hlat
          have hnq : ¬ (R : Int) = 34 := by omega
          have hnb : ¬ (R : Int) = 92 := by omega

          go_big_wp2_with fail
          refine cP.mono ?_
          rintro e w1 ⟨rfl, rfl⟩
          go_big_wp2_with fail
          have cE := QB.encode (Hid.out hbr) (R : Int) (by omega) (by omega)
          have h4 := Lib.encodeRuneZ_length_le (R : Int)
          obtain ⟨ys, hys⟩ : ∃ ys, ys = Lib.encodeRuneZ (R : Int) := ⟨_, rfl⟩
          rw [← hys] at cE h4
          simp only [← hys] at hst
          clear hys
          have h4' : ((ys.length : Nat) : Int) ≤ 4 := by omega
          refine cE.mono ?_
          rintro e w3 ⟨rfl, hq3, hcell⟩
          clear cE
          have hb := hq3.own
          rw [← HB.out, ← HC.out, show (98 :: 34 :: acc : List Int).length = 2 + acc.length by simp only [List.length_cons]; omega] at hb
          have hq3 := Lib.hid hq3
          go_big_wp2_with (at_builtin; refine wpList_append_part rfl _ _ 26 rfl B 5 i0 Tryd.underlying26 hi hz0 hz1 hz2 _ _ _ rfl w3 (by assumption) w0.heap.size _ 4 ys rfl rfl hcell (by omega) ?_; intro _ _ hb)
          go_roundw
          case rel =>
            refine ⟨_, acc ++ Lib.quoteStep T rest, f - 1, rfl, by omega, ?_, ?_, ?_⟩
            · show QB w0 _ _ _
              refine QB.step (Hid.out hq3) (by rw [← HB.out]; exact hb) ?_ ?_
              · rw [hst ()]
                simp [Lib.size_two, Lib.hexDigits, Nat.add_assoc]
                try omega
              · rw [hst (), HC.out]
                simp [Lib.intCells, Lib.runeCells, Lib.strCells, Lib.size_two, Lib.lowerhex_at, Lib.hexDigits, List.append_assoc]
            · show acc ++ Lib.quoteStep T rest ++ Lib.quoteFrom T (f - 1) (rest.extract 1 rest.size) = _
              rw [← hq.out, Lib.quoteFrom_step T f rest h0 hf, ← HK.out, List.append_assoc]
            · have := Lib.quoteStep_length_le T rest
              simp only [List.length_append]; omega
          case measure => simp only []; omega
        by_cases hna : R = 7 ∨ R = 8 ∨ R = 12 ∨ R = 10 ∨ R = 13 ∨ R = 9 ∨ R = 11
        · replace hst : Unit → _ := fun _ => hst
          have hlat : Lib.isPrintLatin (R : Int) = false := by rcases hna with rfl | rfl | rfl | rfl | rfl | rfl | rfl <;> rfl
          rw [hlat] at cP
          clear hlat
          have hnq : ¬ (R : Int) = 34 := by omega
          have hnb : ¬ (R : Int) = 92 := by omega
          go_big_wp2_with fail
          refine cP.mono ?_
          rintro e w1 ⟨rfl, rfl⟩
          clear hn128 hnbad hnq hnb hx0 hwr hwb cP hqu hpr
          rcases hna with rfl | rfl | rfl | rfl | rfl | rfl | rfl
          all_goals (
            go_big_wp2_with (at_builtin; first
                | (refine Lib.wpList_append_byte rfl _ _ 26 rfl B 5 i0 Tryd.underlying26 hi hz0 hz1 hz2 _ _ _ rfl w1 _ _ (by assumption) rfl (by first | omega | (simp only [Lib.size_two]; omega)) ?_; intro _ _ hb)
                | (refine Lib.wpList_append_text rfl _ _ 26 9 rfl B 5 i0 Tryd.underlying26 Tryd.underlying9 hi hz0 hz1 hz2 _ _ _ rfl w1 (by assumption) _ rfl (by first | omega | (simp only [Lib.size_two]; omega)) ?_; intro _ _ hb))
            go_roundw
            case rel =>
              refine ⟨_, acc ++ Lib.quoteStep T rest, f - 1, rfl, by omega, ?_, ?_, ?_⟩
              · show QB w0 _ _ _
                refine QB.step (Hid.out hbr) (by rw [← HB.out]; exact hb) ?_ ?_
                · rw [hst ()]
                  simp [Lib.size_two, Lib.escRune, Lib.isPrintR, Lib.isPrintLatin, ByteArray.size, Lib.hexDigits, Nat.add_assoc]
                  try omega
                · rw [hst (), HC.out]
                  simp [Lib.intCells, Lib.runeCells, Lib.strCells, Lib.size_two, Lib.lowerhex_at, Lib.hexDigits, List.append_assoc, Lib.escRune, Lib.isPrintR, Lib.isPrintLatin, ByteArray.size]
              · show acc ++ Lib.quoteStep T rest ++ Lib.quoteFrom T (f - 1) (rest.extract 1 rest.size) = _
                rw [← hq.out, Lib.quoteFrom_step T f rest h0 hf, ← HK.out, List.append_assoc]
              · have := Lib.quoteStep_length_le T rest
                simp only [List.length_append]; omega
            case measure => simp only []; omega)
        have b7 : ¬ (R : Int) = 7 := by omega
        have b8 : ¬ (R : Int) = 8 := by omega
        have b12 : ¬ (R : Int) = 12 := by omega
        have b10 : ¬ (R : Int) = 10 := by omega
        have b13 : ¬ (R : Int) = 13 := by omega
        have b9 : ¬ (R : Int) = 9 := by omega
        have b11 : ¬ (R : Int) = 11 := by omega
        have hnq : ¬ (R : Int) = 34 := by omega
        have hnb : ¬ (R : Int) = 92 := by omega

        have hx3 : (R : Int) < 32 ∨ (R : Int) = 127 := by omega
        have hlat : Lib.isPrintLatin (R : Int) = false := by
          simp only [Lib.isPrintLatin, Bool.or_eq_false_iff, Bool.and_eq_false_iff, decide_eq_false_iff_not]; omega
        rw [hlat] at cP
        have hst2 : Lib.escRune T (R : Int) = [92, 120, Lib.hexDigit (R / 16), Lib.hexDigit (R % 16)] := by
          have a1 : ¬ ((R : Int) = 34 ∨ (R : Int) = 92) := by omega
          have a2 : ¬ Lib.isPrintR T (R : Int) = true := fun h => by
            have := (latin_iff (R : Int) (by omega) (by omega) T).1 h
            omega
          simp only [Lib.escRune, if_neg a1, if_neg a2, if_neg b7, if_neg b8, if_neg b12, if_neg b10, if_neg b13, if_neg b9, if_neg b11, if_pos hx3, Int.toNat_natCast]
        rw [hst2] at hst
        replace hst : Unit → _ := fun _ => hst
        clear hst2 hlat
        have hx16 : (R : Int) / 16 < 16 := by omega
        have hx17 : (0 : Int) ≤ (R : Int) / 16 := by omega
        go_big_wp2_with fail
        refine cP.mono ?_
        rintro e w1 ⟨rfl, rfl⟩
        go_big_wp2_with (at_builtin; first
              | (refine Lib.wpList_append_byte rfl _ _ 26 rfl B 5 i0 Tryd.underlying26 hi hz0 hz1 hz2 _ _ _ rfl w1 _ _ (by assumption) rfl (by first | omega | (simp only [Lib.size_two]; omega)) ?_; intro _ _ hb)
              | (refine Lib.wpList_append_text rfl _ _ 26 9 rfl B 5 i0 Tryd.underlying26 Tryd.underlying9 hi hz0 hz1 hz2 _ _ _ rfl w1 (by assumption) _ rfl (by first | omega | (simp only [Lib.size_two]; omega)) ?_; intro _ _ hb))
        all_goals (
          go_roundw
          case rel =>
            refine ⟨_, acc ++ Lib.quoteStep T rest, f - 1, rfl, by omega, ?_, ?_, ?_⟩
            · show QB w0 _ _ _
              refine QB.step (Hid.out hbr) (by rw [← HB.out]; exact hb) ?_ ?_
              · rw [hst ()]
                simp [Lib.size_two, Lib.hexDigits, Nat.add_assoc]
                try omega
              · rw [hst (), HC.out]
                simp [Lib.intCells, Lib.runeCells, Lib.strCells, Lib.size_two, Lib.lowerhex_at, Lib.hexDigits, List.append_assoc]
            · show acc ++ Lib.quoteStep T rest ++ Lib.quoteFrom T (f - 1) (rest.extract 1 rest.size) = _
              rw [← hq.out, Lib.quoteFrom_step T f rest h0 hf, ← HK.out, List.append_assoc]
            · have := Lib.quoteStep_length_le T rest
              simp only [List.length_append]; omega
          case measure => simp only []; omega)
      · have hx128 : (128 : Int) ≤ (((rest[0]'h0).toNat : Nat) : Int) := by omega
        have hwx : IntKind.i32.wrap (((rest[0]'h0).toNat : Nat) : Int) = (((rest[0]'h0).toNat : Nat) : Int) := wrap_i32_small (by omega) (by omega)
        have hK1 : 1 ≤ K := by rw [hK]; exact Lib.width_pos _ _
        have hK2 : K ≤ rest.size := by rw [hK]; exact Lib.width_le _ h0
        have hK2' : (K : Int) ≤ (rest.size : Int) := by omega
        have hRv : Lib.validRune (R : Int) = true := by rw [hR]; exact Lib.rune_valid _
        have hR31 : R < 2147483648 := by
          have := hRv
          simp [Lib.validRune] at this
          omega
        have hhi : ¬ (K = 1 ∧ R = 65533) → 128 ≤ R ∧ Lib.quoteStep T rest = Lib.escRune T (R : Int) := fun hb => by
          have h := enc_dec rest h0 (by rw [← hK, ← hR]; exact hb)
          rw [← hK, ← hR, get_bang rest 0 h0] at h
          exact ⟨by omega, by rw [hR]; exact Lib.quoteStep_good T rest (by rw [← hK, ← hR]; exact hb)⟩
        have hwide : ¬ (K = 1 ∧ R = 65533) → K ≠ 1 := fun hb => by
          have h := decode_wide rest h0 hx (by rw [← hK, ← hR]; exact hb)
          rwa [← hK] at h
        obtain ⟨r, hr⟩ : ∃ r : Int, r = (R : Int) := ⟨_, rfl⟩
        have cD : Calls Tryd.prog 13 #[.string rest] wr fun e w' => e = .returned (.tuple #[.int .i32 r, .int .i64 K]) ∧ Below wr.heap.size wr w' := by
          have e : Lib.decodeGo rest = (R, K) := by
            have hne : ¬ rest.size = 0 := by omega
            rw [hR, hK]; simp [Lib.decodeGo, hne]
          have := Tryd.utf8_DecodeRuneInString rest wr (Utf8Tabs_below HU.out hbr.out.kept)
          rw [e] at this
          rw [hr]
          exact this
        have HR : Hid (R = (Utf8.decode rest 0).1) := hR
        have HK : Hid (K = (Utf8.decode rest 0).2) := hK
        clear hR hK
        have Hr := Lib.hid hr
        have hszK := hsz K
        clear hsz hb
        go_big_wp2_with fail
        refine cD.mono ?_
        rintro e w1 ⟨rfl, hbl⟩
        have hq1 := Lib.hid (hbr.out.below hbl)
        have hb := hq1.out.own
        rw [← HB.out, ← HC.out, show (98 :: 34 :: acc : List Int).length = 2 + acc.length by simp only [List.length_cons]; omega] at hb
        have HT1 := Lib.hid (printTabs_below HT.out hq1.out.kept)
        clear cD hbr
        by_cases hbad : K = 1 ∧ R = 65533
        · obtain ⟨rfl, rfl⟩ := hbad
          have er : r = 65533 := by rw [hr]; rfl
          clear hr Hr
          subst er
          have hst := fun (_ : Unit) => Lib.quoteStep_bad T rest h0 HK.out HR.out
          have hx16 : 0 ≤ (((rest[0]'h0).toNat : Nat) : Int) / 16 ∧ (((rest[0]'h0).toNat : Nat) : Int) / 16 < 16 := by omega
          go_big_wp2_with (at_builtin; first
                | (refine Lib.wpList_append_byte rfl _ _ 26 rfl B 5 i0 Tryd.underlying26 hi hz0 hz1 hz2 _ _ _ rfl w1 _ _ (by assumption) rfl (by first | omega | (simp only [Lib.size_two]; omega)) ?_; intro _ _ hb)
                | (refine Lib.wpList_append_text rfl _ _ 26 9 rfl B 5 i0 Tryd.underlying26 Tryd.underlying9 hi hz0 hz1 hz2 _ _ _ rfl w1 (by assumption) _ rfl (by first | omega | (simp only [Lib.size_two]; omega)) ?_; intro _ _ hb))
          go_roundw
          case rel =>
            refine ⟨_, acc ++ Lib.quoteStep T rest, f - 1, rfl, by omega, ?_, ?_, ?_⟩
            · show QB w0 _ _ _
              refine QB.step (Hid.out hq1) (by rw [← HB.out]; exact hb) ?_ ?_
              · rw [hst ()]
                simp [Lib.size_two, Lib.hexDigits, Nat.add_assoc]
                try omega
              · rw [hst (), HC.out]
                simp [Lib.intCells, Lib.runeCells, Lib.strCells, Lib.size_two, Lib.lowerhex_at, Lib.hexDigits, List.append_assoc]
            · show acc ++ Lib.quoteStep T rest ++ Lib.quoteFrom T (f - 1) (rest.extract 1 rest.size) = _
              rw [← hq.out, Lib.quoteFrom_step T f rest h0 hf, ← HK.out, List.append_assoc]
            · have := Lib.quoteStep_length_le T rest
              simp only [List.length_append]; omega
          case measure => simp only []; omega
        obtain ⟨hR128, hst⟩ := hhi hbad
        have hKne := hwide hbad
        rw [← hr] at hst hRv
        have hr128 : 128 ≤ r := by omega
        clear hhi hwide
        have cP : Calls Tryd.prog 14 #[.int .i32 r] w1 fun e w' => e = .returned (.bool (Lib.isPrintR T r)) ∧ Kept w1 w' :=
          (Tryd.strconv_IsPrint T r w1 (by omega) (by omega) HT1.out).mono fun e w' ⟨h1, q, h2⟩ => ⟨h1, h2 ▸ kept_drewN w1 q⟩
        clear HT1
        have hnq : ¬ r = 34 := by omega
        have hnb : ¬ r = 92 := by omega
        have hRi : r ≤ 2147483647 := by omega
        have hnK : ¬ (K : Int) = 1 := by omega
        clear hbad hKne hr hR31 hR128
        obtain ⟨p, hp⟩ : ∃ p, p = Lib.isPrintR T r := ⟨_, rfl⟩
        rw [← hp] at cP
        have Hp : Unit → p = Lib.isPrintR T r := fun _ => hp
        have HRv : Unit → Lib.validRune r = true := fun _ => hRv
        clear hp hRv
        go_big_wp2_with fail
        refine cP.mono ?_
        rintro e w2 ⟨rfl, hk2⟩
        have hq2 := Lib.hid (hq1.out.below hk2)
        clear cP
        cases p
        · have hb := hq2.out.own
          rw [← HB.out, ← HC.out, show (98 :: 34 :: acc : List Int).length = 2 + acc.length by simp only [List.length_cons]; omega] at hb
          have hn32 : ¬ r < 32 := by omega
          have hn127 : ¬ r = 127 := by omega
          have hnmax : ¬ (1114111 : Int) < r := by
            have := (HRv ())
            simp [Lib.validRune] at this
            omega
          have b7 : ¬ r = 7 := by omega
          have b8 : ¬ r = 8 := by omega
          have b12 : ¬ r = 12 := by omega
          have b10 : ¬ r = 10 := by omega
          have b13 : ¬ r = 13 := by omega
          have b9 : ¬ r = 9 := by omega
          have b11 : ¬ r = 11 := by omega
          by_cases hlt : r < 65536
          · have hst2 : Lib.escRune T r = 92 :: 117 :: Lib.hexDigits R 4 := by
              have a1 : ¬ (r = 34 ∨ r = 92) := by omega
              have bx : ¬ (r < 32 ∨ r = 127) := by omega
              have bv : ¬ Lib.validRune r = false := by rw [(HRv ())]; decide
              have hpr : ¬ Lib.isPrintR T r = true := by rw [← (Hp ())]; decide
              simp only [Lib.escRune, if_neg a1, if_neg hpr, if_neg b7, if_neg b8, if_neg b12, if_neg b10, if_neg b13, if_neg b9, if_neg b11, if_neg bx, if_neg bv, if_pos hlt, show r.toNat = R from by rw [Hr.out]; simp]
            rw [hst2] at hst
            replace hst : Unit → _ := fun _ => hst
            clear hst2
            go_big_wp2_with (at_builtin; first
                  | (refine Lib.wpList_append_byte rfl _ _ 26 rfl B 5 i0 Tryd.underlying26 hi hz0 hz1 hz2 _ _ _ rfl w2 _ _ (by assumption) rfl (by first | omega | (simp only [Lib.size_two]; omega)) ?_; intro _ _ hb)
                  | (refine Lib.wpList_append_text rfl _ _ 26 9 rfl B 5 i0 Tryd.underlying26 Tryd.underlying9 hi hz0 hz1 hz2 _ _ _ rfl w2 (by assumption) _ rfl (by first | omega | (simp only [Lib.size_two]; omega)) ?_; intro _ _ hb))

            clear b7 b8 b9 b10 b11 b12 b13 hn32 hn127 hnmax hlt
            refine hex4_any _ B _ R r _ _ w2 _ _ _ _ _ _ _ _ _ _ _ _ _ _ _ _ _ _ _ _ _ _ _ _ _ _ _ _ _ _ _ _ _ _ _ _ _ _ _ _ _ _ _ _ _ _ _ _ _ _ _ _ _ _ _ _ _ _ _ _ _ _ _ _ _ _ _ _ _ _ _ _ _ _ _ _ _ _ _ _ _ _ _ _ _ _ _ _ _ _ _ _ _ _ _ _ _ _ _ _ _ _ _ _ _ _ _ _ _ _ _ _ _ _ _ _ _ _ _ _ _ _ _ _ _ _ _ _ _ _ _ _ _ _ _ _ _ _ _ _ _ _ _ _ _ _ _ _ _ _ _ _ _ _ _ _ _ _ _ _ _ _ _ _ _ _ _ _ _ _ _ _ _ _ _ _  hb (by first | omega | (simp only [Lib.size_two]; omega)) Hr.out hRi ?_
            intro v9 w9 u300 u301 u302 u303 u304 u305 u306 u307 u308 u309 u310 u311 u312 hb
            go_big_wp2
            go_roundw
            case rel =>
              refine ⟨_, acc ++ Lib.quoteStep T rest, f - 1, rfl, by omega, ?_, ?_, ?_⟩
              · show QB w0 _ _ _
                refine QB.step (Hid.out hq2) (by rw [← HB.out]; exact hb) ?_ ?_
                · rw [hst ()]
                  simp [Lib.size_two, Lib.hexDigits, Nat.add_assoc]
                  try omega
                · rw [hst (), HC.out]
                  simp [Lib.intCells, Lib.runeCells, Lib.strCells, Lib.size_two, Lib.lowerhex_at, Lib.hexDigits, List.append_assoc]
              · show acc ++ Lib.quoteStep T rest ++ Lib.quoteFrom T (f - 1) (rest.extract K rest.size) = _
                rw [← hq.out, Lib.quoteFrom_step T f rest h0 hf, ← HK.out, List.append_assoc]
              · have := Lib.quoteStep_length_le T rest
                simp only [List.length_append]; omega
            case measure => simp only []; omega
          have hst2 : Lib.escRune T r = 92 :: 85 :: Lib.hexDigits R 8 := by
            have a1 : ¬ (r = 34 ∨ r = 92) := by omega
            have bx : ¬ (r < 32 ∨ r = 127) := by omega
            have bv : ¬ Lib.validRune r = false := by rw [(HRv ())]; decide
            have hpr : ¬ Lib.isPrintR T r = true := by rw [← (Hp ())]; decide
            simp only [Lib.escRune, if_neg a1, if_neg hpr, if_neg b7, if_neg b8, if_neg b12, if_neg b10, if_neg b13, if_neg b9, if_neg b11, if_neg bx, if_neg bv, if_neg hlt, show r.toNat = R from by rw [Hr.out]; simp]
          rw [hst2] at hst
          replace hst : Unit → _ := fun _ => hst
          clear hst2
          go_big_wp2_with (at_builtin; first
                | (refine Lib.wpList_append_byte rfl _ _ 26 rfl B 5 i0 Tryd.underlying26 hi hz0 hz1 hz2 _ _ _ rfl w2 _ _ (by assumption) rfl (by first | omega | (simp only [Lib.size_two]; omega)) ?_; intro _ _ hb)
                | (refine Lib.wpList_append_text rfl _ _ 26 9 rfl B 5 i0 Tryd.underlying26 Tryd.underlying9 hi hz0 hz1 hz2 _ _ _ rfl w2 (by assumption) _ rfl (by first | omega | (simp only [Lib.size_two]; omega)) ?_; intro _ _ hb))

          clear b7 b8 b9 b10 b11 b12 b13 hn32 hn127 hnmax hlt
          refine hex8_any _ B _ R r _ _ w2 _ _ _ _ _ _ _ _ _ _ _ _ _ _ _ _ _ _ _ _ _ _ _ _ _ _ _ _ _ _ _ _ _ _ _ _ _ _ _ _ _ _ _ _ _ _ _ _ _ _ _ _ _ _ _ _ _ _ _ _ _ _ _ _ _ _ _ _ _ _ _ _ _ _ _ _ _ _ _ _ _ _ _ _ _ _ _ _ _ _ _ _ _ _ _ _ _ _ _ _ _ _ _ _ _ _ _ _ _ _ _ _ _ _ _ _ _ _ _ _ _ _ _ _ _ _ _ _ _ _ _ _ _ _ _ _ _ _ _ _ _ _ _ _ _ _ _ _ _ _ _ _ _ _ _ _ _ _ _ _ _ _ _ _ _ _ _ _ _ _ _ _ _ _ _ _  hb (by first | omega | (simp only [Lib.size_two]; omega)) Hr.out hRi ?_
          intro v9 w9 u300 u301 u302 u303 u304 u305 u306 u307 u308 u309 u310 u311 u312 hb
          go_big_wp2
          go_roundw
          case rel =>
            refine ⟨_, acc ++ Lib.quoteStep T rest, f - 1, rfl, by omega, ?_, ?_, ?_⟩
            · show QB w0 _ _ _
              refine QB.step (Hid.out hq2) (by rw [← HB.out]; exact hb) ?_ ?_
              · rw [hst ()]
                simp [Lib.size_two, Lib.hexDigits, Nat.add_assoc]
                try omega
              · rw [hst (), HC.out]
                simp [Lib.intCells, Lib.runeCells, Lib.strCells, Lib.size_two, Lib.lowerhex_at, Lib.hexDigits, List.append_assoc]
            · show acc ++ Lib.quoteStep T rest ++ Lib.quoteFrom T (f - 1) (rest.extract K rest.size) = _
              rw [← hq.out, Lib.quoteFrom_step T f rest h0 hf, ← HK.out, List.append_assoc]
            · have := Lib.quoteStep_length_le T rest
              simp only [List.length_append]; omega
          case measure => simp only []; omega
        · have hst2 : Lib.escRune T r = Lib.encodeRuneZ r := by simp only [Lib.escRune]; rw [if_neg (by omega), if_pos (Hp ()).symm]
          rw [hst2] at hst
          replace hst : Unit → _ := fun _ => hst
          clear hst2

          go_big_wp2_with fail
          have cE := QB.encode (Hid.out hq2) r (by omega) hRi
          have h4 := Lib.encodeRuneZ_length_le r
          obtain ⟨ys, hys⟩ : ∃ ys, ys = Lib.encodeRuneZ r := ⟨_, rfl⟩
          rw [← hys] at cE h4
          simp only [← hys] at hst
          clear hys
          have h4' : ((ys.length : Nat) : Int) ≤ 4 := by omega
          refine cE.mono ?_
          rintro e w3 ⟨rfl, hq3, hcell⟩
          clear cE
          have hb := hq3.own
          rw [← HB.out, ← HC.out, show (98 :: 34 :: acc : List Int).length = 2 + acc.length by simp only [List.length_cons]; omega] at hb
          have hq3 := Lib.hid hq3
          go_big_wp2_with (at_builtin; refine wpList_append_part rfl _ _ 26 rfl B 5 i0 Tryd.underlying26 hi hz0 hz1 hz2 _ _ _ rfl w3 (by assumption) w0.heap.size _ 4 ys rfl rfl hcell (by omega) ?_; intro _ _ hb)
          go_roundw
          case rel =>
            refine ⟨_, acc ++ Lib.quoteStep T rest, f - 1, rfl, by omega, ?_, ?_, ?_⟩
            · show QB w0 _ _ _
              refine QB.step (Hid.out hq3) (by rw [← HB.out]; exact hb) ?_ ?_
              · rw [hst ()]
                simp [Lib.size_two, Lib.hexDigits, Nat.add_assoc]
                try omega
              · rw [hst (), HC.out]
                simp [Lib.intCells, Lib.runeCells, Lib.strCells, Lib.size_two, Lib.lowerhex_at, Lib.hexDigits, List.append_assoc]
            · show acc ++ Lib.quoteStep T rest ++ Lib.quoteFrom T (f - 1) (rest.extract K rest.size) = _
              rw [← hq.out, Lib.quoteFrom_step T f rest h0 hf, ← HK.out, List.append_assoc]
            · have := Lib.quoteStep_length_le T rest
              simp only [List.length_append]; omega
          case measure => simp only []; omega
    · have h0' : ¬ (0 : Int) < (rest.size : Int) := by omega
      have hqe : Hid (Lib.quoteFrom T s.size s = acc) := by
        have := hq.out
        rw [Lib.quoteFrom_end T f rest h0] at this
        simpa [Hid] using this.symm
      go_big_wp2_with (at_builtin; first
            | (refine Lib.wpList_append_byte rfl _ _ 26 rfl B 5 i0 Tryd.underlying26 hi hz0 hz1 hz2 _ _ _ rfl wr _ _ (by assumption) rfl (by first | omega | (simp only [Lib.size_two]; omega)) ?_; intro _ _ hb)
            | (refine Lib.wpList_append_text rfl _ _ 26 9 rfl B 5 i0 Tryd.underlying26 Tryd.underlying9 hi hz0 hz1 hz2 _ _ _ rfl wr (by assumption) _ rfl (by first | omega | (simp only [Lib.size_two]; omega)) ?_; intro _ _ hb))
      have hq2 := QB.step (l' := 98 :: 34 :: (acc ++ [34])) hbr.out (by rw [← HB.out]; exact hb) (by simp only [List.length_cons, List.length_append, List.length_nil]; omega) (by rw [HC.out]; simp [Lib.intCells])
      obtain ⟨g, cap, rfl, hcells⟩ := buf_cells (l := 98 :: 34 :: (acc ++ [34])) (by rw [Nat.zero_add, List.nil_append]; exact hq2.own) (by simp)
      have hcv := run_convert_bytes_arg _ 26 5 Tryd.underlying26 Tryd.underlying5 g 0 _ cap (98 :: 34 :: (acc ++ [34])) rfl hcells 9 Tryd.underlying9
      rw [hcv]
      go_wp2
      go_ret
      exact ⟨by rw [hqe.out]; rfl, hq2.kept⟩

end Go.Proofs.YtmcemcpnhlmbhaaDoor
