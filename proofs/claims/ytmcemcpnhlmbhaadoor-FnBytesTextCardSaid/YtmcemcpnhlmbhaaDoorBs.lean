/- The law FnBytesText walked. -/
import Derived.Test.YtmcemcpnhlmbhaaDoorBq
import Derived.Test.YtmcemcpnhlmbhaaDoorBr
open Go.Lib
namespace Go.Proofs.YtmcemcpnhlmbhaaDoor
open Go.ChangeShapes Go.WideShapes Go.ChangeAt Go.RowKit
set_option linter.unusedVariables false
theorem hexDigit_ok (d : Nat) (hd : d < 16) : 0 ≤ Lib.hexDigit d ∧ Lib.hexDigit d < 256 := ⟨(hexDigit_byte d hd).1, (hexDigit_byte d hd).2.1⟩
theorem hexDigits_ok (r : Nat) : ∀ n, ∀ x ∈ Lib.hexDigits r n, 0 ≤ x ∧ x < 256
  | 0, x, hx => by cases hx
  | n + 1, x, hx => by
    rcases List.mem_cons.1 hx with h | h
    · rw [h]; exact hexDigit_ok _ (by omega)
    · exact hexDigits_ok r n x h
theorem two_ok {a b x : Int} (ha : 0 ≤ a ∧ a < 256) (hb : 0 ≤ b ∧ b < 256) (hx : x ∈ [a, b]) : 0 ≤ x ∧ x < 256 := by
  simp only [List.mem_cons, List.not_mem_nil, or_false] at hx
  rcases hx with rfl | rfl <;> assumption
theorem escRune_byte (T : PrintTabs) (r : Int) (hr : Lib.validRune r = true) : ∀ x ∈ Lib.escRune T r, 0 ≤ x ∧ x < 256 := by
  intro x hx
  unfold Lib.escRune at hx
  by_cases a1 : r = 34 ∨ r = 92
  · rw [if_pos a1] at hx
    exact two_ok (by omega) (by omega) hx
  rw [if_neg a1] at hx
  by_cases a2 : isPrintR T r = true
  · rw [if_pos a2] at hx
    exact encodeRuneZ_byte r x hx
  rw [if_neg a2] at hx
  by_cases b7 : r = 7
  · rw [if_pos b7] at hx
    exact two_ok (by omega) (by omega) hx
  rw [if_neg b7] at hx
  by_cases b8 : r = 8
  · rw [if_pos b8] at hx
    exact two_ok (by omega) (by omega) hx
  rw [if_neg b8] at hx
  by_cases b12 : r = 12
  · rw [if_pos b12] at hx
    exact two_ok (by omega) (by omega) hx
  rw [if_neg b12] at hx
  by_cases b10 : r = 10
  · rw [if_pos b10] at hx
    exact two_ok (by omega) (by omega) hx
  rw [if_neg b10] at hx
  by_cases b13 : r = 13
  · rw [if_pos b13] at hx
    exact two_ok (by omega) (by omega) hx
  rw [if_neg b13] at hx
  by_cases b9 : r = 9
  · rw [if_pos b9] at hx
    exact two_ok (by omega) (by omega) hx
  rw [if_neg b9] at hx
  by_cases b11 : r = 11
  · rw [if_pos b11] at hx
    exact two_ok (by omega) (by omega) hx
  rw [if_neg b11] at hx
  by_cases bx : r < 32 ∨ r = 127
  · rw [if_pos bx] at hx
    have h0 : 0 ≤ r := by
      simp [Lib.validRune] at hr
      omega
    simp only [List.mem_cons, List.not_mem_nil, or_false] at hx
    rcases hx with rfl | rfl | rfl | rfl
    · omega
    · omega
    · exact hexDigit_ok _ (by omega)
    · exact hexDigit_ok _ (by omega)
  rw [if_neg bx] at hx
  rw [if_neg (by rw [hr]; decide)] at hx
  by_cases c16 : r < 65536
  · rw [if_pos c16] at hx
    rcases List.mem_cons.1 hx with rfl | hx
    · omega
    rcases List.mem_cons.1 hx with rfl | hx
    · omega
    exact hexDigits_ok _ 4 x hx
  · rw [if_neg c16] at hx
    rcases List.mem_cons.1 hx with rfl | hx
    · omega
    rcases List.mem_cons.1 hx with rfl | hx
    · omega
    exact hexDigits_ok _ 8 x hx
theorem quoteStep_byte (T : PrintTabs) (s : ByteArray) : ∀ x ∈ Lib.quoteStep T s, 0 ≤ x ∧ x < 256 := by
  intro x hx
  unfold Lib.quoteStep at hx
  split at hx
  · have h1 := UInt8.toNat_lt (s.get! 0)
    simp only [List.mem_cons, List.not_mem_nil, or_false] at hx
    rcases hx with rfl | rfl | rfl | rfl
    · omega
    · omega
    · exact hexDigit_ok _ (by omega)
    · exact hexDigit_ok _ (by omega)
  · exact escRune_byte T _ (Lib.rune_valid s) x hx
theorem quoteFrom_byte (T : PrintTabs) : ∀ (f : Nat) (s : ByteArray), ∀ x ∈ Lib.quoteFrom T f s, 0 ≤ x ∧ x < 256
  | 0, _, x, hx => by cases hx
  | f + 1, s, x, hx => by
    unfold Lib.quoteFrom at hx
    split at hx
    · rcases List.mem_append.1 hx with h | h
      · exact quoteStep_byte T s x h
      · exact quoteFrom_byte T f _ x h
    · cases hx
theorem quoted_bz (T : PrintTabs) (s : ByteArray) : bz (strOfNums (98 :: 34 :: (Lib.quoteFrom T s.size s ++ [34]))) = 98 :: 34 :: (Lib.quoteFrom T s.size s ++ [34]) := by
  refine bz_nums _ (fun x hx => ?_)
  simp only [List.mem_cons, List.mem_append, List.not_mem_nil, or_false] at hx
  rcases hx with rfl | rfl | hx | rfl
  · omega
  · omega
  · exact quoteFrom_byte T s.size s x hx
  · omega
set_option maxRecDepth 100000 in
theorem BytesString_any (T : Lib.PrintTabs) (s : ByteArray) (w : World) (hlen : 10 * s.size + 40 ≤ 140737488355328) (hT : Lib.PrintTabsAt 0 1 2 3 T w) (hU : Lib.Utf8Tabs 4 5 w) :
    Calls Tryd.prog 7 #[.string s] w fun e w' => e = .returned (.string (strOfNums (98 :: 34 :: (Lib.quoteFrom T s.size s ++ [34])))) ∧ Kept w w' := by
  have C := Quote_any T s w hlen hT hU
  clear hT hU
  go_enter Tryd.func7, Tryd.ntmps7
  go_wp2_with fail
  refine C.mono ?_
  rintro e w1 ⟨rfl, hk⟩
  go_wp2_with fail
  go_ret
  exact ⟨rfl, hk⟩
set_option maxRecDepth 100000 in
theorem BytesText_any (T : Lib.PrintTabs) (s : ByteArray) (w : World) (hlen : 10 * s.size + 40 ≤ 140737488355328) (hT : Lib.PrintTabsAt 0 1 2 3 T w) (hU : Lib.Utf8Tabs 4 5 w) :
    Calls Tryd.prog 5 #[.string s] w fun e w' => e = .returned (.string (strOfNums (98 :: 34 :: (Lib.quoteFrom T s.size s ++ [34])))) ∧ Kept w w' := by
  have C := BytesString_any T s w hlen hT hU
  clear hT hU
  go_enter Tryd.func5, Tryd.ntmps5
  go_wp2_with fail
  refine C.mono ?_
  rintro e w1 ⟨rfl, hk⟩
  go_wp2_with fail
  go_ret
  exact ⟨rfl, hk⟩
set_option maxRecDepth 100000 in
/-- the law -/
theorem FnBytesText_any (T : Lib.PrintTabs) (s : ByteArray) (w : World) (hT : Lib.PrintTabsAt 0 1 2 3 T w) (hU : Lib.Utf8Tabs 4 5 w) :
    Calls Tryd.prog 3 #[.string s] w fun e w' => e = .returned (.bool true) ∧ Kept w w' := by
  by_cases hs : s.size ≤ 2147483647
  · have C := BytesText_any T s w (by omega) hT hU
    have D := fun W => Unquote_any T s (strOfNums (98 :: 34 :: (Lib.quoteFrom T s.size s ++ [34]))) (quoted_bz T s) hs W
    generalize strOfNums (98 :: 34 :: (Lib.quoteFrom T s.size s ++ [34])) = X at C D
    have HD := Lib.hid D
    have HC := Lib.hid C
    have hsI : ¬ (2147483647 : Int) < (s.size : Int) := by omega
    clear hT hU C D hs
    go_enter Tryd.func3, Tryd.ntmps3
    go_wp2_with fail
    refine HC.out.mono ?_
    rintro e w1 ⟨rfl, hk⟩
    go_wp2_with fail
    refine (HD.out w1).mono ?_
    rintro e w2 ⟨rfl, hk2⟩
    go_wp2_with fail
    go_ret
    exact ⟨by simp, Kept.trans hk hk2⟩
  · have hsI : (2147483647 : Int) < (s.size : Int) := by omega
    clear hT hU hs
    go_enter Tryd.func3, Tryd.ntmps3
    go_wp2_with fail
    go_ret
    exact ⟨rfl, Below.refl _ _⟩
end Go.Proofs.YtmcemcpnhlmbhaaDoor
