/- The law of the ordinals walked. -/
import Derived.Test.YtkodcbddlgadaaaEl
namespace Go.Proofs.Ytkodcbddlgadaaa
open Go.ChangeShapes Go.WideShapes Go.ChangeAt Go.RowKit
set_option linter.unusedVariables false
set_option linter.unusedVariables false
theorem one_size : (⟨#[97]⟩ : ByteArray).size = 1 := rfl
set_option maxRecDepth 100000 in
theorem FnElemOrds_any (T : ByteArray) (w : World) :
    Calls Try.prog 3 #[.string T] w fun e w' => e = .returned (.bool true) ∧ Kept w w' := by
  by_cases hl : T.size ≤ 2147483647
  · have hl' : ¬ (2147483647 : Int) < (T.size : Int) := by omega
    have hmin : min (T.size : Int) 200 = ((min T.size 200 : Nat) : Int) := by omega
    go_enter Try.func3, Try.ntmps3
    go_wp2_with fail
    case inr =>
      have hS : (T ++ ⟨#[97]⟩ : ByteArray).size ≤ 1000 := by
        rw [ByteArray.size_append, one_size]
        omega
      generalize (T ++ ⟨#[97]⟩ : ByteArray) = S at *
      refine (iElemOrds_any S hS w).mono ?_
      rintro e w1 ⟨A, c, rfl, hs, hk⟩
      have HS := Lib.hid hs
      clear hs
      go_wp2_with fail
      go_loop [20] (fun iv => ∃ k : Nat, iv = .int .i64 k ∧ k ≤ S.size) (fun iv => S.size - (intOf iv).toNat)
      case atStart => exact ⟨0, rfl, Nat.zero_le _⟩
      case round =>
        obtain ⟨k, rfl, hk'⟩ := hrel
        by_cases hlt : k < S.size
        · have hkb : k < (bs S).length := by rw [bs_len]; exact hlt
          obtain ⟨b, off, rfl, hc⟩ := HS.out.at_ (fun h => by have := congrArg List.length h; rw [i64s_len, List.length_nil] at this; omega)
          have hck : w1.cell? ⟨b, off + k, none⟩ = some (.int .i64 ((S[k]'hlt).toNat : Int)) := by
            rw [← bs_get S k hkb hlt]
            exact hc k _ (i64s_get (bs S) k hkb)
          have h256 : (S[k]'hlt).toNat < 256 := UInt8.toNat_lt _
          clear hc hkb
          go_wp2_with fail
          exact ⟨⟨k + 1, by go_num, by omega⟩, by simp [intOf]; omega⟩
        · obtain rfl : k = S.size := by omega
          go_wp2_with fail
          go_ret
          exact ⟨rfl, hk⟩
    case inl =>
      have hS : (T.extract 0 200 ++ ⟨#[97]⟩ : ByteArray).size ≤ 1000 := by
        rw [ByteArray.size_append, one_size, ByteArray.size_extract]
        omega
      generalize (T.extract 0 200 ++ ⟨#[97]⟩ : ByteArray) = S at *
      refine (iElemOrds_any S hS w).mono ?_
      rintro e w1 ⟨A, c, rfl, hs, hk⟩
      have HS := Lib.hid hs
      clear hs
      go_wp2_with fail
      go_loop [20] (fun iv => ∃ k : Nat, iv = .int .i64 k ∧ k ≤ S.size) (fun iv => S.size - (intOf iv).toNat)
      case atStart => exact ⟨0, rfl, Nat.zero_le _⟩
      case round =>
        obtain ⟨k, rfl, hk'⟩ := hrel
        by_cases hlt : k < S.size
        · have hkb : k < (bs S).length := by rw [bs_len]; exact hlt
          obtain ⟨b, off, rfl, hc⟩ := HS.out.at_ (fun h => by have := congrArg List.length h; rw [i64s_len, List.length_nil] at this; omega)
          have hck : w1.cell? ⟨b, off + k, none⟩ = some (.int .i64 ((S[k]'hlt).toNat : Int)) := by
            rw [← bs_get S k hkb hlt]
            exact hc k _ (i64s_get (bs S) k hkb)
          have h256 : (S[k]'hlt).toNat < 256 := UInt8.toNat_lt _
          clear hc hkb
          go_wp2_with fail
          exact ⟨⟨k + 1, by go_num, by omega⟩, by simp [intOf]; omega⟩
        · obtain rfl : k = S.size := by omega
          go_wp2_with fail
          go_ret
          exact ⟨rfl, hk⟩
  · have hl' : (2147483647 : Int) < (T.size : Int) := by omega
    go_enter Try.func3, Try.ntmps3
    go_wp2_with fail
    go_ret
    exact ⟨rfl, Below.refl _ _⟩
end Go.Proofs.Ytkodcbddlgadaaa
namespace Go.Proofs.Ytkodcbddlgadaaa.fnElemOrds
open Go.ChangeShapes Go.WideShapes Go.ChangeAt Go.RowKit
set_option linter.unusedVariables false
theorem walk (a0 : ByteArray) (w0 : a0.size ≤ maxLen) (w : World) :
    Calls Try.prog 3 #[.string a0] w fun e w' => e = .returned (.bool true) ∧ Below w.heap.size w w' := FnElemOrds_any a0 w
end Go.Proofs.Ytkodcbddlgadaaa.fnElemOrds
