/- The place of a digit among the sixteen. -/
import Derived.Test.YtmcemcpnhlmbhaaDoorBh
open Go.Lib
namespace Go.Proofs.YtmcemcpnhlmbhaaDoor
open Go.ChangeShapes Go.WideShapes Go.ChangeAt Go.RowKit
set_option linter.unusedVariables false
def hexd : ByteArray := ⟨#[48, 49, 50, 51, 52, 53, 54, 55, 56, 57, 97, 98, 99, 100, 101, 102]⟩
theorem list_inj {a b : ByteArray} (h : a.toList = b.toList) : a = b := by
  rw [ByteArray.toList_eq, ByteArray.toList_eq] at h
  exact ByteArray.ext (Array.toList_inj.1 h)
theorem hexDigit_inj : ∀ k, k < 16 → ∀ d, d < 16 → Lib.hexDigit k = Lib.hexDigit d → k = d := by decide
theorem hexDigit_byte : ∀ d, d < 16 → 0 ≤ Lib.hexDigit d ∧ Lib.hexDigit d < 256 ∧ Lib.hexDigit d ≠ 92 ∧ bits .or .u8 (Lib.hexDigit d) 32 = Lib.hexDigit d := by decide
theorem hexd_at : ∀ k, k < 16 → bz (hexd.extract k (k + 1)) = [Lib.hexDigit k] := by
  intro k hk
  rw [bz_extract]
  revert k
  decide
theorem hexd_eq (k d : Nat) (hk : k < 16) (hd : d < 16) (t : ByteArray) (ht : bz t = [Lib.hexDigit d]) : ((hexd.extract k (k + 1)).toList == t.toList) = decide (k = d) := by
  by_cases h : k = d
  · subst h
    rw [decide_eq_true rfl, beq_iff_eq]
    have : hexd.extract k (k + 1) = t := bz_inj (by rw [hexd_at k hk, ht])
    rw [this]
  · rw [decide_eq_false h, beq_eq_false_iff_ne]
    intro e
    have e2 := list_inj e
    apply h
    apply hexDigit_inj k hk d hd
    have e3 : bz (hexd.extract k (k + 1)) = bz t := by rw [e2]
    rw [hexd_at k hk, ht] at e3
    injection e3
set_option maxRecDepth 100000 in
theorem place_hex (d : Nat) (hd : d < 16) (t : ByteArray) (ht : bz t = [Lib.hexDigit d]) (w : World) :
    Calls Tryd.prog 9 #[.string hexd, .string t] w fun e w' => e = .returned (.int .i64 (d : Int)) ∧ w = w' := by
  have hs : t.size = 1 := by rw [← bz_len, ht]; rfl
  have HE := Lib.hid (fun k (hk : k < 16) => hexd_eq k d hk hd t ht)
  clear ht
  unfold hexd at HE ⊢
  go_enter Tryd.func9, Tryd.ntmps9
  go_wp2_with fail
  go_loop [5] (fun iv => ∃ k : Nat, iv = .int .i64 k ∧ k ≤ d) (fun iv => d + 1 - (RowKit.intOf iv).toNat)
  case atStart => exact ⟨0, rfl, Nat.zero_le _⟩
  case round =>
    obtain ⟨k, rfl, hk⟩ := hrel
    have h1 : (k : Int) + 1 ≤ 16 := by omega
    have hb := HE.out k (by omega)
    by_cases hkd : k = d
    · rw [decide_eq_true hkd] at hb
      subst hkd
      go_wp2_with fail
      go_ret
      exact ⟨rfl, rfl⟩
    · rw [decide_eq_false hkd] at hb
      go_wp2_with fail
      exact ⟨⟨k + 1, by go_num, by omega⟩, by simp [RowKit.intOf]; omega⟩
end Go.Proofs.YtmcemcpnhlmbhaaDoor
