/- The library function that encodes a rune, at this dump. -/
import Derived.Test.YtmcemcpnhlmbhaaDoorSh
import Derived.Shelf.Spec.EncodeRune
namespace Go.Proofs
open Go.Shelf

set_option linter.unusedVariables false
def Tryd.enc_ren : Go.Shelf.Ren := ⟨fun | 30 => 15 | 47 => 20 | n => n, fun | 30 => 26 | 27 => 41 | 25 => 38 | n => n, fun | n => n⟩
theorem Tryd.enc30 : Go.Proofs.Lays7.n30 Tryd.prog Tryd.enc_ren := {
  mixed := by kernel_rfl
  f30 := Tryd.func15.trans (congrArg some (by kernel_rfl))
  f47 := Tryd.func20.trans (congrArg some (by kernel_rfl))
  t0 := Tryd.underlying0
  a0 := Tryd.isAgg0
  z0 := Tryd.sizeOf0
  v0 := Tryd.zeroValue0
  i0 := by kernel_rfl
  t3 := Tryd.underlying3
  a3 := Tryd.isAgg3
  z3 := Tryd.sizeOf3
  v3 := Tryd.zeroValue3
  i3 := by kernel_rfl
  t4 := Tryd.underlying4
  a4 := Tryd.isAgg4
  z4 := Tryd.sizeOf4
  v4 := Tryd.zeroValue4
  i4 := by kernel_rfl
  t5 := Tryd.underlying5
  a5 := Tryd.isAgg5
  z5 := Tryd.sizeOf5
  v5 := Tryd.zeroValue5
  i5 := by kernel_rfl
  t21 := Tryd.underlying21
  a21 := Tryd.isAgg21
  z21 := Tryd.sizeOf21
  v21 := Tryd.zeroValue21
  i21 := by kernel_rfl
  t25 := Tryd.underlying38
  a25 := Tryd.isAgg38
  z25 := Tryd.sizeOf38
  v25 := Tryd.zeroValue38
  i25 := by kernel_rfl
  t27 := Tryd.underlying41
  a27 := Tryd.isAgg41
  z27 := Tryd.sizeOf41
  v27 := Tryd.zeroValue41
  i27 := by kernel_rfl
  t30 := Tryd.underlying26
  a30 := Tryd.isAgg26
  z30 := Tryd.sizeOf26
  v30 := Tryd.zeroValue26
  i30 := by kernel_rfl }
/-- utf8.EncodeRune into a row that has room -/
theorem Tryd.encodeRune (b off len cap : Nat) (r : Int) (hlo : -2147483648 ≤ r) (hhi : r ≤ 2147483647) (w : World) (hl : (Lib.runeCells r).length ≤ len)
    (hc : ∀ j, j < (Lib.runeCells r).length → (w.cell? ⟨b, off + j, none⟩).isSome = true) (hf : ∀ j, j < (Lib.runeCells r).length → w.frozen? ⟨b, off + j, none⟩ = false) :
    Calls Tryd.prog 15 #[.slice (some ⟨b, off, none⟩) len cap, .int .i32 r] w fun e w' => e = .returned (.int .i64 (Lib.runeCells r).length) ∧ w' = w.setCells b off (Lib.runeCells r) :=
  Any7.utf8_EncodeRune Tryd.enc30 b off len cap r hlo hhi w hl hc hf
end Go.Proofs
