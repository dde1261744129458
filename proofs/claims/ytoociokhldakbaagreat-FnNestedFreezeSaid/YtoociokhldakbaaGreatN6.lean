/- A value without parts made of a value's fields. -/
import Derived.Test.YtoociokhldakbaaGreatN5
import Derived.Deep.RegionHeld3
import Derived.Laws.Externs
namespace Go.Proofs.YtoociokhldakbaaGreat
open Go.ChangeShapes Go.WideShapes Go.ChangeAt Go.RowKit
set_option linter.unusedVariables false
theorem run_frombits (b : Nat) (w : World) : (callFunc 36 #[.int .u64 (b : Int)]).run Tryz.prog w = .ok (.value (.float .f64 b)) w := by
  rw [run_callFunc_extern (fn := Tryz.f36) (e := Extern.MathFloatBits.float64frombits) (by kernel_rfl) (by kernel_rfl) (by kernel_rfl) (by kernel_rfl) (by kernel_rfl) _ w]
  rfl
set_option maxRecDepth 100000 in
theorem floatOf_any (b : Nat) (w : World) : Calls Tryz.prog 27 #[.int .u64 (b : Int)] w fun e w' => e = .returned (.float .f64 b) ∧ w = w' := by
  have h1 := fun W => run_frombits b W
  go_enter Tryz.func27, Tryz.ntmps27
  go_wp2_with fail
  go_ret
  exact ⟨rfl, rfl⟩
/-- a value without parts has been made -/
def ScP (w : World) (e : Ending) (w' : World) : Prop := (∃ v, e = .returned (.tuple #[v, .bool true]) ∧ ScOk v) ∧ Kept w w'
set_option maxRecDepth 100000 in
set_option maxHeartbeats 1000000 in
theorem scalar_any (k : Int) (hk0 : 0 ≤ k) (hk5 : k ≤ 5) (kk : Int) (neg : Bool) (A : Option Addr) (c : Nat) (l : List Nat) (bits : Nat) (t : ByteArray) (K : Option Addr) (kn kc : Nat) (hbit : k = 1 → bits ≤ 1) (hlen : l.length ≤ 4095) (hd : ∀ d ∈ l, d < 256) (w : World) (hs : Sl w A c (by8 l)) :
    Calls Tryz.prog 16 #[.int .i64 k, .agg #[.int .i64 kk, .bool neg, .slice A l.length c, .int .u64 bits, .string t, .slice K kn kc]] w (ScP w) := by
  have hk : Kept w (w.alloc (.cells #[.int .i64 kk, .bool neg, .slice A l.length c, .int .u64 bits, .string t, .slice K kn kc] 33)) := by go_grown
  have hb := Blk.new w 33 #[.int .i64 kk, .bool neg, .slice A l.length c, .int .u64 bits, .string t, .slice K kn kc]
  have HB := Lib.hid hb
  have c3 : (w.alloc (.cells #[.int .i64 kk, .bool neg, .slice A l.length c, .int .u64 bits, .string t, .slice K kn kc] 33)).cell? ⟨w.heap.size, 3, none⟩ = some (.int .u64 (bits : Int)) := hb.cell 3
  have c4 : (w.alloc (.cells #[.int .i64 kk, .bool neg, .slice A l.length c, .int .u64 bits, .string t, .slice K kn kc] 33)).cell? ⟨w.heap.size, 4, none⟩ = some (.string t) := hb.cell 4
  have CW := Lib.hid (wholeG_any kk neg A c l bits t K kn kc hlen hd (w.alloc (.cells #[.int .i64 kk, .bool neg, .slice A l.length c, .int .u64 bits, .string t, .slice K kn kc] 33)) (hs.below hk))
  have HK := Lib.hid hk
  have CF := Lib.hid (fun W => floatOf_any bits W)
  clear hb hk hs hlen hd
  rcases (show k = 0 ∨ k = 1 ∨ k = 2 ∨ k = 3 ∨ k = 4 ∨ k = 5 by omega) with rfl | rfl | rfl | rfl | rfl | rfl
  · clear hbit hk0 hk5
    go_enter Tryz.func16, Tryz.ntmps16
    go_wp2_with fail
    go_ret2
    exact ⟨⟨_, rfl, .inl rfl⟩, HK.out⟩
  · have hb01 : bits = 0 ∨ bits = 1 := by have := hbit rfl; omega
    clear hbit hk0 hk5
    rcases hb01 with rfl | rfl
    · go_enter Tryz.func16, Tryz.ntmps16
      go_wp2_with fail
      go_quiet (fail)
      go_wp2_with fail
      go_ret2
      exact ⟨⟨_, rfl, .inr (.inl ⟨_, rfl⟩)⟩, (HK.out.trans ⟨rfl, rfl, rfl, Nat.le_refl _, fun _ _ => rfl⟩)⟩
    · go_enter Tryz.func16, Tryz.ntmps16
      go_wp2_with fail
      go_quiet (fail)
      go_wp2_with fail
      go_ret2
      exact ⟨⟨_, rfl, .inr (.inl ⟨_, rfl⟩)⟩, (HK.out.trans ⟨rfl, rfl, rfl, Nat.le_refl _, fun _ _ => rfl⟩)⟩
  · clear hbit hk0 hk5
    go_enter Tryz.func16, Tryz.ntmps16
    go_wp2_with (refine wpList_load_row rfl 33 (.tmp 3) rfl w.heap.size rfl _ _ (0, 0) _ HB.out Tryz.underlying33 rfl (by kernel_rfl) ?_)
    refine CW.out.mono ?_
    rintro e w1 ⟨v1, rfl, hv1, hk1⟩
    obtain ⟨x, p, rfl⟩ := hv1.two
    have HK1 := Lib.hid (HK.out.trans hk1)
    clear hv1 hk1
    go_wp2_with fail
    go_ret2
    exact ⟨⟨_, rfl, .inr (.inr (.inl ⟨_, _, rfl⟩))⟩, HK1.out⟩
  · clear hbit hk0 hk5
    go_enter Tryz.func16, Tryz.ntmps16
    go_wp2_with fail
    refine (CF.out _).mono ?_
    rintro e w1 ⟨rfl, rfl⟩
    go_wp2_with fail
    go_ret2
    exact ⟨⟨_, rfl, .inr (.inr (.inr (.inl ⟨_, rfl⟩)))⟩, HK.out⟩
  · clear hbit hk0 hk5
    go_enter Tryz.func16, Tryz.ntmps16
    go_wp2_with fail
    go_ret2
    exact ⟨⟨_, rfl, .inr (.inr (.inr (.inr (.inl ⟨_, rfl⟩))))⟩, HK.out⟩
  · clear hbit hk0 hk5
    go_enter Tryz.func16, Tryz.ntmps16
    go_wp2_with fail
    go_ret2
    exact ⟨⟨_, rfl, .inr (.inr (.inr (.inr (.inr ⟨_, rfl⟩))))⟩, HK.out⟩
end Go.Proofs.YtoociokhldakbaaGreat
