/- A slice of three parts, refused or not; a part made. -/
import Derived.Test.YtdbdpllafknlcaaGreatEf
namespace Go.Proofs.YtdbdpllafknlcaaGreat
open Go.ChangeShapes Go.WideShapes Go.ChangeAt Go.RowKit
set_option linter.unusedVariables false
/-- a part of a slice as the package has it: a text (none), nothing, or a small integer -/
def AV (w : World) (v : Value) : Option (Option Int) → Prop
  | none => v = .iface 81 (.string ⟨#[]⟩)
  | some o => PV w v o
theorem AV.below {w w' : World} {v : Value} {o : Option (Option Int)} (h : AV w v o) (hb : Kept w w') : AV w' v o := by
  cases o with
  | none => exact h
  | some o => exact PV.below h hb
/-- the step that a part stands for -/
def stp : Option Int → Int
  | none => 1
  | some s => s
theorem slice_good (g n : Nat) (a0 b0 s0 : Int) (hn : n ≤ 2147483647) (v1 v2 v3 : Value) (w : World) (hb : Blk w g 54 #[.int .i64 n, .int .i64 a0, .int .i64 b0, .int .i64 s0]) (o1 o2 o3 : Option Int) (h1 : PV w v1 o1) (h2 : PV w v2 o2) (h3 : PV w v3 o3) (hs : stp o3 ≠ 0) :
    Calls Tryz.prog 22 #[.iface 52 (.pointer (some ⟨g, 0, none⟩)), v1, v2, v3] w (SlOk g n (aI n (stp o3) o1 o2) (bI n (stp o3) o1 o2) (stp o3) w) := by
  cases o3 with
  | none =>
    obtain rfl : v3 = _ := h3
    exact slice_none_pos_fine g n a0 b0 s0 hn v1 v2 w hb o1 o2 h1 h2
  | some s =>
    obtain ⟨x, p, rfl, hv, hm, _, _⟩ := h3
    have hs' : s ≠ 0 := hs
    rcases Int.lt_or_gt_of_ne hs' with h | h
    · exact slice_num_neg_fine g n a0 b0 s0 hn v1 v2 w hb x p s h hm hv o1 o2 h1 h2
    · exact slice_num_pos_fine g n a0 b0 s0 hn v1 v2 w hb x p s h hm hv o1 o2 h1 h2
/-- whether a slice of three parts is refused -/
def refused : Option (Option Int) → Option (Option Int) → Option (Option Int) → Prop
  | some _, some _, some o => stp o = 0
  | _, _, _ => True
theorem slice_bad (g n : Nat) (a0 b0 s0 : Int) (hn : n ≤ 2147483647) (v1 v2 v3 : Value) (w : World) (hb : Blk w g 54 #[.int .i64 n, .int .i64 a0, .int .i64 b0, .int .i64 s0]) (p1 p2 p3 : Option (Option Int)) (h1 : AV w v1 p1) (h2 : AV w v2 p2) (h3 : AV w v3 p3) (hr : refused p1 p2 p3) :
    Calls Tryz.prog 22 #[.iface 52 (.pointer (some ⟨g, 0, none⟩)), v1, v2, v3] w (SlBad w) := by
  cases p3 with
  | none =>
    obtain rfl : v3 = _ := h3
    exact slice_steptext g n a0 b0 s0 hn v1 v2 w hb
  | some o3 =>
    cases o3 with
    | none =>
      obtain rfl : v3 = _ := h3
      cases p1 with
      | none =>
        obtain rfl : v1 = _ := h1
        exact slice_none_pos_bad1 g n a0 b0 s0 hn v2 w hb
      | some o1 =>
        cases p2 with
        | none =>
          obtain rfl : v2 = _ := h2
          exact slice_none_pos_bad2 g n a0 b0 s0 hn v1 w hb o1 h1
        | some o2 => exact absurd (show (1 : Int) = 0 from hr) (by decide)
    | some s =>
      obtain ⟨x, p, rfl, hv, hm, _, _⟩ := h3
      rcases Int.lt_trichotomy s 0 with h | h | h
      · cases p1 with
        | none =>
          obtain rfl : v1 = _ := h1
          exact slice_num_neg_bad1 g n a0 b0 s0 hn v2 w hb x p s h hm hv
        | some o1 =>
          cases p2 with
          | none =>
            obtain rfl : v2 = _ := h2
            exact slice_num_neg_bad2 g n a0 b0 s0 hn v1 w hb x p s h hm hv o1 h1
          | some o2 => have : s = 0 := hr; omega
      · exact slice_zero g n a0 b0 s0 hn v1 v2 w hb x p s h hm hv
      · cases p1 with
        | none =>
          obtain rfl : v1 = _ := h1
          exact slice_num_pos_bad1 g n a0 b0 s0 hn v2 w hb x p s h hm hv
        | some o1 =>
          cases p2 with
          | none =>
            obtain rfl : v2 = _ := h2
            exact slice_num_pos_bad2 g n a0 b0 s0 hn v1 w hb x p s h hm hv o1 h1
          | some o2 => have : s = 0 := hr; omega
set_option maxRecDepth 100000 in
theorem zzSlice_good (g n : Nat) (a b s : Int) (X v1 v2 v3 : Value) (w : World) (h : Calls Tryz.prog 22 #[X, v1, v2, v3] w (SlOk g n a b s w)) :
    Calls Tryz.prog 16 #[X, v1, v2, v3] w (SlOk g n a b s w) := by
  have H := Lib.hid h
  clear h
  go_enter Tryz.func16, Tryz.ntmps16
  go_wp2_with fail
  refine H.out.mono ?_
  rintro e w1 ⟨rfl, h2⟩
  have H2 := Lib.hid h2
  clear h2
  go_wp2_with fail
  go_ret2
  exact ⟨rfl, H2.out⟩
set_option maxRecDepth 100000 in
theorem zzSlice_bad (X v1 v2 v3 : Value) (w : World) (h : Calls Tryz.prog 22 #[X, v1, v2, v3] w (SlBad w)) :
    Calls Tryz.prog 16 #[X, v1, v2, v3] w (SlBad w) := by
  have H := Lib.hid h
  clear h
  go_enter Tryz.func16, Tryz.ntmps16
  go_wp2_with fail
  refine H.out.mono ?_
  rintro e w1 ⟨⟨u, rfl⟩, h2⟩
  have H2 := Lib.hid h2
  clear h2
  go_wp2_with fail
  go_ret2
  exact ⟨⟨u, rfl⟩, H2.out⟩
/-- a part of a slice as the laws have it: a text, nothing, or an integer that is an int32 -/
def IV (w : World) (k : Int) (b : Bool) (A : Option Addr) (n c : Nat) : Option (Option Int) → Prop
  | none => k = 4
  | some none => k = 0
  | some (some z) => k = 2 ∧ VI w (.agg #[.int .i64 2, .bool b, .slice A n c, .int .u64 0, .string ⟨#[]⟩, .slice none 0 0]) z ∧ -2147483648 ≤ z ∧ z ≤ 2147483647
theorem IV.below {w w' : World} {k : Int} {b : Bool} {A : Option Addr} {n c : Nat} {o : Option (Option Int)} (h : IV w k b A n c o) (hb : Kept w w') : IV w' k b A n c o := by
  cases o with
  | none => exact h
  | some o =>
    cases o with
    | none => exact h
    | some z => exact ⟨h.1, h.2.1.below hb, h.2.2⟩
/-- behind scalar -/
def RetAV (w : World) (o : Option (Option Int)) (e : Ending) (w' : World) : Prop := ∃ v, e = .returned (.tuple #[v, .bool true]) ∧ AV w' v o ∧ Kept w w'
theorem sm_cap {z : Int} (h1 : -2147483648 ≤ z) (h2 : z ≤ 2147483647) : z.natAbs < Num.Cap := by
  have h3 : 256 ^ 4 ≤ Num.Cap := Nat.pow_le_pow_right (by omega) (show 4 ≤ Num.capK by decide)
  omega
set_option maxRecDepth 100000 in
set_option maxHeartbeats 1000000 in
theorem scalar_any (k : Int) (b : Bool) (A : Option Addr) (n c : Nat) (o : Option (Option Int)) (w : World) (h : IV w k b A n c o) :
    Calls Tryz.prog 21 #[.int .i64 k, .agg #[.int .i64 k, .bool b, .slice A n c, .int .u64 0, .string ⟨#[]⟩, .slice none 0 0]] w (RetAV w o) := by
  rcases o with _ | _ | z
  · obtain rfl : k = 4 := h
    have hk : Kept w (w.alloc (.cells #[.int .i64 4, .bool b, .slice A n c, .int .u64 0, .string ⟨#[]⟩, .slice none 0 0] 26)) := by go_grown
    go_enter Tryz.func21, Tryz.ntmps21
    go_wp2_with fail
    go_ret2
    exact ⟨_, rfl, rfl, hk⟩
  · obtain rfl : k = 0 := h
    have hk : Kept w (w.alloc (.cells #[.int .i64 0, .bool b, .slice A n c, .int .u64 0, .string ⟨#[]⟩, .slice none 0 0] 26)) := by go_grown
    go_enter Tryz.func21, Tryz.ntmps21
    go_wp2_with fail
    go_ret2
    exact ⟨_, rfl, rfl, hk⟩
  · obtain ⟨rfl, hv, z1, z2⟩ := h
    have hk : Kept w (w.alloc (.cells #[.int .i64 2, .bool b, .slice A n c, .int .u64 0, .string ⟨#[]⟩, .slice none 0 0] 26)) := by go_grown
    have HW := Lib.hid (whole_any _ z (sm_cap z1 z2) _ (hv.below hk))
    have HK := Lib.hid hk
    clear hk hv
    go_enter Tryz.func21, Tryz.ntmps21
    go_wp2_with fail
    refine HW.out.mono ?_
    rintro e w1 ⟨v, rfl, hv, hk1⟩
    have HV := Lib.hid hv
    have HZ := Lib.hid (Kept.trans HK.out hk1)
    obtain ⟨x, p, rfl⟩ := hv.two
    clear hv hk1 HW HK
    go_wp2_with fail
    go_ret2
    exact ⟨_, rfl, ⟨x, p, rfl, HV.out.toStI, decide_eq_true ⟨z1, z2⟩, z1, z2⟩, HZ.out⟩
end Go.Proofs.YtdbdpllafknlcaaGreat
