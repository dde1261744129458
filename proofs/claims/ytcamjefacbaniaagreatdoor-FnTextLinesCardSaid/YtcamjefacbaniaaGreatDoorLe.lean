/- The implementation's lines -/
import Derived.Test.YtcamjefacbaniaaGreatDoorLd
namespace Go.Proofs.YtcamjefacbaniaaGreatDoor
open Go.ChangeShapes Go.WideShapes Go.ChangeAt Go.RowKit
set_option linter.unusedVariables false
/-- the method's name -/
abbrev nmLines : ByteArray := ⟨#[115, 112, 108, 105, 116, 108, 105, 110, 101, 115]⟩
theorem splitlines_any (keep : Bool) (T nm : ByteArray) (hT : T.size ≤ 60) (f : Value) (g ga ca : Nat) (w : World) (hb : Blk w g 102 #[.string nm, f, .iface 52 (.string T)])
    (ha : w.cell? ⟨ga, 0, none⟩ = some (.iface 45 (.bool keep))) :
    Calls Tryz.prog 24 #[.pointer none, .pointer (some ⟨g, 0, none⟩), .slice (some ⟨ga, 0, none⟩) 1 ca, .slice none 0 0] w (Ret2 (RetList keep T w)) := by
  cases keep
  · exact splitlines_false T nm hT f g ga ca w hb ha
  · exact splitlines_true T nm hT f g ga ca w hb ha
theorem RetList.from {keep : Bool} {T : ByteArray} {w W : World} {a b : Value} {w' : World} (hk : Kept w W) (h : RetList keep T W a b w') : RetList keep T w a b w' := by
  obtain ⟨h1, g, A, c, h2, h3, h4, h5⟩ := h
  exact ⟨h1, g, A, c, h2, h3, h4, hk.trans h5⟩
set_option maxRecDepth 100000 in
set_option maxHeartbeats 1000000 in
theorem ZzLines_any (keep : Bool) (T : ByteArray) (hT : T.size ≤ 60) (ga ca : Nat) (w : World) (ha : w.cell? ⟨ga, 0, none⟩ = some (.iface 45 (.bool keep))) :
    Calls Tryz.prog 11 #[.string T, .slice (some ⟨ga, 0, none⟩) 1 ca] w (Ret2 (RetList keep T w)) := by
  have hga := block_lt_of_cell ha
  have HZ := Lib.hid (zzCall_lines nmLines T (.slice (some ⟨ga, 0, none⟩) 1 ca) (RetList keep T w) w fun W2 g hk hb => (splitlines_any keep T nmLines hT _ g ga ca W2 hb ((hk.cell (p := ⟨ga, 0, none⟩) hga).trans ha)).mono fun e w' ⟨a, b, h1, h2⟩ => ⟨a, b, h1, RetList.from hk h2⟩)
  clear ha
  go_enter Tryz.func11, Tryz.ntmps11
  go_wp2_with fail
  refine (HZ.out).mono ?_
  rintro e w1 ⟨a, b, rfl, hr⟩
  have HH := Lib.hid hr
  clear hr
  go_wp2_with fail
  go_ret2
  exact ⟨_, _, rfl, HH.out⟩
/-- the lines, as texts -/
def RetLines (keep : Bool) (T : ByteArray) (w : World) (e : Ending) (w' : World) : Prop := ∃ A c, e = .returned (.tuple #[.slice A (lins keep T).length c, .bool true]) ∧ Sl w' A c (strs (lins keep T)) ∧ Kept w w'
set_option maxRecDepth 100000 in
set_option maxHeartbeats 1000000 in
theorem TextLines_any (keep : Bool) (T : ByteArray) (hT : T.size ≤ 60) (w : World) :
    Calls Tryz.prog 7 #[.string T, .bool keep] w (RetLines keep T w) := by
  have hb := Blk.new w 40 #[.iface 45 (.bool keep)]
  have hk : Kept w (w.alloc (.cells #[.iface 45 (.bool keep)] 40)) := (Below.refl _ _).alloc (Nat.le_refl _) _
  have HZ := Lib.hid (ZzLines_any keep T hT w.heap.size 1 _ (hb.cell 0))
  have HK := Lib.hid hk
  clear hb hk
  go_enter Tryz.func7, Tryz.ntmps7
  go_wp2_with fail
  generalize w.alloc (.cells #[.iface 45 (.bool keep)] 40) = W1 at *
  refine (HZ.out).mono ?_
  rintro e w1 ⟨a, b, rfl, rfl, g, A, c, rfl, hb, hs, hk1⟩
  have HO := Lib.hid (ofTexts_list g c A (lins keep T) (by have := lins_len keep T; omega) w1 hb hs)
  have HK1 := Lib.hid hk1
  clear hb hs hk1
  go_wp2_with fail
  refine (HO.out).mono ?_
  rintro e w2 ⟨A2, c2, rfl, hs2, hk2⟩
  have HS2 := Lib.hid hs2
  have HK2 := Lib.hid hk2
  clear hs2 hk2
  go_wp2_with fail
  go_ret2
  exact ⟨A2, c2, rfl, HS2.out, (HK.out.trans HK1.out).trans HK2.out⟩
end Go.Proofs.YtcamjefacbaniaaGreatDoor
