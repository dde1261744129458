/- A value is appended to a list. -/
import Derived.Test.YtoociokhldakbaaGreatN3
import Derived.Test.YtoociokhldakbaaGreatIc
import Derived.OwnWalk
import Derived.Deep.DeepMust
import Derived.Deep.AppendLies
import Derived.Maps.AppendAt
namespace Go.Proofs.YtoociokhldakbaaGreat
open Go.ChangeShapes Go.WideShapes Go.ChangeAt Go.RowKit
set_option linter.unusedVariables false
theorem info_val : (Tryz.prog.info? 52).map (fun i => (i.zero, i.size, i.bytes)) = some (some .nilIface, 1, 16) := by kernel_rfl
set_option maxRecDepth 100000 in
theorem errNew_any (s : ByteArray) (w : World) : Calls Tryz.prog 37 #[.string s] w fun e w' => (∃ p, e = .returned (.iface 104 (.pointer (some p)))) ∧ Kept w w' := by
  have hk : Kept w (w.alloc (.cells #[.string s] 106)) := by go_grown
  have HK := Lib.hid hk
  clear hk
  go_enter Tryz.func37, Tryz.ntmps37
  go_wp2_with fail
  go_ret
  exact ⟨⟨_, rfl⟩, HK.out⟩
set_option maxRecDepth 100000 in
/-- a list that no one iterates: refused just if it is frozen -/
theorem checkMutable_any (b : Nat) (S : Value) (F : Bool) (s : ByteArray) (w : World) (hb : Blk w b 85 #[S, .bool F, .int .u32 0]) :
    Calls Tryz.prog 28 #[.pointer (some ⟨b, 0, none⟩), .string s] w fun e w' => ((F = true ∧ ∃ p, e = .returned (.iface 104 (.pointer (some p)))) ∨ (F = false ∧ e = .returned .nilIface)) ∧ Kept w w' := by
  have c1 : w.cell? ⟨b, 1, none⟩ = some (.bool F) := hb.cell 1
  have c2 : w.cell? ⟨b, 2, none⟩ = some (.int .u32 0) := hb.cell 2
  clear hb
  cases F
  · go_enter Tryz.func28, Tryz.ntmps28
    go_wp2_with fail
    go_ret
    exact ⟨.inr ⟨trivial, rfl⟩, Below.refl _ _⟩
  · go_enter Tryz.func28, Tryz.ntmps28
    go_wp2_with fail
    refine (errNew_any _ w).mono ?_
    rintro e w1 ⟨⟨p, rfl⟩, hk⟩
    go_wp2_with fail
    go_ret
    exact ⟨.inl ⟨trivial, p, rfl⟩, hk⟩
/-- v has been appended to the list in block b, whose row was S -/
def AppP (w : World) (b : Nat) (S : Value) (m : Nat) (xs : List Value) (v : Value) (B : Nat) (e : Ending) (w' : World) : Prop :=
  e = .returned .nilIface ∧ (∃ g cap, Blk w' b 85 #[.slice (some ⟨g, 0, none⟩) (m + 1) cap, .bool false, .int .u32 0] ∧ w'.ownsRow B 52 1 (.slice (some ⟨g, 0, none⟩) (m + 1) cap) (m + 1) (xs ++ [v]) ∧ (S.ownBlock = some g ∨ w.heap.size ≤ g) ∧ g ≠ b ∧ g < w'.heap.size) ∧
    w'.os = w.os ∧ w'.tape = w.tape ∧ w'.output = w.output ∧ w.heap.size ≤ w'.heap.size ∧ ∀ i, i < w.heap.size → i ≠ b → S.ownBlock ≠ some i → w'.heap[i]? = w.heap[i]?
set_option maxRecDepth 100000 in
set_option maxHeartbeats 1000000 in
theorem Append_any (w : World) (b : Nat) (S : Value) (m : Nat) (xs : List Value) (T : TypeId) (u : Value) (B : Nat) (hB : B ≤ w.heap.size) (hm : m ≤ 1000000) (hb : Blk w b 85 #[S, .bool false, .int .u32 0]) (ho : w.ownsRow B 52 1 S m xs) (hne : S.ownBlock ≠ some b) :
    Calls Tryz.prog 17 #[.pointer (some ⟨b, 0, none⟩), .iface T u] w (AppP w b S m xs (.iface T u) B) := by
  obtain ⟨i0, hi0, hz0, hz1, hz2⟩ := info_parts info_val
  have CM := Lib.hid (checkMutable_any b S false · w hb)
  have hlb := hb.lt
  have HB := Lib.hid hb
  have HO := Lib.hid ho
  have HNE := Lib.hid hne
  have HBB := Lib.hid hB
  have HM := Lib.hid hm
  have HI : Hid (Tryz.prog.info? 52 = some i0 ∧ i0.zero = some .nilIface ∧ i0.size = 1 ∧ i0.bytes = 16) := Lib.hid ⟨hi0, hz0, hz1, hz2⟩
  clear hi0 hz0 hz1 hz2 hb ho hne hB hm
  go_enter Tryz.func17, Tryz.ntmps17
  go_wp2_with fail
  refine (CM.out _).mono ?_
  rintro e w1 ⟨(⟨h, _⟩ | ⟨_, rfl⟩), hk⟩
  · cases h
  have hb1 : Blk w1 b 85 #[S, .bool false, .int .u32 0] := Blk.below HB.out hk
  have c0 : w1.cell? ⟨b, 0, none⟩ = some S := hb1.cell 0
  have HK := Lib.hid hk
  have HB1 := Lib.hid hb1
  have ho1 : (w1.alloc (.cells #[.iface T u] 52)).ownsRow B 52 1 S m xs := by
    have hk2 : w.grownBy (w1.alloc (.cells #[.iface T u] 52)) none := by
      have := hk.trans (show Kept w1 (w1.alloc (.cells #[.iface T u] 52)) by go_grown)
      exact ⟨this.os, this.tape, this.output, this.size, fun i hi _ => this.block i hi⟩
    exact HO.out.kept hk2 (by cases hq : S.ownBlock with | none => exact .inl rfl | some a => exact .inr (by simp))
  have HO1 := Lib.hid ho1
  have HKA : Hid (Kept w (w1.alloc (.cells #[.iface T u] 52))) := Lib.hid (hk.trans (show Kept w1 (w1.alloc (.cells #[.iface T u] 52)) by go_grown))
  have HBA : Hid (Blk (w1.alloc (.cells #[.iface T u] 52)) b 85 #[S, .bool false, .int .u32 0]) := Lib.hid (Blk.below HB.out HKA.out)
  clear hb1 hk ho1
  go_wp2_with (at_builtin; go_must (refine wpList_append_lies _ rfl (.tmp 15) (.tmp 17) 48 rfl B 52 i0 .nilIface 1 16 Tryz.underlying48 HI.out.1 HI.out.2.1 HI.out.2.2.1 HI.out.2.2.2 rfl (by omega) S m xs rfl HO1.out ⟨w1.heap.size, 0, none⟩ 1 1 [.iface T u] rfl rfl (cell_one_new _ _ _) (by intro x hx; simp at hx; subst hx; rfl) (by omega) (by have := HM.out; simp only [maxLen]; omega) (by have := HM.out; omega) (by simp only [World.size_alloc]; have := HBB.out; have := HK.out.size; omega) _ rfl ?_); intro g cap w2 ho2 hg2 hat hgl; have hb2 : Blk w2 b 85 #[S, .bool false, .int .u32 0] := (hg2.block b HBA.out.lt (fun e => HNE.out e.symm)).trans HBA.out; have d0 : w2.cell? ⟨b, 0, none⟩ = some S := hb2.cell 0; have dz : w2.frozen? ⟨b, 0, none⟩ = false := hb2.frozen 0; have HO2 := Lib.hid ho2; have HG2 := Lib.hid hg2; have HAT := Lib.hid hat; have HGL := Lib.hid hgl; have HB2 := Lib.hid hb2; clear ho2 hg2 hat hgl hb2)
  go_ret
  have hgb : g ≠ b := fun e => by
    rcases HAT.out with h | h
    · exact HNE.out (by rw [h, e])
    · have := HK.out.size
      simp only [World.size_alloc] at h
      omega
  refine ⟨rfl, ⟨g, cap, Blk.set HB2.out 0 (.slice (some ⟨g, 0, none⟩) (m + 1) cap), HO2.out.kept (only_set (World.grownBy.refl w2 _) 0 _) (.inr (fun e => hgb (by injection e))), ?_, hgb, by simpa [World.setCell] using HGL.out⟩, HG2.out.os.trans HKA.out.os, HG2.out.tape.trans HKA.out.tape, HG2.out.output.trans HKA.out.output, ?_, fun i hi hib hiS => ?_⟩
  · rcases HAT.out with h | h
    · exact .inl h
    · right
      have := HK.out.size
      simp only [World.size_alloc] at h
      omega
  · have h1 := HG2.out.size
    have h2 := HKA.out.size
    simp only [World.setCell, Array.size_modify] at *
    omega
  · refine (heap_setCell_other w2 ⟨b, 0, none⟩ i _ hib).trans ((HG2.out.block i (Nat.lt_of_lt_of_le hi HKA.out.size) (fun e => hiS e.symm)).trans (HKA.out.block i hi))
end Go.Proofs.YtoociokhldakbaaGreat
