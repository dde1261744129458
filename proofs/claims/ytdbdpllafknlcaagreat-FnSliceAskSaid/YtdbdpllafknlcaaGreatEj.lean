/- The parts of a slice as the law draws them. -/
import Derived.Test.YtdbdpllafknlcaaGreatEi
namespace Go.Proofs.YtdbdpllafknlcaaGreat
open Go.ChangeShapes Go.WideShapes Go.ChangeAt Go.RowKit
set_option linter.unusedVariables false
set_option maxRecDepth 100000 in
set_option maxHeartbeats 1000000 in
theorem IntVal_any (v : Value) (z : Int) (hz : z.natAbs < Num.Cap) (w : World) (hv : SI w v z) :
    Calls Tryz.prog 11 #[v] w (RetVI w z) := by
  obtain ⟨A, c, l, rfl, hs, hl⟩ := hv
  obtain ⟨i0, hi0, hz0, hz1, hz2⟩ := info_parts info8
  have hlen := hl.len hz
  have W1 := (Below.refl w.heap.size w).alloc (Nat.le_refl _) (.cells #[.bool (decide (z < 0)), .slice A l.length c] 38)
  have W2 := W1.alloc (by simp) (.cells #[.int .i64 0, .bool false, .slice none 0 0, .int .u64 0, .string ⟨#[]⟩, .slice none 0 0] 26)
  have b1 : Blk ((w.alloc (.cells #[.bool (decide (z < 0)), .slice A l.length c] 38)).alloc (.cells #[.int .i64 0, .bool false, .slice none 0 0, .int .u64 0, .string ⟨#[]⟩, .slice none 0 0] 26)) w.heap.size 38 #[.bool (decide (z < 0)), .slice A l.length c] :=
    (Blk.new w _ _).below ((Below.refl _ _).alloc (Nat.le_refl _) _)
  have b2 : Blk ((w.alloc (.cells #[.bool (decide (z < 0)), .slice A l.length c] 38)).alloc (.cells #[.int .i64 0, .bool false, .slice none 0 0, .int .u64 0, .string ⟨#[]⟩, .slice none 0 0] 26)) (w.heap.size + 1) 26 #[.int .i64 0, .bool false, .slice none 0 0, .int .u64 0, .string ⟨#[]⟩, .slice none 0 0] := by
    have := Blk.new (w.alloc (.cells #[.bool (decide (z < 0)), .slice A l.length c] 38)) 26 #[.int .i64 0, .bool false, .slice none 0 0, .int .u64 0, .string ⟨#[]⟩, .slice none 0 0]
    rwa [World.size_alloc] at this
  go_enter Tryz.func11, Tryz.ntmps11
  go_wp2_with fail
  have c1 : ((w.alloc (.cells #[.bool (decide (z < 0)), .slice A l.length c] 38)).alloc (.cells #[.int .i64 0, .bool false, .slice none 0 0, .int .u64 0, .string ⟨#[]⟩, .slice none 0 0] 26)).cell? ⟨w.heap.size, 0, none⟩ = some (.bool (decide (z < 0))) := b1.cell 0
  have c2 : ((w.alloc (.cells #[.bool (decide (z < 0)), .slice A l.length c] 38)).alloc (.cells #[.int .i64 0, .bool false, .slice none 0 0, .int .u64 0, .string ⟨#[]⟩, .slice none 0 0] 26)).cell? ⟨w.heap.size, 1, none⟩ = some (.slice A l.length c) := b1.cell 1
  have hsz : ((w.alloc (.cells #[.bool (decide (z < 0)), .slice A l.length c] 38)).alloc (.cells #[.int .i64 0, .bool false, .slice none 0 0, .int .u64 0, .string ⟨#[]⟩, .slice none 0 0] 26)).heap.size = w.heap.size + 1 + 1 := by simp
  generalize ((w.alloc (.cells #[.bool (decide (z < 0)), .slice A l.length c] 38)).alloc (.cells #[.int .i64 0, .bool false, .slice none 0 0, .int .u64 0, .string ⟨#[]⟩, .slice none 0 0] 26)) = W at *
  have hown : (W.alloc (.cells #[] 5)).drew.ownsRow (w.heap.size + 1 + 1) 5 1 (.slice (some ⟨w.heap.size + 1 + 1, 0, none⟩) 0 0) 0 [] := by
    rw [← hsz]
    exact World.ownsRow_lit W #[] 0 (Nat.le_refl _) (Nat.zero_le _) rfl
  have hs' : Sl (W.alloc (.cells #[] 5)).drew A c (by8 l) := (hs.below W2).below (Below.drew ((Below.refl _ _).alloc (Nat.le_refl _) _))
  have l1 : w.heap.size < W.heap.size := by omega
  have l2 : w.heap.size + 1 < W.heap.size := by omega
  have d1 : (W.alloc (.cells #[] 5)).drew.cell? ⟨w.heap.size, 0, none⟩ = some (.bool (decide (z < 0))) := (World.cell?_of_block (heap_alloc_old W _ l1)).trans c1
  have d2 : (W.alloc (.cells #[] 5)).drew.cell? ⟨w.heap.size, 1, none⟩ = some (.slice A l.length c) := (World.cell?_of_block (heap_alloc_old W _ l1)).trans c2
  have b2' : (W.alloc (.cells #[] 5)).drew.heap[w.heap.size + 1]? = some (.cells #[.int .i64 0, .bool false, .slice none 0 0, .int .u64 0, .string ⟨#[]⟩, .slice none 0 0] 26 (0, 0)) := (heap_alloc_old W _ l2).trans b2
  go_region_held3 (fun X : World => X.cell? ⟨w.heap.size, 0, none⟩ = some (.bool (decide (z < 0))) ∧ X.cell? ⟨w.heap.size, 1, none⟩ = some (.slice A l.length c))
    (first
      | exact ⟨c1, c2⟩
      | exact ⟨d1, d2⟩
      | exact ⟨e1, e2⟩
      | exact ⟨(cell_setRow_other _ _ _ _ (by simp)).trans e1, (cell_setRow_other _ _ _ _ (by simp)).trans e2⟩)
    (first
      | (
          refine step_append_sl rfl (.tmp 5) (.tmp 7) 22 rfl (w.heap.size + 1 + 1) 5 i0 _ _ Tryz.underlying22 hi0 hz0 hz1 hz2 rfl _ 0 [] rfl hown A l.length c (by8 l) rfl (by8_len l) hs' (by8_one l) (by unfold maxLen; omega) (by omega) (by show _ ≤ (W.alloc (.cells #[] 5)).heap.size; simp only [World.size_alloc]; omega) ?_
          intro v' w' h2 h3
          rw [Nat.zero_add, List.nil_append] at h2
          obtain ⟨A1, k1, rfl⟩ := own_slice h2
          have e1 : w'.cell? ⟨w.heap.size, 0, none⟩ = some (.bool (decide (z < 0))) := h3.cell d1 (by simp only [Value.ownBlock]; intro h; injection h with h; simp only at h; omega)
          have e2 : w'.cell? ⟨w.heap.size, 1, none⟩ = some (.slice A l.length c) := h3.cell d2 (by simp only [Value.ownBlock]; intro h; injection h with h; simp only at h; omega)
          have B2 : Blk w' (w.heap.size + 1) 26 #[.int .i64 0, .bool false, .slice none 0 0, .int .u64 0, .string ⟨#[]⟩, .slice none 0 0] := (h3.block _ (by show _ < (W.alloc (.cells #[] 5)).heap.size; simp only [World.size_alloc]; omega) (by simp only [Value.ownBlock]; intro h; injection h with h; simp only at h; omega)).trans b2'
          have hst := run_storeVar_row (P := Tryz.prog) w' (w.heap.size + 1) 26 26 _ #[.int .i64 2, .bool (decide (z < 0)), .slice A1 l.length k1, .int .u64 0, .string ⟨#[]⟩, .slice none 0 0] B2 info_Val rfl (by simp [Value.oneCell'])
          simp [go_sem] at hst)
      | fail)
  go_wp2_with fail
  refine bodyPost_blk (cs := #[.int .i64 2, .bool (decide (z < 0)), .slice A1 l.length k1, .int .u64 0, .string ⟨#[]⟩, .slice none 0 0]) rfl rfl (setRow_heap _ _ _ _ _ _ B2) Tryz.underlying26 rfl (by exact info_Val) rfl ?_
  have hsl := Sl.of_own h2
  have hfz : Fz (w.heap.size + 1 + 1) A1 := fun b off e => (h2.lt b (by rw [e]; rfl)).1
  have hkw : Kept w w' := by
    refine Below.grown (w := (W.alloc (.cells #[] 5)).drew) (W2.drew.alloc ?_ _) h3 ?_ ?_
    · show w.heap.size ≤ W.heap.size; omega
    · show _ ≤ (W.alloc (.cells #[] 5)).heap.size; simp only [World.size_alloc]; omega
    · intro k e; cases e; simp only; omega
  refine ⟨_, rfl, ⟨A1, k1, l, rfl, ?_, hl, hfz.mono (by omega)⟩, below_setRow hkw (by omega) _⟩
  exact hsl.1.setRow hfz (by omega) _
theorem info_SInt : (Tryz.prog.info? 38).map (·.size) = some 2 := by kernel_rfl
set_option maxRecDepth 100000 in
set_option maxHeartbeats 1000000 in
theorem Num_any (k q : Int) (b : Bool) (A K : Option Addr) (c kl kc : Nat) (T : ByteArray) (l : List Nat) (hl : l.length ≤ 140737488351232) (hd : ∀ d ∈ l, d < 256) (w : World) (hs : Sl w A c (by8 l)) :
    Calls Tryz.prog 9 #[.agg #[.int .i64 k, .bool b, .slice A l.length c, .int .u64 q, .string T, .slice K kl kc]] w (RetSI w (sgn b (Num.le 256 l.reverse))) := by
  obtain ⟨W, hW⟩ : ∃ W, W = ((w.alloc (.cells #[.int .i64 k, .bool b, .slice A l.length c, .int .u64 q, .string T, .slice K kl kc] 26)).alloc (.cells #[.bool false, .slice none 0 0] 38)) := ⟨_, rfl⟩
  have hk : Kept w W := by rw [hW]; exact ((Below.refl _ _).alloc (Nat.le_refl _) _).alloc (by simp) _
  have hb1 : Blk W (w.heap.size + 1) 38 #[.bool false, .slice none 0 0] := by
    rw [hW]
    have := Blk.new (w.alloc (.cells #[.int .i64 k, .bool b, .slice A l.length c, .int .u64 q, .string T, .slice K kl kc] 26)) 38 #[.bool false, .slice none 0 0]
    rwa [World.size_alloc] at this
  have HO := Lib.hid (Of_any b A c l hl hd W (hs.below hk))
  have HK := Lib.hid hk
  have HB := Lib.hid hb1
  clear hs hk hb1
  subst hW
  go_enter Tryz.func9, Tryz.ntmps9
  go_wp2_with fail
  refine HO.out.mono ?_
  rintro e w1 ⟨v, rfl, hv, hk1⟩
  have hzs := HB.out.lt
  have HV := Lib.hid hv
  obtain ⟨b', A', n', c', rfl⟩ := hv.two
  have hb2 := HB.out.below hk1
  have hst := run_storeVar_row (P := Tryz.prog) w1 (w.heap.size + 1) 38 38 _ #[.bool b', .slice A' n' c'] hb2 info_SInt rfl (by simp [Value.oneCell'])
  have HB2 : Hid (Blk (w1.setRow (w.heap.size + 1) #[.bool b', .slice A' n' c']) (w.heap.size + 1) 38 #[.bool b', .slice A' n' c']) := Lib.hid (setRow_heap _ _ _ _ _ _ hb2)
  have HKF := Lib.hid (below_setRow (Kept.trans HK.out hk1) (show w.heap.size ≤ w.heap.size + 1 by omega) #[.bool b', .slice A' n' c'])
  have HVF := Lib.hid ((HV.out.setRow (show w.heap.size + 1 < _ from hzs) #[.bool b', .slice A' n' c']).mono (show w.heap.size ≤ _ by omega))
  clear hv hk1 hb2 HB HO HK HV
  simp [go_sem] at hst
  go_wp2_with fail
  refine bodyPost_blk (cs := #[.bool b', .slice A' n' c']) rfl rfl HB2.out Tryz.underlying38 rfl (by exact info_SInt) rfl ?_
  exact ⟨_, rfl, HVF.out, HKF.out⟩
set_option maxRecDepth 100000 in
theorem TextVal_any (T : ByteArray) (w : World) :
    Calls Tryz.prog 13 #[.string T] w fun e w' => e = .returned (.agg #[.int .i64 4, .bool false, .slice none 0 0, .int .u64 0, .string T, .slice none 0 0]) ∧ Kept w w' := by
  have hk : Kept w (w.alloc (.cells #[.int .i64 4, .bool false, .slice none 0 0, .int .u64 0, .string T, .slice none 0 0] 26)) := by go_grown
  go_enter Tryz.func13, Tryz.ntmps13
  go_wp2_with fail
  refine bodyPost_blk (cs := #[.int .i64 4, .bool false, .slice none 0 0, .int .u64 0, .string T, .slice none 0 0]) rfl rfl (Blk.new w _ _) Tryz.underlying26 rfl (by exact info_Val) rfl ?_
  exact ⟨rfl, hk⟩
/-- a part of a slice as the laws have it: as 'IV'; of a text all is known -/
def IW (w : World) (k : Int) (b : Bool) (A : Option Addr) (n c : Nat) : Option (Option Int) → Prop
  | none => k = 4 ∧ b = false ∧ A = none ∧ n = 0 ∧ c = 0
  | some o => IV w k b A n c (some o)
theorem IW.toIV {w : World} {k : Int} {b : Bool} {A : Option Addr} {n c : Nat} {o : Option (Option Int)} (h : IW w k b A n c o) : IV w k b A n c o := by
  cases o with
  | none => exact h.1
  | some o => exact h
theorem IW.below {w w' : World} {k : Int} {b : Bool} {A : Option Addr} {n c : Nat} {o : Option (Option Int)} (h : IW w k b A n c o) (hb : Kept w w') : IW w' k b A n c o := by
  cases o with
  | none => exact h
  | some o => exact IV.below h hb
theorem IW.far {w w' : World} {B g : Nat} {k : Int} {b : Bool} {A : Option Addr} {n c : Nat} {o : Option (Option Int)} (h : IW w k b A n c o) (hf : Fz B A) (hg : g < B) (hk : ∀ i, i < w.heap.size → i ≠ g → w'.heap[i]? = w.heap[i]?) : IW w' k b A n c o := by
  rcases o with _ | _ | z
  · exact h
  · exact h
  · obtain ⟨h0, ⟨A', c', l, e, hs, hl⟩, h2⟩ := h
    have e2 := e
    injection e2 with e2; injection e2 with e2; injection e2 with _ e2; injection e2 with _ e2; injection e2 with e2 _; injection e2 with e2 e3 e4
    subst e2
    refine ⟨h0, ⟨A, c', l, e, hs.far (fun b off hA hb => ?_) hk, hl⟩, h2⟩
    have := hf b off hA
    omega
/-- behind Steps32: a part of a slice, in new blocks -/
def RetIW (w : World) (e : Ending) (w' : World) : Prop := ∃ o k b A n c, e = .returned (.agg #[.int .i64 k, .bool b, .slice A n c, .int .u64 0, .string ⟨#[]⟩, .slice none 0 0]) ∧ IW w' k b A n c o ∧ Fz w.heap.size A ∧ Kept w w'
theorem sInt64_some (v : Value) (z : Int) (w : World) (hv : SI w v z) :
    Calls Tryz.prog 10 #[v] w fun e w' => (∃ y f, e = .returned (.tuple #[.int .i64 y, .bool f])) ∧ Kept w w' := by
  have hv2 := hv
  obtain ⟨A, c, l, rfl, _, _⟩ := hv2
  by_cases h1 : -9223372036854775808 ≤ z
  · by_cases h2 : z ≤ 9223372036854775807
    · exact (sInt64_fits _ _ _ _ z h1 h2 w hv).mono (by rintro e w' ⟨rfl, hk⟩; exact ⟨⟨_, _, rfl⟩, hk⟩)
    · exact (sInt64_above _ _ _ _ z (by omega) w hv).mono (by rintro e w' ⟨rfl, hk⟩; exact ⟨⟨_, _, rfl⟩, hk⟩)
  · exact (sInt64_below _ _ _ _ z (by omega) w hv).mono (by rintro e w' ⟨rfl, hk⟩; exact ⟨⟨_, _, rfl⟩, hk⟩)
set_option maxRecDepth 100000 in
set_option maxHeartbeats 1000000 in
theorem Steps32_int (q : Int) (b : Bool) (A K : Option Addr) (c kl kc : Nat) (T : ByteArray) (l : List Nat) (hl : l.length ≤ 140737488351232) (hd : ∀ d ∈ l, d < 256) (w : World) (hs : Sl w A c (by8 l)) :
    Calls Tryz.prog 5 #[.agg #[.int .i64 2, .bool b, .slice A l.length c, .int .u64 q, .string T, .slice K kl kc]] w (RetIW w) := by
  obtain ⟨W, hW⟩ : ∃ W, W = ((w.alloc (.cells #[.int .i64 2, .bool b, .slice A l.length c, .int .u64 q, .string T, .slice K kl kc] 26)).alloc (.cells #[.int .i64 0, .bool false, .slice none 0 0, .int .u64 0, .string ⟨#[]⟩, .slice none 0 0] 26)) := ⟨_, rfl⟩
  have hk : Kept w W := by rw [hW]; exact ((Below.refl _ _).alloc (Nat.le_refl _) _).alloc (by simp) _
  have hb1 : Blk W (w.heap.size + 1) 26 #[.int .i64 0, .bool false, .slice none 0 0, .int .u64 0, .string ⟨#[]⟩, .slice none 0 0] := by
    rw [hW]
    have := Blk.new (w.alloc (.cells #[.int .i64 2, .bool b, .slice A l.length c, .int .u64 q, .string T, .slice K kl kc] 26)) 26 #[.int .i64 0, .bool false, .slice none 0 0, .int .u64 0, .string ⟨#[]⟩, .slice none 0 0]
    rwa [World.size_alloc] at this
  have HN := Lib.hid (Num_any 2 q b A K c kl kc T l hl hd W (hs.below hk))
  have HK := Lib.hid hk
  have HB := Lib.hid hb1
  clear hs hk hb1
  subst hW
  go_enter Tryz.func5, Tryz.ntmps5
  go_wp2_with fail
  refine HN.out.mono ?_
  rintro e w1 ⟨v, rfl, hv, hk1⟩
  have HI := Lib.hid (sInt64_some v _ w1 hv.toSI)
  obtain ⟨b', A', n', c', rfl⟩ := hv.two
  have HK1 := Lib.hid (Kept.trans HK.out hk1)
  have HB1 := Lib.hid (HB.out.below hk1)
  have hzs := HB.out.lt
  clear hk1 HK HB HN hv
  go_wp2_with fail
  refine HI.out.mono ?_
  rintro e w2 ⟨⟨y, f, rfl⟩, hk2⟩
  have HK2 := Lib.hid (Kept.trans HK1.out hk2)
  have HB2 := Lib.hid (HB1.out.below hk2)
  clear hk2 HK1 HB1 HI
  go_wp2_with fail
  obtain ⟨t1, t2⟩ := w32_in y
  rw [w64_of _ t1 t2]
  generalize wrap32 y = z at *
  refine (Small_any z (by omega) (by omega) w2).mono ?_
  rintro e w3 ⟨v3, rfl, hv3, hk3⟩
  have HV := Lib.hid (IntVal_any v3 z (sm_cap t1 t2) w3 hv3.toSI)
  obtain ⟨b3, A3, n3, c3, rfl⟩ := hv3.two
  have HK3 := Lib.hid (Kept.trans HK2.out hk3)
  have HB3 := Lib.hid (HB2.out.below hk3)
  clear hk3 HK2 HB2 hv3
  go_wp2_with fail
  refine HV.out.mono ?_
  rintro e w4 ⟨v4, rfl, hv4, hk4⟩
  obtain ⟨A4, c4, l4, rfl, p1, p2, p3⟩ := hv4
  have hb4 := HB3.out.below hk4
  have hlt4 := HB3.out.lt
  have hst := run_storeVar_row (P := Tryz.prog) w4 (w.heap.size + 1) 26 26 _ #[.int .i64 2, .bool (decide (z < 0)), .slice A4 l4.length c4, .int .u64 0, .string ⟨#[]⟩, .slice none 0 0] hb4 info_Val rfl (by simp [Value.oneCell'])
  have HB4 : Hid (Blk (w4.setRow (w.heap.size + 1) #[.int .i64 2, .bool (decide (z < 0)), .slice A4 l4.length c4, .int .u64 0, .string ⟨#[]⟩, .slice none 0 0]) (w.heap.size + 1) 26 #[.int .i64 2, .bool (decide (z < 0)), .slice A4 l4.length c4, .int .u64 0, .string ⟨#[]⟩, .slice none 0 0]) := Lib.hid (setRow_heap _ _ _ _ _ _ hb4)
  have HKF := Lib.hid (below_setRow (Kept.trans HK3.out hk4) (show w.heap.size ≤ w.heap.size + 1 by omega) #[.int .i64 2, .bool (decide (z < 0)), .slice A4 l4.length c4, .int .u64 0, .string ⟨#[]⟩, .slice none 0 0])
  have HS4 := Lib.hid (p1.setRow p3 hlt4 #[.int .i64 2, .bool (decide (z < 0)), .slice A4 l4.length c4, .int .u64 0, .string ⟨#[]⟩, .slice none 0 0])
  have HL4 := Lib.hid p2
  have HF4 := Lib.hid (p3.mono (show w.heap.size ≤ w3.heap.size by omega))
  clear p1 p2 p3 hk4 hb4 HB3 HK3 HV
  simp [go_sem] at hst
  go_wp2_with fail
  refine bodyPost_blk (cs := #[.int .i64 2, .bool (decide (z < 0)), .slice A4 l4.length c4, .int .u64 0, .string ⟨#[]⟩, .slice none 0 0]) rfl rfl HB4.out Tryz.underlying26 rfl (by exact info_Val) rfl ?_
  exact ⟨some (some z), 2, _, A4, _, c4, rfl, ⟨rfl, ⟨A4, c4, l4, rfl, HS4.out, HL4.out⟩, t1, t2⟩, HF4.out, HKF.out⟩
theorem Fz.none (B : Nat) : Fz B Option.none := fun b off e => by cases e
set_option maxRecDepth 100000 in
set_option maxHeartbeats 1000000 in
theorem Steps32_text (q : Int) (b : Bool) (A K : Option Addr) (n c kl kc : Nat) (T : ByteArray) (w : World) :
    Calls Tryz.prog 5 #[.agg #[.int .i64 4, .bool b, .slice A n c, .int .u64 q, .string T, .slice K kl kc]] w (RetIW w) := by
  obtain ⟨W, hW⟩ : ∃ W, W = ((w.alloc (.cells #[.int .i64 4, .bool b, .slice A n c, .int .u64 q, .string T, .slice K kl kc] 26)).alloc (.cells #[.int .i64 0, .bool false, .slice none 0 0, .int .u64 0, .string ⟨#[]⟩, .slice none 0 0] 26)) := ⟨_, rfl⟩
  have hk : Kept w W := by rw [hW]; exact ((Below.refl _ _).alloc (Nat.le_refl _) _).alloc (by simp) _
  have hb1 : Blk W (w.heap.size + 1) 26 #[.int .i64 0, .bool false, .slice none 0 0, .int .u64 0, .string ⟨#[]⟩, .slice none 0 0] := by
    rw [hW]
    have := Blk.new (w.alloc (.cells #[.int .i64 4, .bool b, .slice A n c, .int .u64 q, .string T, .slice K kl kc] 26)) 26 #[.int .i64 0, .bool false, .slice none 0 0, .int .u64 0, .string ⟨#[]⟩, .slice none 0 0]
    rwa [World.size_alloc] at this
  have HK := Lib.hid hk
  have HB := Lib.hid hb1
  clear hk hb1
  subst hW
  go_enter Tryz.func5, Tryz.ntmps5
  go_wp2_with fail
  refine (TextVal_any _ _).mono ?_
  rintro e w4 ⟨rfl, hk4⟩
  have hb4 := HB.out.below hk4
  have hst := run_storeVar_row (P := Tryz.prog) w4 (w.heap.size + 1) 26 26 _ #[.int .i64 4, .bool false, .slice none 0 0, .int .u64 0, .string ⟨#[]⟩, .slice none 0 0] hb4 info_Val rfl (by simp [Value.oneCell'])
  have HB4 : Hid (Blk (w4.setRow (w.heap.size + 1) #[.int .i64 4, .bool false, .slice none 0 0, .int .u64 0, .string ⟨#[]⟩, .slice none 0 0]) (w.heap.size + 1) 26 #[.int .i64 4, .bool false, .slice none 0 0, .int .u64 0, .string ⟨#[]⟩, .slice none 0 0]) := Lib.hid (setRow_heap _ _ _ _ _ _ hb4)
  have HKF := Lib.hid (below_setRow (Kept.trans HK.out hk4) (show w.heap.size ≤ w.heap.size + 1 by omega) #[.int .i64 4, .bool false, .slice none 0 0, .int .u64 0, .string ⟨#[]⟩, .slice none 0 0])
  clear hk4 hb4 HB HK
  simp [go_sem] at hst
  go_wp2_with fail
  refine bodyPost_blk (cs := #[.int .i64 4, .bool false, .slice none 0 0, .int .u64 0, .string ⟨#[]⟩, .slice none 0 0]) rfl rfl HB4.out Tryz.underlying26 rfl (by exact info_Val) rfl ?_
  exact ⟨none, 4, false, none, 0, 0, rfl, ⟨rfl, rfl, rfl, rfl, rfl⟩, Fz.none _, HKF.out⟩
set_option maxRecDepth 100000 in
set_option maxHeartbeats 1000000 in
theorem Steps32_other (k q : Int) (b : Bool) (A K : Option Addr) (n c kl kc : Nat) (T : ByteArray) (w : World) (h2 : k ≠ 2) (h4 : k ≠ 4) :
    Calls Tryz.prog 5 #[.agg #[.int .i64 k, .bool b, .slice A n c, .int .u64 q, .string T, .slice K kl kc]] w (RetIW w) := by
  obtain ⟨W, hW⟩ : ∃ W, W = ((w.alloc (.cells #[.int .i64 k, .bool b, .slice A n c, .int .u64 q, .string T, .slice K kl kc] 26)).alloc (.cells #[.int .i64 0, .bool false, .slice none 0 0, .int .u64 0, .string ⟨#[]⟩, .slice none 0 0] 26)) := ⟨_, rfl⟩
  have hk : Kept w W := by rw [hW]; exact ((Below.refl _ _).alloc (Nat.le_refl _) _).alloc (by simp) _
  have hb1 : Blk W (w.heap.size + 1) 26 #[.int .i64 0, .bool false, .slice none 0 0, .int .u64 0, .string ⟨#[]⟩, .slice none 0 0] := by
    rw [hW]
    have := Blk.new (w.alloc (.cells #[.int .i64 k, .bool b, .slice A n c, .int .u64 q, .string T, .slice K kl kc] 26)) 26 #[.int .i64 0, .bool false, .slice none 0 0, .int .u64 0, .string ⟨#[]⟩, .slice none 0 0]
    rwa [World.size_alloc] at this
  have HK := Lib.hid hk
  have HB := Lib.hid hb1
  clear hk hb1
  subst hW
  go_enter Tryz.func5, Tryz.ntmps5
  go_wp2_with fail
  refine bodyPost_blk (cs := #[.int .i64 0, .bool false, .slice none 0 0, .int .u64 0, .string ⟨#[]⟩, .slice none 0 0]) rfl rfl HB.out Tryz.underlying26 rfl (by exact info_Val) rfl ?_
  exact ⟨some none, 0, false, none, 0, 0, rfl, rfl, Fz.none _, HK.out⟩
theorem Steps32_any (k q : Int) (b : Bool) (A K : Option Addr) (c kl kc : Nat) (T : ByteArray) (l : List Nat) (hl : l.length ≤ 140737488351232) (hd : ∀ d ∈ l, d < 256) (w : World) (hs : Sl w A c (by8 l)) :
    Calls Tryz.prog 5 #[.agg #[.int .i64 k, .bool b, .slice A l.length c, .int .u64 q, .string T, .slice K kl kc]] w (RetIW w) := by
  by_cases h2 : k = 2
  · subst h2; exact Steps32_int q b A K c kl kc T l hl hd w hs
  · by_cases h4 : k = 4
    · subst h4; exact Steps32_text q b A K l.length c kl kc T w
    · exact Steps32_other k q b A K l.length c kl kc T w h2 h4
end Go.Proofs.YtdbdpllafknlcaaGreat
