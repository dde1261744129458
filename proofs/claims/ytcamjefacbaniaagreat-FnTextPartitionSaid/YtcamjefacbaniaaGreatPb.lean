/- Partition: the thin package's answer. -/
import Derived.Test.YtcamjefacbaniaaGreatPa
namespace Go.Proofs.YtcamjefacbaniaaGreat
open Go.ChangeShapes Go.WideShapes Go.ChangeAt Go.RowKit
set_option linter.unusedVariables false
set_option maxRecDepth 100000 in
theorem errNew_any (s : ByteArray) (w : World) :
    Calls Tryz.prog 63 #[.string s] w fun e w' => ∃ v, e = .returned (.iface 153 v) ∧ Kept w w' := by
  go_enter Tryz.func63, Tryz.ntmps63
  go_wp2_with fail
  go_ret
  exact ⟨_, rfl, by go_grown⟩
set_option maxRecDepth 100000 in
theorem nameErr_any (p v : Value) (w : World) :
    Calls Tryz.prog 50 #[p, v] w fun e w' => ∃ v, e = .returned (.iface 153 v) ∧ Kept w w' := by
  go_enter Tryz.func50, Tryz.ntmps50
  go_wp2_with fail
  refine (errNew_any _ w).mono ?_
  rintro e w1 ⟨x, rfl, hk⟩
  go_wp2_with fail
  go_ret
  exact ⟨_, rfl, hk⟩
set_option maxRecDepth 100000 in
set_option maxHeartbeats 2000000 in
theorem string_partition_no (nm : ByteArray) (T P : ByteArray) (h0 : P.size = 0) (f : Value) (g ga ca : Nat) (w : World) (hb : Blk w g 108 #[.string nm, f, .iface 49 (.string T)])
    (ha : w.cell? ⟨ga, 0, none⟩ = some (.iface 49 (.string P))) :
    Calls Tryz.prog 28 #[.pointer none, .pointer (some ⟨g, 0, none⟩), .slice (some ⟨ga, 0, none⟩) 1 ca, .slice none 0 0] w
      (Ret2 fun a b w' => a = .nilIface ∧ (∃ v, b = .iface 153 v) ∧ Kept w w') := by
  have HB := Lib.hid hb
  have rs := recv_str T
  have hPe : P.toList.isEmpty = true := by rw [empty_iff]; exact decide_eq_true h0
  have hPe2 : P.toList = [] := List.isEmpty_iff.1 hPe
  have hgl := hb.lt
  have hga := block_lt_of_cell ha
  clear hb
  go_enter Tryz.func28, Tryz.ntmps28
  go_wp2_with fail
  refine (brecv_any g nm T f w HB.out).mono ?_
  rintro e w1 ⟨rfl, rfl⟩
  go_wp2_with fail
  have hk0 : Kept w (w.alloc (.cells #[.string ⟨#[]⟩] 9)) := (Below.refl _ _).alloc (Nat.le_refl _) _
  refine (bname_any g nm f _ _ (HB.out.below hk0)).mono ?_
  rintro e w1 ⟨rfl, rfl⟩
  go_wp2_with fail
  have hk1 : Kept w ((w.alloc (.cells #[.string ⟨#[]⟩] 9)).alloc (.cells #[.iface 94 (.pointer (some ⟨w.heap.size, 0, none⟩))] 20)) := by go_grown
  have hb1 : Blk ((w.alloc (.cells #[.string ⟨#[]⟩] 9)).alloc (.cells #[.iface 94 (.pointer (some ⟨w.heap.size, 0, none⟩))] 20)) w.heap.size 9 #[.string ⟨#[]⟩] := (Blk.new w _ _).below ((Below.refl _ _).alloc (Nat.le_refl _) _)
  have hb2 : Blk ((w.alloc (.cells #[.string ⟨#[]⟩] 9)).alloc (.cells #[.iface 94 (.pointer (some ⟨w.heap.size, 0, none⟩))] 20)) (w.heap.size + 1) 20 #[.iface 94 (.pointer (some ⟨w.heap.size, 0, none⟩))] := by
    have := Blk.new (w.alloc (.cells #[.string ⟨#[]⟩] 9)) 20 #[.iface 94 (.pointer (some ⟨w.heap.size, 0, none⟩))]
    rwa [World.size_alloc] at this
  have ha1 := (hk1.cell (p := ⟨ga, 0, none⟩) hga).trans ha
  have HU := Lib.hid (unpack1_any nm P ⟨#[]⟩ w.heap.size ga (w.heap.size + 1) ca 1 _ hb1 ha1 (hb2.cell 0))
  generalize ((w.alloc (.cells #[.string ⟨#[]⟩] 9)).alloc (.cells #[.iface 94 (.pointer (some ⟨w.heap.size, 0, none⟩))] 20)) = W1 at *
  refine (HU.out).mono ?_
  rintro e W2 ⟨rfl, hW2⟩
  have hc2 : W2.cell? ⟨w.heap.size, 0, none⟩ = some (.string P) := by rw [hW2]; exact World.cell?_setCell_same _ _ _ (hb1.cell 0)
  have hk2 : Kept w W2 := by rw [hW2]; exact hk1.setCell (Nat.le_refl _) _
  have HK2 := Lib.hid hk2
  clear hW2 hb1 hb2 hk1 hk2 ha1 ha HB hk0
  go_wp2_with fail
  refine (nameErr_any _ _ W2).mono ?_
  rintro e w3 ⟨v, rfl, hk3⟩
  have HK3 := Lib.hid hk3
  clear hk3
  go_wp2_with fail
  go_ret2
  exact ⟨_, _, rfl, rfl, ⟨_, rfl⟩, HK2.out.trans HK3.out⟩
theorem svs_len (l : List ByteArray) : (svs l).length = l.length := by simp [svs]
theorem svs_get (l : List ByteArray) (k : Nat) (h : k < l.length) : (svs l)[k]? = some (.iface 49 (.string (l[k]'h))) := by simp [svs, h]
theorem strs_len (l : List ByteArray) : (strs l).length = l.length := by simp [strs]
theorem strs_get (l : List ByteArray) (k : Nat) (h : k < l.length) : (strs l)[k]? = some (.string (l[k]'h)) := by simp [strs, h]
theorem strs_snoc (l : List ByteArray) (k : Nat) (h : k < l.length) : strs (l.take (k + 1)) = strs (l.take k) ++ [.string (l[k]'h)] := by
  rw [List.take_succ_eq_append_getElem h]
  simp only [strs, List.map_append, List.map_cons, List.map_nil]
theorem infoStr : (Tryz.prog.info? 9).map (fun i => (i.zero, i.size, i.bytes)) = some (some (.string ByteArray.empty), 1, 16) := by kernel_rfl
theorem only_kept {w w' : World} (h : Kept w w') (row : Option Nat) : w.grownBy w' row := ⟨h.os, h.tape, h.output, h.size, fun i hi _ => h.block i hi⟩
theorem own_slice {w : World} {B e n : Nat} {v : Value} {xs : List Value} (h : w.ownsRow B e 1 v n xs) : ∃ A c, v = .slice A n c := by
  rcases h.2 with ⟨e1, e2⟩ | ⟨g, cap, cur, e1, _⟩
  · subst e2; exact ⟨_, _, e1⟩
  · exact ⟨_, _, e1⟩
set_option maxRecDepth 100000 in
set_option maxHeartbeats 1000000 in
theorem ofTexts_tuple (A : Option Addr) (c : Nat) (l : List ByteArray) (hl : l.length ≤ 1000) (w : World) (hs : Sl w A c (svs l)) :
    Calls Tryz.prog 12 #[.iface 61 (.slice A l.length c), .nilIface] w fun e w' => ∃ A c, e = .returned (.tuple #[.slice A l.length c, .bool true]) ∧ Sl w' A c (strs l) ∧ Kept w w' := by
  obtain ⟨i0, hi0, hz0, hz1, hz2⟩ := info_parts infoStr
  have HS := Lib.hid hs
  have ta : ∀ w : World, (Instr.typeAssert (.iface 61 (.slice A l.length c)) 44 56 true).run Tryz.prog w = .ok (.tuple #[.pointer none, .bool false]) w := fun _ => by kernel_rfl
  have tb : ∀ w : World, (Instr.typeAssert (.iface 61 (.slice A l.length c)) 44 61 true).run Tryz.prog w = .ok (.tuple #[.slice A l.length c, .bool true]) w := fun _ => by kernel_rfl
  clear hs
  go_enter Tryz.func12, Tryz.ntmps12
  go_wp2_with fail
  go_loopw [4, 43] (fun lv iv wr => ∃ k : Nat, iv = .int .i64 k ∧ k ≤ l.length ∧ wr.ownsRow w.heap.size 9 1 lv k (strs (l.take k)) ∧ Below w.heap.size w wr) (fun _ iv _ => l.length - (intOf iv).toNat)
  case atStart => exact ⟨0, rfl, Nat.zero_le _, by simpa [strs] using World.ownsRow_nil _ _ _ _, Below.refl _ _⟩
  case round =>
    obtain ⟨k, rfl, hk, hown, hbw⟩ := hrel
    have hown' := hown
    obtain ⟨A2, cap, rfl⟩ := own_slice hown'
    clear hown'
    by_cases hlt : k < l.length
    · obtain ⟨b, off, rfl, hc⟩ := HS.out.at_ (fun h => by have := congrArg List.length h; rw [svs_len, List.length_nil] at this; omega)
      have hck : wr.cell? ⟨b, off + k, none⟩ = some (.iface 49 (.string (l[k]'hlt))) :=
        (hbw.cell (p := ⟨b, off + k, none⟩) (block_lt_of_cell (hc k _ (svs_get l k hlt)))).trans (hc k _ (svs_get l k hlt))
      have hat := asStr (l[k]'hlt)
      have hels := strs_snoc l k hlt
      have hown2 := hown.alloc (.cells #[.string (l[k]'hlt)] 9)
      have hlit : Sl (wr.alloc (.cells #[.string (l[k]'hlt)] 9)) (some ⟨wr.heap.size, 0, none⟩) 1 [.string (l[k]'hlt)] := by
        refine ⟨Nat.le_refl _, by unfold maxLen; omega, fun _ => ⟨_, _, rfl, fun j u hu => ?_⟩⟩
        cases j with
        | zero => injection hu with hu; subst hu; exact (Blk.new wr 9 #[.string (l[k]'hlt)]).cell 0
        | succ j => simp at hu
      have hz := hbw.size
      have hbw3 : Below w.heap.size w (wr.alloc (.cells #[.string (l[k]'hlt)] 9)) := hbw.alloc (by omega) _
      have hsz3 : (wr.alloc (.cells #[.string (l[k]'hlt)] 9)).heap.size = wr.heap.size + 1 := World.size_alloc _ _
      clear hc
      generalize l[k]'hlt = s at *
      have HOWN := Lib.hid hown2
      have HELS := Lib.hid hels
      have HLIT := Lib.hid hlit
      clear hown hown2 hels hlit
      go_wp2_with (at_builtin; refine wpList_append_sl rfl (.tmp 52) (.tmp 54) 28 rfl w.heap.size 9 i0 (.string ByteArray.empty) 16 Tryz.underlying28 hi0 hz0 hz1 hz2 rfl _ k (strs (l.take k)) rfl HOWN.out _ 1 _ [.string s] rfl rfl HLIT.out (by intro u hu; rw [List.mem_singleton.1 hu]; rfl) (by unfold maxLen; omega) (by omega) (by omega) ?_; intro v1 w1_ hown1 hg1)
      rw [← HELS.out] at hown1
      have hg1' : (wr.alloc (.cells #[.string s] 9)).grownBy w1_ (Value.slice A2 k cap).ownBlock := hg1
      exact ⟨⟨k + 1, by go_num, by omega, hown1, Below.grown hbw3 hg1' hbw3.size (fun q hq => (HOWN.out.lt _ hq).1)⟩, by simp [intOf]; omega⟩
    · obtain rfl : k = l.length := by omega
      rw [List.take_of_length_le (Nat.le_refl _)] at hown
      have HOWN := Lib.hid hown
      clear hown
      go_wp2_with fail
      go_ret2
      exact ⟨A2, cap, rfl, (Sl.of_own HOWN.out).1, hbw⟩
theorem prt_len (back : Bool) (T P : ByteArray) (r : Int) : (prt back T P r).length = 3 := by
  unfold prt; split
  · split <;> rfl
  · rfl
set_option maxRecDepth 100000 in
set_option maxHeartbeats 1000000 in
theorem ZzPartition_yes (back : Bool) (T P : ByteArray) (hT : T.size ≤ 60) (hP : P.size ≤ 60) (h0 : 0 < P.size) (ga ca : Nat) (w : World) (ha : w.cell? ⟨ga, 0, none⟩ = some (.iface 49 (.string P))) :
    Calls Tryz.prog 13 #[.string (nmPart back), .string T, .slice (some ⟨ga, 0, none⟩) 1 ca] w
      (Ret2 fun a b w' => ∃ r A c, a = .iface 61 (.slice A 3 c) ∧ b = .nilIface ∧ PlaceAt back T P (plc T P) r ∧ Sl w' A c (svs (prt back T P r)) ∧ Kept w w') := by
  have hga := block_lt_of_cell ha
  have HZ := Lib.hid (zzCall_partition (nmPart back) T (.slice (some ⟨ga, 0, none⟩) 1 ca) _ w fun W2 g hk hb => (string_partition_yes back T P hT hP h0 _ g ga ca W2 hb ((hk.cell (p := ⟨ga, 0, none⟩) hga).trans ha)).mono fun e w' ⟨a, b, h1, r, A, c, h2, h3, h4, h5, h6⟩ => ⟨a, b, h1, (show (fun a b w' => ∃ r A c, a = Value.iface 61 (.slice A 3 c) ∧ b = Value.nilIface ∧ PlaceAt back T P (plc T P) r ∧ Sl w' A c (svs (prt back T P r)) ∧ Kept w w') a b w' from ⟨r, A, c, h2, h3, h4, h5, hk.trans h6⟩)⟩)
  clear ha
  go_enter Tryz.func13, Tryz.ntmps13
  go_wp2_with fail
  refine (HZ.out).mono ?_
  rintro e w1 ⟨a, b, rfl, r, A, c, rfl, rfl, hr, hs, hk⟩
  have HH := Lib.hid (And.intro hr (And.intro hs hk))
  clear hr hs hk
  go_wp2_with fail
  go_ret2
  exact ⟨_, _, rfl, r, A, c, rfl, rfl, HH.out⟩
set_option maxRecDepth 100000 in
set_option maxHeartbeats 1000000 in
theorem ZzPartition_no (nm : ByteArray) (T P : ByteArray) (h0 : P.size = 0) (ga ca : Nat) (w : World) (ha : w.cell? ⟨ga, 0, none⟩ = some (.iface 49 (.string P))) :
    Calls Tryz.prog 13 #[.string nm, .string T, .slice (some ⟨ga, 0, none⟩) 1 ca] w
      (Ret2 fun a b w' => a = .nilIface ∧ (∃ v, b = .iface 153 v) ∧ Kept w w') := by
  have hga := block_lt_of_cell ha
  have HZ := Lib.hid (zzCall_partition nm T (.slice (some ⟨ga, 0, none⟩) 1 ca) _ w fun W2 g hk hb => (string_partition_no nm T P h0 _ g ga ca W2 hb ((hk.cell (p := ⟨ga, 0, none⟩) hga).trans ha)).mono fun e w' ⟨a, b, h1, h2, h3, h6⟩ => ⟨a, b, h1, (show (fun a b w' => a = Value.nilIface ∧ (∃ v, b = Value.iface 153 v) ∧ Kept w w') a b w' from ⟨h2, h3, hk.trans h6⟩)⟩)
  clear ha
  go_enter Tryz.func13, Tryz.ntmps13
  go_wp2_with fail
  refine (HZ.out).mono ?_
  rintro e w1 ⟨a, b, rfl, rfl, ⟨v, rfl⟩, hk⟩
  have HH := Lib.hid hk
  clear hk
  go_wp2_with fail
  go_ret2
  exact ⟨_, _, rfl, rfl, ⟨v, rfl⟩, HH.out⟩
set_option maxRecDepth 100000 in
theorem ofTexts_err (v : Value) (w : World) :
    Calls Tryz.prog 12 #[.nilIface, .iface 153 v] w fun e w' => e = .returned (.tuple #[.slice none 0 0, .bool false]) ∧ w = w' := by
  have tn : ∀ w : World, (binOp .neq 46 (.iface 153 v) .nilIface).run Tryz.prog w = .ok (.bool true) w := fun _ => by simp [go_sem]
  go_enter Tryz.func12, Tryz.ntmps12
  go_wp2_with fail
  go_ret2
  exact ⟨rfl, rfl⟩
/-- what the thin package answers -/
def RetParts (back : Bool) (T P : ByteArray) (w : World) (e : Ending) (w' : World) : Prop := ∃ r A c, e = .returned (.tuple #[.slice A 3 c, .bool true]) ∧ PlaceAt back T P (plc T P) r ∧ Sl w' A c (strs (prt back T P r)) ∧ Kept w w'
set_option maxRecDepth 100000 in
set_option maxHeartbeats 1000000 in
theorem TextPartition_yes (back : Bool) (T P : ByteArray) (hT : T.size ≤ 60) (hP : P.size ≤ 60) (h0 : 0 < P.size) (w : World) :
    Calls Tryz.prog 8 #[.bool back, .string T, .string P] w (RetParts back T P w) := by
  have hb := Blk.new w 44 #[.iface 49 (.string P)]
  have hk : Kept w (w.alloc (.cells #[.iface 49 (.string P)] 44)) := (Below.refl _ _).alloc (Nat.le_refl _) _
  have HZ := Lib.hid (ZzPartition_yes back T P hT hP h0 w.heap.size 1 _ (hb.cell 0))
  have HK := Lib.hid hk
  clear hb hk
  have e1 : nmPart true = ⟨#[114, 112, 97, 114, 116, 105, 116, 105, 111, 110]⟩ := rfl
  have e2 : nmPart false = ⟨#[112, 97, 114, 116, 105, 116, 105, 111, 110]⟩ := rfl
  cases back
  · rw [e2] at HZ
    go_enter Tryz.func8, Tryz.ntmps8
    go_wp2_with fail
    generalize w.alloc (.cells #[.iface 49 (.string P)] 44) = W1 at *
    refine (HZ.out).mono ?_
    rintro e w1 ⟨a, b, rfl, r, A, c, rfl, rfl, hr, hs, hk1⟩
    have HO := Lib.hid (ofTexts_tuple A c (prt false T P r) (by rw [prt_len]; omega) w1 hs)
    rw [prt_len] at HO
    have HR := Lib.hid hr
    have HK1 := Lib.hid hk1
    clear hr hs hk1
    go_wp2_with fail
    refine (HO.out).mono ?_
    rintro e w2 ⟨A2, c2, rfl, hs2, hk2⟩
    have HS2 := Lib.hid hs2
    have HK2 := Lib.hid hk2
    clear hs2 hk2
    go_wp2_with fail
    go_ret2
    exact ⟨r, A2, c2, rfl, HR.out, HS2.out, (HK.out.trans HK1.out).trans HK2.out⟩
  · rw [e1] at HZ
    go_enter Tryz.func8, Tryz.ntmps8
    go_wp2_with fail
    generalize w.alloc (.cells #[.iface 49 (.string P)] 44) = W1 at *
    refine (HZ.out).mono ?_
    rintro e w1 ⟨a, b, rfl, r, A, c, rfl, rfl, hr, hs, hk1⟩
    have HO := Lib.hid (ofTexts_tuple A c (prt true T P r) (by rw [prt_len]; omega) w1 hs)
    rw [prt_len] at HO
    have HR := Lib.hid hr
    have HK1 := Lib.hid hk1
    clear hr hs hk1
    go_wp2_with fail
    refine (HO.out).mono ?_
    rintro e w2 ⟨A2, c2, rfl, hs2, hk2⟩
    have HS2 := Lib.hid hs2
    have HK2 := Lib.hid hk2
    clear hs2 hk2
    go_wp2_with fail
    go_ret2
    exact ⟨r, A2, c2, rfl, HR.out, HS2.out, (HK.out.trans HK1.out).trans HK2.out⟩
set_option maxRecDepth 100000 in
set_option maxHeartbeats 1000000 in
theorem TextPartition_no (back : Bool) (T P : ByteArray) (h0 : P.size = 0) (w : World) :
    Calls Tryz.prog 8 #[.bool back, .string T, .string P] w fun e w' => e = .returned (.tuple #[.slice none 0 0, .bool false]) ∧ Kept w w' := by
  have hb := Blk.new w 44 #[.iface 49 (.string P)]
  have hk : Kept w (w.alloc (.cells #[.iface 49 (.string P)] 44)) := (Below.refl _ _).alloc (Nat.le_refl _) _
  have HZ := Lib.hid (fun nm => ZzPartition_no nm T P h0 w.heap.size 1 _ (hb.cell 0))
  have HK := Lib.hid hk
  clear hb hk h0
  cases back
  all_goals
    go_enter Tryz.func8, Tryz.ntmps8
    go_wp2_with fail
    generalize w.alloc (.cells #[.iface 49 (.string P)] 44) = W1 at *
    refine (HZ.out _).mono ?_
    rintro e w1 ⟨a, b, rfl, rfl, ⟨v, rfl⟩, hk1⟩
    have HK1 := Lib.hid hk1
    clear hk1
    go_wp2_with fail
    refine (ofTexts_err v w1).mono ?_
    rintro e w2 ⟨rfl, rfl⟩
    go_wp2_with fail
    go_ret2
    exact ⟨rfl, HK.out.trans HK1.out⟩
end Go.Proofs.YtcamjefacbaniaaGreat
