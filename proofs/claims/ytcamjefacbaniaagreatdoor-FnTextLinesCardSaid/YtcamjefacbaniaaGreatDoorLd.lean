/- The lines of a text, as the implementation gives them -/
import Derived.Test.YtcamjefacbaniaaGreatDoorLc
namespace Go.Proofs.YtcamjefacbaniaaGreatDoor
open Go.ChangeShapes Go.WideShapes Go.ChangeAt Go.RowKit
set_option linter.unusedVariables false
set_option maxRecDepth 100000 in
set_option maxHeartbeats 1000000 in
theorem ofTexts_list (g c : Nat) (A : Option Addr) (l : List ByteArray) (hl : l.length ≤ 1000) (w : World) (hb : Blk w g 78 #[.slice A l.length c, .bool false, .int .u32 0]) (hs : Sl w A c (svs l)) :
    Calls Tryz.prog 10 #[.iface 50 (.pointer (some ⟨g, 0, none⟩)), .nilIface] w fun e w' => ∃ A c, e = .returned (.tuple #[.slice A l.length c, .bool true]) ∧ Sl w' A c (strs l) ∧ Kept w w' := by
  obtain ⟨i0, hi0, hz0, hz1, hz2⟩ := info_parts infoStr
  have HS := Lib.hid hs
  have HB := Lib.hid hb
  have ta : ∀ w : World, (Instr.typeAssert (.iface 50 (.pointer (some ⟨g, 0, none⟩))) 40 50 true).run Tryz.prog w = .ok (.tuple #[.pointer (some ⟨g, 0, none⟩), .bool true]) w := fun _ => by kernel_rfl
  clear hs hb
  go_enter Tryz.func10, Tryz.ntmps10
  go_wp2_with fail
  refine (listLen_any A l.length c g w HB.out).mono ?_
  rintro e w1 ⟨rfl, rfl⟩
  go_wp2_with fail
  go_loopw [4, 23] (fun lv iv wr => ∃ k : Nat, iv = .int .i64 k ∧ k ≤ l.length ∧ wr.ownsRow w.heap.size 9 1 lv k (strs (l.take k)) ∧ Below w.heap.size w wr) (fun _ iv _ => l.length - (intOf iv).toNat)
  case atStart => exact ⟨0, rfl, Nat.zero_le _, by simpa [strs] using World.ownsRow_nil _ _ _ _, Below.refl _ _⟩
  case round =>
    obtain ⟨k, rfl, hk, hown, hbw⟩ := hrel
    have hown' := hown
    obtain ⟨A2, cap, rfl⟩ := own_slice hown'
    clear hown'
    by_cases hlt : k < l.length
    · obtain ⟨b, off, rfl, hc⟩ := HS.out.at_ (fun h => by have := congrArg List.length h; rw [svs_len, List.length_nil] at this; omega)
      have hck : wr.cell? ⟨b, off + k, none⟩ = some (.iface 52 (.string (l[k]'hlt))) :=
        (hbw.cell (p := ⟨b, off + k, none⟩) (block_lt_of_cell (hc k _ (svs_get l k hlt)))).trans (hc k _ (svs_get l k hlt))
      have HIX := Lib.hid (listIndex_any b off l.length c g k _ wr (HB.out.below hbw) hlt hl hck)
      have hat := asStr (l[k]'hlt)
      have hels := strs_snoc l k hlt
      have hown2 := hown.alloc (.cells #[.string (l[k]'hlt)] 9)
      have hlit : Sl (wr.alloc (.cells #[.string (l[k]'hlt)] 9)) (some ⟨wr.heap.size, 0, none⟩) 1 [.string (l[k]'hlt)] := Sl.of_blk (cs := #[.string (l[k]'hlt)]) (Blk.new _ _ _) (by unfold maxLen; simp)
      have hz := hbw.size
      have hbw3 : Below w.heap.size w (wr.alloc (.cells #[.string (l[k]'hlt)] 9)) := hbw.alloc (by omega) _
      clear hc hck
      generalize l[k]'hlt = s at *
      have HOWN := Lib.hid hown2
      have HELS := Lib.hid hels
      have HLIT := Lib.hid hlit
      have HBW3 := Lib.hid hbw3
      clear hown hown2 hels hlit hbw3
      go_wp2_with fail
      refine (HIX.out).mono ?_
      rintro e w1 ⟨rfl, rfl⟩
      go_wp2_with (at_builtin; refine wpList_append_sl rfl (.tmp 33) (.tmp 35) 28 rfl w.heap.size 9 i0 (.string ByteArray.empty) 16 Tryz.underlying28 hi0 hz0 hz1 hz2 rfl _ k (strs (l.take k)) rfl HOWN.out _ 1 _ [.string s] rfl rfl HLIT.out (by intro u hu; rw [List.mem_singleton.1 hu]; rfl) (by unfold maxLen; omega) (by omega) (by simp only [World.size_alloc]; omega) ?_; intro v1 w1_ hown1 hg1)
      rw [← HELS.out] at hown1
      have hg1' : (wr.alloc (.cells #[.string s] 9)).grownBy w1_ (Value.slice A2 k cap).ownBlock := hg1
      exact ⟨⟨k + 1, by go_num, by omega, hown1, Below.grown HBW3.out hg1' HBW3.out.size (fun q hq => (HOWN.out.lt _ hq).1)⟩, by simp [intOf]; omega⟩
    · obtain rfl : k = l.length := by omega
      rw [List.take_of_length_le (Nat.le_refl _)] at hown
      have HOWN := Lib.hid hown
      clear hown
      go_wp2_with fail
      go_ret2
      exact ⟨A2, cap, rfl, (Sl.of_own HOWN.out).1, hbw⟩
/-- a list of the lines -/
def RetList (keep : Bool) (T : ByteArray) (w : World) (a b : Value) (w' : World) : Prop := b = .nilIface ∧ ∃ g A c, a = .iface 50 (.pointer (some ⟨g, 0, none⟩)) ∧ Blk w' g 78 #[.slice A (lins keep T).length c, .bool false, .int .u32 0] ∧ Sl w' A c (svs (lins keep T)) ∧ Kept w w'
theorem lins_len (keep : Bool) (T : ByteArray) : (lins keep T).length ≤ T.size + 1 := by
  have := lns_len keep T T.size
  unfold lins
  rw [List.length_append]
  split <;> simp <;> omega
set_option maxRecDepth 100000 in
set_option maxHeartbeats 1000000 in
theorem splitlines_false (T nm : ByteArray) (hT : T.size ≤ 60) (f : Value) (g ga ca : Nat) (w : World) (hb : Blk w g 102 #[.string nm, f, .iface 52 (.string T)])
    (ha : w.cell? ⟨ga, 0, none⟩ = some (.iface 45 (.bool false))) :
    Calls Tryz.prog 24 #[.pointer none, .pointer (some ⟨g, 0, none⟩), .slice (some ⟨ga, 0, none⟩) 1 ca, .slice none 0 0] w (Ret2 (RetList false T w)) := by
  have HB := Lib.hid hb
  have rs := recv_str T
  have hgl := hb.lt
  have hga := block_lt_of_cell ha
  clear hb
  go_enter Tryz.func24, Tryz.ntmps24
  go_wp2_with fail
  have hk0 : Kept w (w.alloc (.cells #[.bool false] 4)) := (Below.refl _ _).alloc (Nat.le_refl _) _
  refine (bname_any g nm f _ _ (HB.out.below hk0)).mono ?_
  rintro e w1 ⟨rfl, rfl⟩
  go_wp2_with fail
  have hk1 : Kept w ((w.alloc (.cells #[.bool false] 4)).alloc (.cells #[.iface 86 (.pointer (some ⟨w.heap.size, 0, none⟩))] 20)) := by go_grown
  have hb1 : Blk ((w.alloc (.cells #[.bool false] 4)).alloc (.cells #[.iface 86 (.pointer (some ⟨w.heap.size, 0, none⟩))] 20)) w.heap.size 4 #[.bool false] := (Blk.new w _ _).below ((Below.refl _ _).alloc (Nat.le_refl _) _)
  have hb2 : Blk ((w.alloc (.cells #[.bool false] 4)).alloc (.cells #[.iface 86 (.pointer (some ⟨w.heap.size, 0, none⟩))] 20)) (w.heap.size + 1) 20 #[.iface 86 (.pointer (some ⟨w.heap.size, 0, none⟩))] := by
    have := Blk.new (w.alloc (.cells #[.bool false] 4)) 20 #[.iface 86 (.pointer (some ⟨w.heap.size, 0, none⟩))]
    rwa [World.size_alloc] at this
  have ha1 := (hk1.cell (p := ⟨ga, 0, none⟩) hga).trans ha
  have HU := Lib.hid (unpack1b_any nm false false w.heap.size ga (w.heap.size + 1) ca 1 _ hb1 ha1 (hb2.cell 0))
  have hsz : ((w.alloc (.cells #[.bool false] 4)).alloc (.cells #[.iface 86 (.pointer (some ⟨w.heap.size, 0, none⟩))] 20)).heap.size = w.heap.size + 1 + 1 := by simp only [World.size_alloc]
  generalize ((w.alloc (.cells #[.bool false] 4)).alloc (.cells #[.iface 86 (.pointer (some ⟨w.heap.size, 0, none⟩))] 20)) = W1 at *
  refine (HU.out).mono ?_
  rintro e W2 ⟨rfl, hW2⟩
  have hc2 : W2.cell? ⟨w.heap.size, 0, none⟩ = some (.bool false) := by rw [hW2]; exact World.cell?_setCell_same _ _ _ (hb1.cell 0)
  have hk2 : Kept w W2 := by rw [hW2]; exact hk1.setCell (Nat.le_refl _) _
  have hsz2 : w.heap.size + 1 < W2.heap.size := by rw [hW2, World.size_setCell, hsz]; omega
  have HB2 := Lib.hid (HB.out.below hk2)
  have HK2 := Lib.hid hk2
  clear hW2 hb1 hb2 hk1 hk2 ha1 hsz ha HB hk0
  go_wp2_with fail
  refine (brecv_any g nm T f W2 HB2.out).mono ?_
  rintro e w1 ⟨rfl, rfl⟩
  by_cases h0 : T.size = 0
  · have hTe : T.toList.isEmpty = true := by rw [empty_iff]; exact decide_eq_true h0
    have hli : lins false T = [] := by unfold lins; rw [h0]; rfl
    have hmk := fun w => make_list 0 (by omega) w
    have HS := Lib.hid (show Sl W2 none 0 (strs []) from Sl.nil _)
    have HM : Hid (([] : List ByteArray).length = 0) := Lib.hid rfl
    simp only [Int.natCast_zero] at hmk
    go_wp2_with fail
    go_loopw [49] (fun iv wr => ∃ k : Nat, iv = .int .i64 k ∧ k ≤ 0 ∧ Hid (LR wr W2.heap.size 0 ([] : List ByteArray) k) ∧ Kept W2 wr) (fun iv _ => 0 - (intOf iv).toNat)
    case atStart => exact ⟨0, rfl, Nat.zero_le _, Lib.hid (LR.start _ _ _), (Below.refl _ _).alloc (Nat.le_refl _) _⟩
    case round =>
      obtain ⟨k, rfl, hk, HLR, hbw⟩ := hrel
      have hkm : 0 = k := by omega
      subst hkm
      have HKW := Lib.hid hbw
      clear hbw
      go_wp2_with fail
      refine (newList_any _ 0 0 wr).mono ?_
      rintro e w9 ⟨rfl, rfl⟩
      go_wp2_with fail
      go_ret2
      have hbk := (Blk.new wr 78 #[.slice (some ⟨W2.heap.size, 0, none⟩) 0 0, .bool false, .int .u32 0])
      refine ⟨_, _, rfl, rfl, wr.heap.size, some ⟨W2.heap.size, 0, none⟩, 0, rfl, ?_, ?_, ?_⟩
      · rw [hli]
        first | exact hbk | (rw [HM.out]; exact hbk)
      · rw [hli]
        first | exact (LR.sl HLR.out (by first | omega | simp)).below ((Below.refl _ _).alloc (Nat.le_refl _) _) | (have h9 := HLR.out; rw [← HM.out] at h9; have h8 := (LR.sl h9 (by first | (rw [HM.out]; omega) | simp)).below (w' := wr.alloc (.cells #[.slice (some ⟨W2.heap.size, 0, none⟩) 0 0, .bool false, .int .u32 0] 78)) ((Below.refl _ _).alloc (Nat.le_refl _) _); rw [HM.out] at h8; exact h8)
      · exact (HK2.out.trans HKW.out).trans ((Below.refl _ _).alloc (Nat.le_refl _) _)
  · have hTe : T.toList.isEmpty = false := by rw [empty_iff]; exact decide_eq_false h0
    obtain ⟨kk, hkk⟩ : ∃ kk, T.size = kk + 1 := ⟨T.size - 1, by omega⟩
    go_wp2_with fail
    refine (zzSplit_any T hT W2).mono ?_
    rintro e W3 ⟨fr, o, A, c, rfl, hl, hs, hk3, _⟩
    obtain ⟨b0, off0, rfl, _⟩ := hs.at_ (fun h => by have := congrArg List.length h; simp [strs] at this)
    have hcap := hs.cap
    rw [strs_len, List.length_append, List.length_singleton] at hcap
    have hmax := hs.max
    unfold maxLen at hmax
    have hol : o.length ≤ T.size := by have := lns_len false T T.size; rw [hl] at this; exact this
    have HSUF := Lib.hid (suffix_nl T kk hkk hT W3)
    have HK3 := Lib.hid (HK2.out.trans hk3)
    cases hq : nl T kk
    · have hfr := lns_open false T kk hq
      rw [← hkk, hl] at hfr
      have hli : lins false T = o ++ [T.extract fr T.size] := by unfold lins; rw [hl]; simp only; rw [if_pos hfr]
      have HLI := Lib.hid hli
      have HM : Hid ((o ++ [T.extract fr T.size]).length = o.length + 1) := Lib.hid (by simp)
      have HS := Lib.hid hs
      have hmk := fun w => make_list (o.length + 1) (by omega) w
      rw [hq] at HSUF
      clear hs hl hk3 hfr hli hq hkk
      generalize o ++ [T.extract fr T.size] = ls at *
      have hlm := HM.out
      have hmb : o.length + 1 ≤ 61 := by omega
      generalize o.length + 1 = m at *
      go_wp2_with fail
      refine (HSUF.out).mono ?_
      rintro e w1 ⟨rfl, rfl⟩
      go_wp2_with fail
      go_loopw [49] (fun iv wr => ∃ k : Nat, iv = .int .i64 k ∧ k ≤ m ∧ Hid (LR wr W3.heap.size m ls k) ∧ Kept W3 wr) (fun iv _ => m - (intOf iv).toNat)
      case atStart => exact ⟨0, rfl, Nat.zero_le _, Lib.hid (LR.start _ _ _), (Below.refl _ _).alloc (Nat.le_refl _) _⟩
      case round =>
        obtain ⟨k, rfl, hk, HLR, hbw⟩ := hrel
        by_cases hlt : k < m
        · have hlt2 : k < ls.length := by omega
          obtain ⟨b, off, hAe, hc⟩ := HS.out.at_ (fun h => by have := congrArg List.length h; rw [strs_len, List.length_nil] at this; omega)
          injection hAe with hAe
          injection hAe with hAe1 hAe2
          subst hAe1 hAe2
          have hck : wr.cell? ⟨b0, off0 + k, none⟩ = some (.string (ls[k]'hlt2)) :=
            (hbw.cell (p := ⟨b0, off0 + k, none⟩) (block_lt_of_cell (hc k _ (strs_get _ k hlt2)))).trans (hc k _ (strs_get _ k hlt2))
          obtain ⟨u, hu⟩ := HLR.out.cell hlt
          have hfz := HLR.out.free k
          have HNX := Lib.hid (HLR.out.set hlt2 hlt)
          have HKX : Hid (Kept W3 (wr.setCell ⟨W3.heap.size, k, none⟩ (.iface 52 (.string (ls[k]'hlt2))))) := Lib.hid (hbw.setCell (Nat.le_refl _) _)
          have hbs := hbw.size
          have hWl : W3.heap.size < wr.heap.size := block_lt_of_cell hu
          clear hc hbw HLR
          generalize ls[k]'hlt2 = sx at *
          go_wp2_with fail
          exact ⟨⟨k + 1, by go_num, by omega, HNX.out, HKX.out⟩, by simp [intOf]; omega⟩
        · have hkm : m = k := by omega
          subst hkm
          have HKW := Lib.hid hbw
          clear hbw
          go_wp2_with fail
          refine (newList_any _ m m wr).mono ?_
          rintro e w9 ⟨rfl, rfl⟩
          go_wp2_with fail
          go_ret2
          have hbk := (Blk.new wr 78 #[.slice (some ⟨W3.heap.size, 0, none⟩) m m, .bool false, .int .u32 0])
          refine ⟨_, _, rfl, rfl, wr.heap.size, some ⟨W3.heap.size, 0, none⟩, m, rfl, ?_, ?_, ?_⟩
          · rw [HLI.out]
            first | exact hbk | (rw [HM.out]; exact hbk)
          · rw [HLI.out]
            first | exact (LR.sl HLR.out (by first | omega | simp)).below ((Below.refl _ _).alloc (Nat.le_refl _) _) | (have h9 := HLR.out; rw [← HM.out] at h9; have h8 := (LR.sl h9 (by first | (rw [HM.out]; omega) | simp)).below (w' := wr.alloc (.cells #[.slice (some ⟨W3.heap.size, 0, none⟩) m m, .bool false, .int .u32 0] 78)) ((Below.refl _ _).alloc (Nat.le_refl _) _); rw [HM.out] at h8; exact h8)
          · exact (HK3.out.trans HKW.out).trans ((Below.refl _ _).alloc (Nat.le_refl _) _)
    · have hfr := lns_end false T kk hq
      rw [← hkk, hl] at hfr
      have hli : lins false T = o := by unfold lins; rw [hl]; simp only at hfr ⊢; rw [if_neg (by omega), List.append_nil]
      have HLI := Lib.hid hli
      have hs1 : Sl W3 (some ⟨b0, off0, none⟩) c (strs o) := by
        refine ⟨by rw [strs_len]; omega, hs.max, fun _ => ?_⟩
        obtain ⟨b, off, e, hc⟩ := hs.at_ (fun h => by have := congrArg List.length h; simp [strs] at this)
        refine ⟨b, off, e, fun j u hu => hc j u ?_⟩
        rw [strs_append, List.getElem?_append_left (List.getElem?_eq_some_iff.1 hu).1]
        exact hu
      have HM : Hid (o.length = o.length) := Lib.hid rfl
      have HS := Lib.hid hs1
      have hmk := fun w => make_list o.length (by omega) w
      rw [hq] at HSUF
      clear hs hl hk3 hfr hli hs1 hq hkk
      obtain ⟨m, hm⟩ : ∃ m, m = o.length + 1 := ⟨_, rfl⟩
      have hmi : (m : Int) - 1 = (o.length : Int) := by omega
      have hlm : o.length = o.length := rfl
      rw [← hm] at *
      go_wp2_with fail
      refine (HSUF.out).mono ?_
      rintro e w1 ⟨rfl, rfl⟩
      go_wp2_with fail
      go_loopw [49] (fun iv wr => ∃ k : Nat, iv = .int .i64 k ∧ k ≤ o.length ∧ Hid (LR wr W3.heap.size o.length o k) ∧ Kept W3 wr) (fun iv _ => o.length - (intOf iv).toNat)
      case atStart => exact ⟨0, rfl, Nat.zero_le _, Lib.hid (LR.start _ _ _), (Below.refl _ _).alloc (Nat.le_refl _) _⟩
      case round =>
        obtain ⟨k, rfl, hk, HLR, hbw⟩ := hrel
        by_cases hlt : k < o.length
        · have hlt2 : k < o.length := by omega
          obtain ⟨b, off, hAe, hc⟩ := HS.out.at_ (fun h => by have := congrArg List.length h; rw [strs_len, List.length_nil] at this; omega)
          injection hAe with hAe
          injection hAe with hAe1 hAe2
          subst hAe1 hAe2
          have hck : wr.cell? ⟨b0, off0 + k, none⟩ = some (.string (o[k]'hlt2)) :=
            (hbw.cell (p := ⟨b0, off0 + k, none⟩) (block_lt_of_cell (hc k _ (strs_get _ k hlt2)))).trans (hc k _ (strs_get _ k hlt2))
          obtain ⟨u, hu⟩ := HLR.out.cell hlt
          have hfz := HLR.out.free k
          have HNX := Lib.hid (HLR.out.set hlt2 hlt)
          have HKX : Hid (Kept W3 (wr.setCell ⟨W3.heap.size, k, none⟩ (.iface 52 (.string (o[k]'hlt2))))) := Lib.hid (hbw.setCell (Nat.le_refl _) _)
          have hbs := hbw.size
          have hWl : W3.heap.size < wr.heap.size := block_lt_of_cell hu
          clear hc hbw HLR
          generalize o[k]'hlt2 = sx at *
          go_wp2_with fail
          exact ⟨⟨k + 1, by go_num, by omega, HNX.out, HKX.out⟩, by simp [intOf]; omega⟩
        · have hkm : o.length = k := by omega
          subst hkm
          have HKW := Lib.hid hbw
          clear hbw
          go_wp2_with fail
          refine (newList_any _ o.length o.length wr).mono ?_
          rintro e w9 ⟨rfl, rfl⟩
          go_wp2_with fail
          go_ret2
          have hbk := (Blk.new wr 78 #[.slice (some ⟨W3.heap.size, 0, none⟩) o.length o.length, .bool false, .int .u32 0])
          refine ⟨_, _, rfl, rfl, wr.heap.size, some ⟨W3.heap.size, 0, none⟩, o.length, rfl, ?_, ?_, ?_⟩
          · rw [HLI.out]
            first | exact hbk | (rw [HM.out]; exact hbk)
          · rw [HLI.out]
            first | exact (LR.sl HLR.out (by first | omega | simp)).below ((Below.refl _ _).alloc (Nat.le_refl _) _) | (have h9 := HLR.out; rw [← HM.out] at h9; have h8 := (LR.sl h9 (by first | (rw [HM.out]; omega) | simp)).below (w' := wr.alloc (.cells #[.slice (some ⟨W3.heap.size, 0, none⟩) o.length o.length, .bool false, .int .u32 0] 78)) ((Below.refl _ _).alloc (Nat.le_refl _) _); rw [HM.out] at h8; exact h8)
          · exact (HK3.out.trans HKW.out).trans ((Below.refl _ _).alloc (Nat.le_refl _) _)
set_option maxRecDepth 100000 in
set_option maxHeartbeats 1000000 in
theorem splitlines_true (T nm : ByteArray) (hT : T.size ≤ 60) (f : Value) (g ga ca : Nat) (w : World) (hb : Blk w g 102 #[.string nm, f, .iface 52 (.string T)])
    (ha : w.cell? ⟨ga, 0, none⟩ = some (.iface 45 (.bool true))) :
    Calls Tryz.prog 24 #[.pointer none, .pointer (some ⟨g, 0, none⟩), .slice (some ⟨ga, 0, none⟩) 1 ca, .slice none 0 0] w (Ret2 (RetList true T w)) := by
  have HB := Lib.hid hb
  have rs := recv_str T
  have hgl := hb.lt
  have hga := block_lt_of_cell ha
  clear hb
  go_enter Tryz.func24, Tryz.ntmps24
  go_wp2_with fail
  have hk0 : Kept w (w.alloc (.cells #[.bool false] 4)) := (Below.refl _ _).alloc (Nat.le_refl _) _
  refine (bname_any g nm f _ _ (HB.out.below hk0)).mono ?_
  rintro e w1 ⟨rfl, rfl⟩
  go_wp2_with fail
  have hk1 : Kept w ((w.alloc (.cells #[.bool false] 4)).alloc (.cells #[.iface 86 (.pointer (some ⟨w.heap.size, 0, none⟩))] 20)) := by go_grown
  have hb1 : Blk ((w.alloc (.cells #[.bool false] 4)).alloc (.cells #[.iface 86 (.pointer (some ⟨w.heap.size, 0, none⟩))] 20)) w.heap.size 4 #[.bool false] := (Blk.new w _ _).below ((Below.refl _ _).alloc (Nat.le_refl _) _)
  have hb2 : Blk ((w.alloc (.cells #[.bool false] 4)).alloc (.cells #[.iface 86 (.pointer (some ⟨w.heap.size, 0, none⟩))] 20)) (w.heap.size + 1) 20 #[.iface 86 (.pointer (some ⟨w.heap.size, 0, none⟩))] := by
    have := Blk.new (w.alloc (.cells #[.bool false] 4)) 20 #[.iface 86 (.pointer (some ⟨w.heap.size, 0, none⟩))]
    rwa [World.size_alloc] at this
  have ha1 := (hk1.cell (p := ⟨ga, 0, none⟩) hga).trans ha
  have HU := Lib.hid (unpack1b_any nm true false w.heap.size ga (w.heap.size + 1) ca 1 _ hb1 ha1 (hb2.cell 0))
  have hsz : ((w.alloc (.cells #[.bool false] 4)).alloc (.cells #[.iface 86 (.pointer (some ⟨w.heap.size, 0, none⟩))] 20)).heap.size = w.heap.size + 1 + 1 := by simp only [World.size_alloc]
  generalize ((w.alloc (.cells #[.bool false] 4)).alloc (.cells #[.iface 86 (.pointer (some ⟨w.heap.size, 0, none⟩))] 20)) = W1 at *
  refine (HU.out).mono ?_
  rintro e W2 ⟨rfl, hW2⟩
  have hc2 : W2.cell? ⟨w.heap.size, 0, none⟩ = some (.bool true) := by rw [hW2]; exact World.cell?_setCell_same _ _ _ (hb1.cell 0)
  have hk2 : Kept w W2 := by rw [hW2]; exact hk1.setCell (Nat.le_refl _) _
  have hsz2 : w.heap.size + 1 < W2.heap.size := by rw [hW2, World.size_setCell, hsz]; omega
  have HB2 := Lib.hid (HB.out.below hk2)
  have HK2 := Lib.hid hk2
  clear hW2 hb1 hb2 hk1 hk2 ha1 hsz ha HB hk0
  go_wp2_with fail
  refine (brecv_any g nm T f W2 HB2.out).mono ?_
  rintro e w1 ⟨rfl, rfl⟩
  by_cases h0 : T.size = 0
  · have hTe : T.toList.isEmpty = true := by rw [empty_iff]; exact decide_eq_true h0
    have hli : lins true T = [] := by unfold lins; rw [h0]; rfl
    have hmk := fun w => make_list 0 (by omega) w
    have HS := Lib.hid (show Sl W2 none 0 (strs []) from Sl.nil _)
    have HM : Hid (([] : List ByteArray).length = 0) := Lib.hid rfl
    simp only [Int.natCast_zero] at hmk
    go_wp2_with fail
    go_loopw [49] (fun iv wr => ∃ k : Nat, iv = .int .i64 k ∧ k ≤ 0 ∧ Hid (LR wr W2.heap.size 0 ([] : List ByteArray) k) ∧ Kept W2 wr) (fun iv _ => 0 - (intOf iv).toNat)
    case atStart => exact ⟨0, rfl, Nat.zero_le _, Lib.hid (LR.start _ _ _), (Below.refl _ _).alloc (Nat.le_refl _) _⟩
    case round =>
      obtain ⟨k, rfl, hk, HLR, hbw⟩ := hrel
      have hkm : 0 = k := by omega
      subst hkm
      have HKW := Lib.hid hbw
      clear hbw
      go_wp2_with fail
      refine (newList_any _ 0 0 wr).mono ?_
      rintro e w9 ⟨rfl, rfl⟩
      go_wp2_with fail
      go_ret2
      have hbk := (Blk.new wr 78 #[.slice (some ⟨W2.heap.size, 0, none⟩) 0 0, .bool false, .int .u32 0])
      refine ⟨_, _, rfl, rfl, wr.heap.size, some ⟨W2.heap.size, 0, none⟩, 0, rfl, ?_, ?_, ?_⟩
      · rw [hli]
        first | exact hbk | (rw [HM.out]; exact hbk)
      · rw [hli]
        first | exact (LR.sl HLR.out (by first | omega | simp)).below ((Below.refl _ _).alloc (Nat.le_refl _) _) | (have h9 := HLR.out; rw [← HM.out] at h9; have h8 := (LR.sl h9 (by first | (rw [HM.out]; omega) | simp)).below (w' := wr.alloc (.cells #[.slice (some ⟨W2.heap.size, 0, none⟩) 0 0, .bool false, .int .u32 0] 78)) ((Below.refl _ _).alloc (Nat.le_refl _) _); rw [HM.out] at h8; exact h8)
      · exact (HK2.out.trans HKW.out).trans ((Below.refl _ _).alloc (Nat.le_refl _) _)
  · have hTe : T.toList.isEmpty = false := by rw [empty_iff]; exact decide_eq_false h0
    obtain ⟨kk, hkk⟩ : ∃ kk, T.size = kk + 1 := ⟨T.size - 1, by omega⟩
    go_wp2_with fail
    refine (zzSplitAfter_any T hT W2).mono ?_
    rintro e W3 ⟨fr, o, A, c, rfl, hl, hs, hk3, _⟩
    obtain ⟨b0, off0, rfl, _⟩ := hs.at_ (fun h => by have := congrArg List.length h; simp [strs] at this)
    have hcap := hs.cap
    rw [strs_len, List.length_append, List.length_singleton] at hcap
    have hmax := hs.max
    unfold maxLen at hmax
    have hol : o.length ≤ T.size := by have := lns_len true T T.size; rw [hl] at this; exact this
    have HSUF := Lib.hid (suffix_nl T kk hkk hT W3)
    have HK3 := Lib.hid (HK2.out.trans hk3)
    cases hq : nl T kk
    · have hfr := lns_open true T kk hq
      rw [← hkk, hl] at hfr
      have hli : lins true T = o ++ [T.extract fr T.size] := by unfold lins; rw [hl]; simp only; rw [if_pos hfr]
      have HLI := Lib.hid hli
      have HM : Hid ((o ++ [T.extract fr T.size]).length = o.length + 1) := Lib.hid (by simp)
      have HS := Lib.hid hs
      have hmk := fun w => make_list (o.length + 1) (by omega) w
      rw [hq] at HSUF
      clear hs hl hk3 hfr hli hq hkk
      generalize o ++ [T.extract fr T.size] = ls at *
      have hlm := HM.out
      have hmb : o.length + 1 ≤ 61 := by omega
      generalize o.length + 1 = m at *
      go_wp2_with fail
      refine (HSUF.out).mono ?_
      rintro e w1 ⟨rfl, rfl⟩
      go_wp2_with fail
      go_loopw [49] (fun iv wr => ∃ k : Nat, iv = .int .i64 k ∧ k ≤ m ∧ Hid (LR wr W3.heap.size m ls k) ∧ Kept W3 wr) (fun iv _ => m - (intOf iv).toNat)
      case atStart => exact ⟨0, rfl, Nat.zero_le _, Lib.hid (LR.start _ _ _), (Below.refl _ _).alloc (Nat.le_refl _) _⟩
      case round =>
        obtain ⟨k, rfl, hk, HLR, hbw⟩ := hrel
        by_cases hlt : k < m
        · have hlt2 : k < ls.length := by omega
          obtain ⟨b, off, hAe, hc⟩ := HS.out.at_ (fun h => by have := congrArg List.length h; rw [strs_len, List.length_nil] at this; omega)
          injection hAe with hAe
          injection hAe with hAe1 hAe2
          subst hAe1 hAe2
          have hck : wr.cell? ⟨b0, off0 + k, none⟩ = some (.string (ls[k]'hlt2)) :=
            (hbw.cell (p := ⟨b0, off0 + k, none⟩) (block_lt_of_cell (hc k _ (strs_get _ k hlt2)))).trans (hc k _ (strs_get _ k hlt2))
          obtain ⟨u, hu⟩ := HLR.out.cell hlt
          have hfz := HLR.out.free k
          have HNX := Lib.hid (HLR.out.set hlt2 hlt)
          have HKX : Hid (Kept W3 (wr.setCell ⟨W3.heap.size, k, none⟩ (.iface 52 (.string (ls[k]'hlt2))))) := Lib.hid (hbw.setCell (Nat.le_refl _) _)
          have hbs := hbw.size
          have hWl : W3.heap.size < wr.heap.size := block_lt_of_cell hu
          clear hc hbw HLR
          generalize ls[k]'hlt2 = sx at *
          go_wp2_with fail
          exact ⟨⟨k + 1, by go_num, by omega, HNX.out, HKX.out⟩, by simp [intOf]; omega⟩
        · have hkm : m = k := by omega
          subst hkm
          have HKW := Lib.hid hbw
          clear hbw
          go_wp2_with fail
          refine (newList_any _ m m wr).mono ?_
          rintro e w9 ⟨rfl, rfl⟩
          go_wp2_with fail
          go_ret2
          have hbk := (Blk.new wr 78 #[.slice (some ⟨W3.heap.size, 0, none⟩) m m, .bool false, .int .u32 0])
          refine ⟨_, _, rfl, rfl, wr.heap.size, some ⟨W3.heap.size, 0, none⟩, m, rfl, ?_, ?_, ?_⟩
          · rw [HLI.out]
            first | exact hbk | (rw [HM.out]; exact hbk)
          · rw [HLI.out]
            first | exact (LR.sl HLR.out (by first | omega | simp)).below ((Below.refl _ _).alloc (Nat.le_refl _) _) | (have h9 := HLR.out; rw [← HM.out] at h9; have h8 := (LR.sl h9 (by first | (rw [HM.out]; omega) | simp)).below (w' := wr.alloc (.cells #[.slice (some ⟨W3.heap.size, 0, none⟩) m m, .bool false, .int .u32 0] 78)) ((Below.refl _ _).alloc (Nat.le_refl _) _); rw [HM.out] at h8; exact h8)
          · exact (HK3.out.trans HKW.out).trans ((Below.refl _ _).alloc (Nat.le_refl _) _)
    · have hfr := lns_end true T kk hq
      rw [← hkk, hl] at hfr
      have hli : lins true T = o := by unfold lins; rw [hl]; simp only at hfr ⊢; rw [if_neg (by omega), List.append_nil]
      have HLI := Lib.hid hli
      have hs1 : Sl W3 (some ⟨b0, off0, none⟩) c (strs o) := by
        refine ⟨by rw [strs_len]; omega, hs.max, fun _ => ?_⟩
        obtain ⟨b, off, e, hc⟩ := hs.at_ (fun h => by have := congrArg List.length h; simp [strs] at this)
        refine ⟨b, off, e, fun j u hu => hc j u ?_⟩
        rw [strs_append, List.getElem?_append_left (List.getElem?_eq_some_iff.1 hu).1]
        exact hu
      have HM : Hid (o.length = o.length) := Lib.hid rfl
      have HS := Lib.hid hs1
      have hmk := fun w => make_list o.length (by omega) w
      rw [hq] at HSUF
      clear hs hl hk3 hfr hli hs1 hq hkk
      obtain ⟨m, hm⟩ : ∃ m, m = o.length + 1 := ⟨_, rfl⟩
      have hmi : (m : Int) - 1 = (o.length : Int) := by omega
      have hlm : o.length = o.length := rfl
      rw [← hm] at *
      go_wp2_with fail
      refine (HSUF.out).mono ?_
      rintro e w1 ⟨rfl, rfl⟩
      go_wp2_with fail
      go_loopw [49] (fun iv wr => ∃ k : Nat, iv = .int .i64 k ∧ k ≤ o.length ∧ Hid (LR wr W3.heap.size o.length o k) ∧ Kept W3 wr) (fun iv _ => o.length - (intOf iv).toNat)
      case atStart => exact ⟨0, rfl, Nat.zero_le _, Lib.hid (LR.start _ _ _), (Below.refl _ _).alloc (Nat.le_refl _) _⟩
      case round =>
        obtain ⟨k, rfl, hk, HLR, hbw⟩ := hrel
        by_cases hlt : k < o.length
        · have hlt2 : k < o.length := by omega
          obtain ⟨b, off, hAe, hc⟩ := HS.out.at_ (fun h => by have := congrArg List.length h; rw [strs_len, List.length_nil] at this; omega)
          injection hAe with hAe
          injection hAe with hAe1 hAe2
          subst hAe1 hAe2
          have hck : wr.cell? ⟨b0, off0 + k, none⟩ = some (.string (o[k]'hlt2)) :=
            (hbw.cell (p := ⟨b0, off0 + k, none⟩) (block_lt_of_cell (hc k _ (strs_get _ k hlt2)))).trans (hc k _ (strs_get _ k hlt2))
          obtain ⟨u, hu⟩ := HLR.out.cell hlt
          have hfz := HLR.out.free k
          have HNX := Lib.hid (HLR.out.set hlt2 hlt)
          have HKX : Hid (Kept W3 (wr.setCell ⟨W3.heap.size, k, none⟩ (.iface 52 (.string (o[k]'hlt2))))) := Lib.hid (hbw.setCell (Nat.le_refl _) _)
          have hbs := hbw.size
          have hWl : W3.heap.size < wr.heap.size := block_lt_of_cell hu
          clear hc hbw HLR
          generalize o[k]'hlt2 = sx at *
          go_wp2_with fail
          exact ⟨⟨k + 1, by go_num, by omega, HNX.out, HKX.out⟩, by simp [intOf]; omega⟩
        · have hkm : o.length = k := by omega
          subst hkm
          have HKW := Lib.hid hbw
          clear hbw
          go_wp2_with fail
          refine (newList_any _ o.length o.length wr).mono ?_
          rintro e w9 ⟨rfl, rfl⟩
          go_wp2_with fail
          go_ret2
          have hbk := (Blk.new wr 78 #[.slice (some ⟨W3.heap.size, 0, none⟩) o.length o.length, .bool false, .int .u32 0])
          refine ⟨_, _, rfl, rfl, wr.heap.size, some ⟨W3.heap.size, 0, none⟩, o.length, rfl, ?_, ?_, ?_⟩
          · rw [HLI.out]
            first | exact hbk | (rw [HM.out]; exact hbk)
          · rw [HLI.out]
            first | exact (LR.sl HLR.out (by first | omega | simp)).below ((Below.refl _ _).alloc (Nat.le_refl _) _) | (have h9 := HLR.out; rw [← HM.out] at h9; have h8 := (LR.sl h9 (by first | (rw [HM.out]; omega) | simp)).below (w' := wr.alloc (.cells #[.slice (some ⟨W3.heap.size, 0, none⟩) o.length o.length, .bool false, .int .u32 0] 78)) ((Below.refl _ _).alloc (Nat.le_refl _) _); rw [HM.out] at h8; exact h8)
          · exact (HK3.out.trans HKW.out).trans ((Below.refl _ _).alloc (Nat.le_refl _) _)
end Go.Proofs.YtcamjefacbaniaaGreatDoor
