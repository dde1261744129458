/- A text's lines, plainly; and cut at each line feed -/
import Derived.Test.YtcamjefacbaniaaGreatDoorLa
namespace Go.Proofs.YtcamjefacbaniaaGreatDoor
open Go.ChangeShapes Go.WideShapes Go.ChangeAt Go.RowKit
set_option linter.unusedVariables false
/-! ### a text's lines, plainly -/
/-- a line ends here -/
def nl (T : ByteArray) (j : Nat) : Bool := decide (bt T j = 10)
/-- the line feed -/
abbrev NL : ByteArray := ⟨#[10]⟩
/-- after k bytes: where the line began, and the lines that have ended -/
def lns (keep : Bool) (T : ByteArray) : Nat → Nat × List ByteArray
  | 0 => (0, [])
  | k + 1 => if nl T k then (k + 1, (lns keep T k).2 ++ [T.extract (lns keep T k).1 (if keep then k + 1 else k)]) else lns keep T k
theorem lns_le (keep : Bool) (T : ByteArray) (k : Nat) : (lns keep T k).1 ≤ k := by
  induction k with
  | zero => exact Nat.le_refl _
  | succ k ih =>
    rw [lns]
    split
    · exact Nat.le_refl _
    · omega
theorem lns_len (keep : Bool) (T : ByteArray) (k : Nat) : (lns keep T k).2.length ≤ k := by
  induction k with
  | zero => exact Nat.le_refl _
  | succ k ih =>
    rw [lns]
    split
    · simp; omega
    · omega
theorem lns_run {keep : Bool} {T : ByteArray} {f : Nat} {o : List ByteArray} (h : lns keep T f = (f, o)) (n : Nat) (hn : ∀ j, j < n → nl T (f + j) = false) : lns keep T (f + n) = (f, o) := by
  induction n with
  | zero => exact h
  | succ n ih => rw [← Nat.add_assoc, lns, hn n (by omega)]; exact ih (fun j hj => hn j (by omega))
theorem lns_hit {keep : Bool} {T : ByteArray} {f : Nat} {o : List ByteArray} (h : lns keep T f = (f, o)) (n : Nat) (hn : ∀ j, j < n → nl T (f + j) = false) (hh : nl T (f + n) = true) :
    lns keep T (f + n + 1) = (f + n + 1, o ++ [T.extract f (if keep then f + n + 1 else f + n)]) := by
  rw [lns, hh, lns_run h n hn]; rfl
/-- the last line has ended where the text does, or goes on -/
theorem lns_end (keep : Bool) (T : ByteArray) (k : Nat) (h : nl T k = true) : (lns keep T (k + 1)).1 = k + 1 := by rw [lns, h]; rfl
theorem lns_open (keep : Bool) (T : ByteArray) (k : Nat) (h : nl T k = false) : (lns keep T (k + 1)).1 < k + 1 := by
  rw [lns, h]
  have := lns_le keep T k
  simp only [Bool.false_eq_true, if_false]
  omega
/-- all lines -/
def lins (keep : Bool) (T : ByteArray) : List ByteArray := (lns keep T T.size).2 ++ (if (lns keep T T.size).1 < T.size then [T.extract (lns keep T T.size).1 T.size] else [])
theorem nl_at (T : ByteArray) (j : Nat) (h : j < T.size) : oc T NL j = nl T j := by
  have e : (T.extract j (j + 1)).toList = [T[j]'h] := by
    rw [ByteArray.toList_eq, Lib.extract_data]
    have h' : j < T.data.toList.length := by simpa using h
    rw [List.drop_eq_getElem_cons h']
    have : j + 1 - j = 1 := by omega
    rw [this]
    simp
    rfl
  have e2 : (NL.size) = 1 := rfl
  have e3 : NL.toList = [10] := by rw [ByteArray.toList_eq]
  unfold oc nl
  rw [e2, e, e3, ← bt_get T j h]
  have h5 : (T[j]'h).toNat = 10 ↔ T[j]'h = 10 := by
    constructor
    · intro h6; exact UInt8.toNat_inj.1 (by simpa using h6)
    · intro h6; rw [h6]; rfl
  by_cases h7 : T[j]'h = 10
  · rw [h7]; rfl
  · have : ¬ (T[j]'h).toNat = 10 := fun h8 => h7 (h5.1 h8)
    rw [decide_eq_false this]
    simpa using h7
theorem bt_extract (T : ByteArray) (f j : Nat) (h : f + j < T.size) : bt (T.extract f T.size) j = bt T (f + j) := by
  have hs : j < (T.extract f T.size).size := by rw [ByteArray.size_extract]; omega
  rw [bt, bt, dif_pos hs, dif_pos h]
  congr 1
  exact ByteArray.getElem_extract hs
theorem nl_extract (T : ByteArray) (f j : Nat) (h : f + j < T.size) : nl (T.extract f T.size) j = nl T (f + j) := by unfold nl; rw [bt_extract T f j h]
theorem extract_all (T : ByteArray) : T.extract 0 T.size = T := by simp
/-- texts as values of the language, in a row -/
def svs (l : List ByteArray) : List Value := l.map fun s => .iface 52 (.string s)
/-- texts in a row -/
def strs (l : List ByteArray) : List Value := l.map fun s => .string s
theorem Sl.of_blk {w : World} {g : Nat} {t : TypeId} {cs : Array Value} (h : Blk w g t cs) (hm : cs.size ≤ maxLen) : Sl w (some ⟨g, 0, none⟩) cs.size cs.toList := by
  refine ⟨by simp, hm, fun _ => ⟨g, 0, rfl, fun j u hu => ?_⟩⟩
  rw [Nat.zero_add, h.cell j]
  simpa using hu
theorem svs_len (l : List ByteArray) : (svs l).length = l.length := by simp [svs]
theorem svs_get (l : List ByteArray) (k : Nat) (h : k < l.length) : (svs l)[k]? = some (.iface 52 (.string (l[k]'h))) := by simp [svs, h]
theorem strs_len (l : List ByteArray) : (strs l).length = l.length := by simp [strs]
theorem strs_get (l : List ByteArray) (k : Nat) (h : k < l.length) : (strs l)[k]? = some (.string (l[k]'h)) := by simp [strs, h]
theorem strs_snoc (l : List ByteArray) (k : Nat) (h : k < l.length) : strs (l.take (k + 1)) = strs (l.take k) ++ [.string (l[k]'h)] := by
  rw [List.take_succ_eq_append_getElem h]
  simp only [strs, List.map_append, List.map_cons, List.map_nil]
theorem infoStr : (Tryz.prog.info? 9).map (fun i => (i.zero, i.size, i.bytes)) = some (some (.string ByteArray.empty), 1, 16) := by kernel_rfl
theorem only_kept {w w' : World} (h : Kept w w') (row : Option Nat) : w.grownBy w' row := ⟨h.os, h.tape, h.output, h.size, fun i hi _ => h.block i hi⟩
theorem own_slice {w : World} {B e n : Nat} {v : Value} {xs : List Value} (h : w.ownsRow B e 1 v n xs) : ∃ A c, v = .slice A n c := by
  rcases h.2 with ⟨e1, e2⟩ | ⟨g, cap, cur, e1, _⟩
  · subst e2; exact ⟨_, _, e1⟩
  · exact ⟨_, _, e1⟩
theorem infoStr2 : (Tryz.prog.info? 9).map (fun i => (i.zero, i.size, i.bytes)) = some (some (.string ByteArray.empty), 1, 16) := by kernel_rfl
def szOf : Value → Nat
  | .string s => s.size
  | _ => 0
theorem strs_append (l : List ByteArray) (s : ByteArray) : strs (l ++ [s]) = strs l ++ [.string s] := by simp [strs]
theorem extract_cut (T : ByteArray) (f i : Nat) (h : f + i ≤ T.size) : (T.extract f T.size).extract 0 i = T.extract f (f + i) := by
  rw [ByteArray.extract_extract]
  congr 1
  omega
theorem extract_rest (T : ByteArray) (f i : Nat) (h : f + i ≤ T.size) : (T.extract f T.size).extract i (T.extract f T.size).size = T.extract (f + i) T.size := by
  rw [ByteArray.extract_extract]
  congr 1
  rw [ByteArray.size_extract]
  omega
/-- the place of the next line feed -/
theorem place_hit {T : ByteArray} {f i : Nat} (h : PlaceAt false (T.extract f T.size) NL (plc (T.extract f T.size) NL) i) (hf : f ≤ T.size) : f + i < T.size ∧ (∀ j, j < i → nl T (f + j) = false) ∧ nl T (f + i) = true := by
  have hs : (T.extract f T.size).size = T.size - f := by rw [ByteArray.size_extract]; omega
  have hp : plc (T.extract f T.size) NL = T.size - f := by unfold plc; rw [hs]; rfl
  rw [hp] at h
  rcases h with ⟨e, _⟩ | ⟨k, hk, e, h1, h2⟩
  · omega
  · obtain rfl : i = k := by omega
    refine ⟨by omega, fun j hj => ?_, ?_⟩
    · have := h2 j (by omega) (by simpa using hj)
      rw [nl_at _ _ (by omega), nl_extract _ _ _ (by omega)] at this
      exact this
    · rw [nl_at _ _ (by omega), nl_extract _ _ _ (by omega)] at h1
      exact h1
theorem place_miss {T : ByteArray} {f : Nat} (h : PlaceAt false (T.extract f T.size) NL (plc (T.extract f T.size) NL) (-1)) (hf : f ≤ T.size) : ∀ j, j < T.size - f → nl T (f + j) = false := by
  have hs : (T.extract f T.size).size = T.size - f := by rw [ByteArray.size_extract]; omega
  have hp : plc (T.extract f T.size) NL = T.size - f := by unfold plc; rw [hs]; rfl
  rw [hp] at h
  rcases h with ⟨_, h⟩ | ⟨k, hk, e, h1, h2⟩
  · intro j hj
    have := h j hj
    rw [nl_at _ _ (by omega), nl_extract _ _ _ (by omega)] at this
    exact this
  · omega
/-- the lines, and what is left behind the last line feed -/
def RetSplit (keep : Bool) (T : ByteArray) (w : World) (e : Ending) (w' : World) : Prop := ∃ f o A c, e = .returned (.slice A (o.length + 1) c) ∧ lns keep T T.size = (f, o) ∧ Sl w' A c (strs (o ++ [T.extract f T.size])) ∧ Kept w w' ∧ w'.ownsRow w.heap.size 9 1 (.slice A (o.length + 1) c) (o.length + 1) (strs (o ++ [T.extract f T.size]))
set_option maxRecDepth 100000 in
set_option maxHeartbeats 4000000 in
theorem zzSplit_any (T : ByteArray) (hT : T.size ≤ 60) (w : World) :
    Calls Tryz.prog 46 #[.string T, .string ⟨#[10]⟩] w (RetSplit false T w) := by
  obtain ⟨i0, hi0, hz0, hz1, hz2⟩ := info_parts infoStr2
  go_enter Tryz.func46, Tryz.ntmps46
  go_wp2_with fail
  go_loopw [0, 5] (fun sv lv wr => ∃ (f : Nat) (o : List ByteArray) (U : ByteArray), sv = .string U ∧ U = T.extract f T.size ∧ f ≤ T.size ∧ lns false T f = (f, o) ∧ wr.ownsRow w.heap.size 9 1 lv o.length (strs o) ∧ Kept w wr) (fun sv _ _ => szOf sv)
  case atStart => exact ⟨0, [], T, rfl, (extract_all T).symm, Nat.zero_le _, rfl, by simpa [strs] using World.ownsRow_nil _ _ _ _, Below.refl _ _⟩
  case round =>
    obtain ⟨f, o, U, rfl, hU, hf, hl, hown, hbw⟩ := hrel
    obtain ⟨A2, cap, rfl⟩ := own_slice hown
    have hUs : U.size = T.size - f := by rw [hU, ByteArray.size_extract]; omega
    have hU60 : U.size ≤ 60 := by omega
    have hUI : (U.size : Int) ≤ 60 := by omega
    have HUE := Lib.hid hU
    have HUS := Lib.hid hUs
    have HL := Lib.hid hl
    have HOWN := Lib.hid hown
    have HBW := Lib.hid hbw
    have hol : o.length ≤ 60 := by have := lns_len false T f; rw [hl] at this; simp only at this; omega
    clear hU hl hown hbw
    go_wp2_with fail
    refine (zzIndex_any U ⟨#[10]⟩ hU60 (by decide) wr).mono ?_
    rintro e w1 ⟨r, rfl, hp, rfl⟩
    have HPL := Lib.hid hp
    clear hp
    by_cases hr : r < 0
    · obtain rfl : r = -1 := by have := HPL.out.lo.1; omega
      have hels : strs (o ++ [U]) = strs o ++ [.string U] := strs_append o U
      have HELS := Lib.hid hels
      have hown2 := HOWN.out.alloc (.cells #[.string U] 9)
      have hlit : Sl (wr.alloc (.cells #[.string U] 9)) (some ⟨wr.heap.size, 0, none⟩) 1 [.string U] := Sl.of_blk (cs := #[.string U]) (Blk.new _ _ _) (by unfold maxLen; simp)
      have hbw3 : Kept w (wr.alloc (.cells #[.string U] 9)) := HBW.out.alloc HBW.out.size _
      have HOWN2 := Lib.hid hown2
      have HLIT := Lib.hid hlit
      have HBW3 := Lib.hid hbw3
      have hzz := HBW.out.size
      clear hels hown2 hlit hbw3 hUs
      go_wp2_with (at_builtin; refine wpList_append_sl rfl (.tmp 12) (.tmp 14) 28 rfl w.heap.size 9 i0 (.string ByteArray.empty) 16 Tryz.underlying28 hi0 hz0 hz1 hz2 rfl _ o.length (strs o) rfl HOWN2.out _ 1 _ [.string U] rfl rfl HLIT.out (by intro u hu; rw [List.mem_singleton.1 hu]; rfl) (by unfold maxLen; omega) (by omega) (by simp only [World.size_alloc]; omega) ?_; intro v1 w1_ hown1 hg1)
      rw [← HELS.out] at hown1
      obtain ⟨A3, c3, rfl⟩ := own_slice hown1
      have hk1 : Kept w w1_ := Below.grown HBW3.out hg1 HBW3.out.size (fun q hq => (HOWN2.out.lt _ hq).1)
      go_ret
      have hmiss := place_miss (by rw [← HUE.out]; exact HPL.out) hf
      have hfin : lns false T T.size = (f, o) := by
        have := lns_run HL.out (T.size - f) hmiss
        rwa [Nat.add_sub_cancel' hf] at this
      rw [HUE.out] at hown1
      exact ⟨f, o, A3, c3, rfl, hfin, (Sl.of_own hown1).1, hk1, hown1⟩
    · obtain ⟨i, rfl⟩ := Int.eq_ofNat_of_zero_le (by omega : 0 ≤ r)
      have hhit := place_hit (by rw [← HUE.out]; exact HPL.out) hf
      have hi1 : i + 1 ≤ U.size := by omega
      have hi2 : (i : Int) + 1 ≤ (U.size : Int) := by omega
      have hi3 : (i : Int) ≤ (U.size : Int) := by omega
      have hge : (0 : Int) ≤ (i : Int) := by omega
      have hc1 : (U.extract 0 i) = T.extract f (f + i) := by rw [HUE.out]; exact extract_cut T f i (by omega)
      have hc2 : U.extract (i + 1) U.size = T.extract (f + (i + 1)) T.size := by rw [HUE.out]; exact extract_rest T f (i + 1) (by omega)
      have hn : lns false T (f + i + 1) = (f + i + 1, o ++ [(U.extract 0 i)]) := by rw [hc1]; exact lns_hit HL.out i hhit.2.1 hhit.2.2
      have hels : strs (o ++ [(U.extract 0 i)]) = strs o ++ [.string (U.extract 0 i)] := strs_append o _
      have HELS := Lib.hid hels
      have hown2 := HOWN.out.alloc (.cells #[.string (U.extract 0 i)] 9)
      have hlit : Sl (wr.alloc (.cells #[.string (U.extract 0 i)] 9)) (some ⟨wr.heap.size, 0, none⟩) 1 [.string (U.extract 0 i)] := Sl.of_blk (cs := #[.string (U.extract 0 i)]) (Blk.new _ _ _) (by unfold maxLen; simp)
      have hbw3 : Kept w (wr.alloc (.cells #[.string (U.extract 0 i)] 9)) := HBW.out.alloc HBW.out.size _
      have HOWN2 := Lib.hid hown2
      have HLIT := Lib.hid hlit
      have HBW3 := Lib.hid hbw3
      have HC2 := Lib.hid hc2
      have HN := Lib.hid hn
      have hzz := HBW.out.size
      have hfi := hhit.1
      clear hels hown2 hlit hbw3 hc1 hc2 hn hhit hUs
      go_wp2_with (at_builtin; refine wpList_append_sl rfl (.tmp 16) (.tmp 20) 28 rfl w.heap.size 9 i0 (.string ByteArray.empty) 16 Tryz.underlying28 hi0 hz0 hz1 hz2 rfl _ o.length (strs o) rfl HOWN2.out _ 1 _ [.string (U.extract 0 i)] rfl rfl HLIT.out (by intro u hu; rw [List.mem_singleton.1 hu]; rfl) (by unfold maxLen; omega) (by omega) (by simp only [World.size_alloc]; omega) ?_; intro v1 w1_ hown1 hg1)
      rw [← HELS.out] at hown1
      have hk1 : Kept w w1_ := Below.grown HBW3.out hg1 HBW3.out.size (fun q hq => (HOWN2.out.lt _ hq).1)
      refine ⟨⟨f + i + 1, o ++ [(U.extract 0 i)], _, rfl, by rw [HC2.out, Nat.add_assoc], by omega, HN.out, by simpa using hown1, hk1⟩, ?_⟩
      simp only [szOf, ByteArray.size_extract]
      have := HUS.out
      omega
set_option maxRecDepth 100000 in
set_option maxHeartbeats 4000000 in
theorem zzSplitAfter_any (T : ByteArray) (hT : T.size ≤ 60) (w : World) :
    Calls Tryz.prog 45 #[.string T, .string ⟨#[10]⟩] w (RetSplit true T w) := by
  obtain ⟨i0, hi0, hz0, hz1, hz2⟩ := info_parts infoStr2
  go_enter Tryz.func45, Tryz.ntmps45
  go_wp2_with fail
  go_loopw [0, 5] (fun sv lv wr => ∃ (f : Nat) (o : List ByteArray) (U : ByteArray), sv = .string U ∧ U = T.extract f T.size ∧ f ≤ T.size ∧ lns true T f = (f, o) ∧ wr.ownsRow w.heap.size 9 1 lv o.length (strs o) ∧ Kept w wr) (fun sv _ _ => szOf sv)
  case atStart => exact ⟨0, [], T, rfl, (extract_all T).symm, Nat.zero_le _, rfl, by simpa [strs] using World.ownsRow_nil _ _ _ _, Below.refl _ _⟩
  case round =>
    obtain ⟨f, o, U, rfl, hU, hf, hl, hown, hbw⟩ := hrel
    obtain ⟨A2, cap, rfl⟩ := own_slice hown
    have hUs : U.size = T.size - f := by rw [hU, ByteArray.size_extract]; omega
    have hU60 : U.size ≤ 60 := by omega
    have hUI : (U.size : Int) ≤ 60 := by omega
    have HUE := Lib.hid hU
    have HUS := Lib.hid hUs
    have HL := Lib.hid hl
    have HOWN := Lib.hid hown
    have HBW := Lib.hid hbw
    have hol : o.length ≤ 60 := by have := lns_len true T f; rw [hl] at this; simp only at this; omega
    clear hU hl hown hbw
    go_wp2_with fail
    refine (zzIndex_any U ⟨#[10]⟩ hU60 (by decide) wr).mono ?_
    rintro e w1 ⟨r, rfl, hp, rfl⟩
    have HPL := Lib.hid hp
    clear hp
    by_cases hr : r < 0
    · obtain rfl : r = -1 := by have := HPL.out.lo.1; omega
      have hels : strs (o ++ [U]) = strs o ++ [.string U] := strs_append o U
      have HELS := Lib.hid hels
      have hown2 := HOWN.out.alloc (.cells #[.string U] 9)
      have hlit : Sl (wr.alloc (.cells #[.string U] 9)) (some ⟨wr.heap.size, 0, none⟩) 1 [.string U] := Sl.of_blk (cs := #[.string U]) (Blk.new _ _ _) (by unfold maxLen; simp)
      have hbw3 : Kept w (wr.alloc (.cells #[.string U] 9)) := HBW.out.alloc HBW.out.size _
      have HOWN2 := Lib.hid hown2
      have HLIT := Lib.hid hlit
      have HBW3 := Lib.hid hbw3
      have hzz := HBW.out.size
      clear hels hown2 hlit hbw3 hUs
      go_wp2_with (at_builtin; refine wpList_append_sl rfl (.tmp 17) (.tmp 19) 28 rfl w.heap.size 9 i0 (.string ByteArray.empty) 16 Tryz.underlying28 hi0 hz0 hz1 hz2 rfl _ o.length (strs o) rfl HOWN2.out _ 1 _ [.string U] rfl rfl HLIT.out (by intro u hu; rw [List.mem_singleton.1 hu]; rfl) (by unfold maxLen; omega) (by omega) (by simp only [World.size_alloc]; omega) ?_; intro v1 w1_ hown1 hg1)
      rw [← HELS.out] at hown1
      obtain ⟨A3, c3, rfl⟩ := own_slice hown1
      have hk1 : Kept w w1_ := Below.grown HBW3.out hg1 HBW3.out.size (fun q hq => (HOWN2.out.lt _ hq).1)
      go_ret
      have hmiss := place_miss (by rw [← HUE.out]; exact HPL.out) hf
      have hfin : lns true T T.size = (f, o) := by
        have := lns_run HL.out (T.size - f) hmiss
        rwa [Nat.add_sub_cancel' hf] at this
      rw [HUE.out] at hown1
      exact ⟨f, o, A3, c3, rfl, hfin, (Sl.of_own hown1).1, hk1, hown1⟩
    · obtain ⟨i, rfl⟩ := Int.eq_ofNat_of_zero_le (by omega : 0 ≤ r)
      have hhit := place_hit (by rw [← HUE.out]; exact HPL.out) hf
      have hi1 : i + 1 ≤ U.size := by omega
      have hi2 : (i : Int) + 1 ≤ (U.size : Int) := by omega
      have hi3 : (i : Int) ≤ (U.size : Int) := by omega
      have hge : (0 : Int) ≤ (i : Int) := by omega
      have hc1 : (U.extract 0 (i + 1)) = T.extract f (f + i + 1) := by rw [HUE.out]; exact extract_cut T f (i + 1) (by omega)
      have hc2 : U.extract (i + 1) U.size = T.extract (f + (i + 1)) T.size := by rw [HUE.out]; exact extract_rest T f (i + 1) (by omega)
      have hn : lns true T (f + i + 1) = (f + i + 1, o ++ [(U.extract 0 (i + 1))]) := by rw [hc1]; exact lns_hit HL.out i hhit.2.1 hhit.2.2
      have hels : strs (o ++ [(U.extract 0 (i + 1))]) = strs o ++ [.string (U.extract 0 (i + 1))] := strs_append o _
      have HELS := Lib.hid hels
      have hown2 := HOWN.out.alloc (.cells #[.string (U.extract 0 (i + 1))] 9)
      have hlit : Sl (wr.alloc (.cells #[.string (U.extract 0 (i + 1))] 9)) (some ⟨wr.heap.size, 0, none⟩) 1 [.string (U.extract 0 (i + 1))] := Sl.of_blk (cs := #[.string (U.extract 0 (i + 1))]) (Blk.new _ _ _) (by unfold maxLen; simp)
      have hbw3 : Kept w (wr.alloc (.cells #[.string (U.extract 0 (i + 1))] 9)) := HBW.out.alloc HBW.out.size _
      have HOWN2 := Lib.hid hown2
      have HLIT := Lib.hid hlit
      have HBW3 := Lib.hid hbw3
      have HC2 := Lib.hid hc2
      have HN := Lib.hid hn
      have hzz := HBW.out.size
      have hfi := hhit.1
      clear hels hown2 hlit hbw3 hc1 hc2 hn hhit hUs
      go_wp2_with (at_builtin; refine wpList_append_sl rfl (.tmp 21) (.tmp 28) 28 rfl w.heap.size 9 i0 (.string ByteArray.empty) 16 Tryz.underlying28 hi0 hz0 hz1 hz2 rfl _ o.length (strs o) rfl HOWN2.out _ 1 _ [.string (U.extract 0 (i + 1))] rfl rfl HLIT.out (by intro u hu; rw [List.mem_singleton.1 hu]; rfl) (by unfold maxLen; omega) (by omega) (by simp only [World.size_alloc]; omega) ?_; intro v1 w1_ hown1 hg1)
      rw [← HELS.out] at hown1
      have hk1 : Kept w w1_ := Below.grown HBW3.out hg1 HBW3.out.size (fun q hq => (HOWN2.out.lt _ hq).1)
      refine ⟨⟨f + i + 1, o ++ [(U.extract 0 (i + 1))], _, rfl, by rw [HC2.out, Nat.add_assoc], by omega, HN.out, by simpa using hown1, hk1⟩, ?_⟩
      simp only [szOf, ByteArray.size_extract]
      have := HUS.out
      omega
end Go.Proofs.YtcamjefacbaniaaGreatDoor
