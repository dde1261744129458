/- The places of a part in a text; partition with a part. -/
import Derived.Test.YtcamjefacbaniaaGreatTa
import Derived.Test.YtcamjefacbaniaaGreatSh
import Derived.RegionTactic
import Derived.BigRegion
namespace Go.Proofs.YtcamjefacbaniaaGreat
open Go.ChangeShapes Go.WideShapes Go.ChangeAt Go.RowKit
set_option linter.unusedVariables false
/-- the part stands at the place -/
def oc (T P : ByteArray) (k : Nat) : Bool := (T.extract k (k + P.size)).toList == P.toList
theorem list_inj {a b : ByteArray} (h : a.toList = b.toList) : a = b := by
  rw [ByteArray.toList_eq, ByteArray.toList_eq] at h
  exact ByteArray.ext (Array.toList_inj.1 h)
theorem oc_list (T P : ByteArray) (k : Nat) : ((T.extract k (k + P.size)).toList == P.toList) = oc T P k := rfl
/-- the first place (b false), or the last one, below K at which the part stands, or -1 -/
def PlaceAt (b : Bool) (T P : ByteArray) (K : Nat) (r : Int) : Prop :=
  (r = -1 ∧ ∀ j, j < K → oc T P j = false) ∨ ∃ i : Nat, i < K ∧ r = i ∧ oc T P i = true ∧ ∀ j, j < K → (if b then i < j else j < i) → oc T P j = false
theorem PlaceAt.unique {b : Bool} {T P : ByteArray} {K : Nat} {r s : Int} (h : PlaceAt b T P K r) (k : PlaceAt b T P K s) : r = s := by
  rcases h with ⟨e, h⟩ | ⟨i, hi, rfl, h1, h2⟩
  · rcases k with ⟨e', _⟩ | ⟨i', hi', _, h1', _⟩
    · rw [e, e']
    · rw [h i' hi'] at h1'; cases h1'
  · rcases k with ⟨e', h'⟩ | ⟨i', hi', rfl, h1', h2'⟩
    · rw [h' i hi] at h1; cases h1
    · rcases Nat.lt_trichotomy i i' with hlt | heq | hgt
      · cases b
        · rw [h2' i hi (by simpa using hlt)] at h1; cases h1
        · rw [h2 i' hi' (by simpa using hlt)] at h1'; cases h1'
      · rw [heq]
      · cases b
        · rw [h2 i' hi' (by simpa using hgt)] at h1'; cases h1'
        · rw [h2' i hi (by simpa using hgt)] at h1; cases h1
theorem PlaceAt.zero (b : Bool) (T P : ByteArray) : PlaceAt b T P 0 (-1) := .inl ⟨rfl, fun _ h => absurd h (Nat.not_lt_zero _)⟩
theorem PlaceAt.miss {b : Bool} {T P : ByteArray} {K : Nat} {r : Int} (h : PlaceAt b T P K r) (hk : oc T P K = false) : PlaceAt b T P (K + 1) r := by
  rcases h with ⟨e, h⟩ | ⟨i, hi, e, h1, h2⟩
  · exact .inl ⟨e, fun j hj => by
      by_cases e2 : j = K
      · subst e2; exact hk
      · exact h j (by omega)⟩
  · exact .inr ⟨i, by omega, e, h1, fun j hj hji => by
      by_cases e2 : j = K
      · subst e2; exact hk
      · exact h2 j (by omega) hji⟩
theorem PlaceAt.hitLast {T P : ByteArray} {K : Nat} (hk : oc T P K = true) : PlaceAt true T P (K + 1) K :=
  .inr ⟨K, by omega, rfl, hk, fun j hj hji => by simp at hji; omega⟩
theorem PlaceAt.hitFirst {T P : ByteArray} {K : Nat} (h : PlaceAt false T P K (-1)) (hk : oc T P K = true) : PlaceAt false T P (K + 1) K := by
  rcases h with ⟨_, h⟩ | ⟨i, _, e, _⟩
  · exact .inr ⟨K, by omega, rfl, hk, fun j hj hji => h j (by simpa using hji)⟩
  · omega
theorem PlaceAt.keepFirst {T P : ByteArray} {K : Nat} {r : Int} (h : PlaceAt false T P K r) (h0 : 0 ≤ r) (K' : Nat) (hK : K ≤ K') : PlaceAt false T P K' r := by
  rcases h with ⟨e, _⟩ | ⟨i, hi, e, h1, h2⟩
  · omega
  · exact .inr ⟨i, by omega, e, h1, fun j hj hji => h2 j (by simp at hji; omega) hji⟩
/-- how many places there are -/
def plc (T P : ByteArray) : Nat := T.size + 1 - P.size
theorem PlaceAt.lo {b : Bool} {T P : ByteArray} {K : Nat} {r : Int} (h : PlaceAt b T P K r) : -1 ≤ r ∧ r < (K : Int) := by
  rcases h with ⟨e, _⟩ | ⟨i, hi, e, _⟩ <;> omega
set_option maxRecDepth 100000 in
theorem zzIndex_any (T P : ByteArray) (hT : T.size ≤ 60) (hP : P.size ≤ 60) (w : World) :
    Calls Tryz.prog 51 #[.string T, .string P] w fun e w' => ∃ r : Int, e = .returned (.int .i64 r) ∧ PlaceAt false T P (plc T P) r ∧ w = w' := by
  have hPI : (P.size : Int) ≤ 60 := by omega
  have hTI : (T.size : Int) ≤ 60 := by omega
  go_enter Tryz.func51, Tryz.ntmps51
  go_wp2_with fail
  go_loop [5] (fun iv => ∃ k : Nat, iv = .int .i64 k ∧ k ≤ T.size + 1 ∧ Hid (PlaceAt false T P k (-1))) (fun iv => T.size + 1 - (intOf iv).toNat)
  case atStart => exact ⟨0, rfl, Nat.zero_le _, PlaceAt.zero _ _ _⟩
  case round =>
    obtain ⟨k, rfl, hk, HP⟩ := hrel
    by_cases hlt : k + P.size ≤ T.size
    · have h1 : (k : Int) + (P.size : Int) ≤ (T.size : Int) := by omega
      cases ho : oc T P k
      · have hb : ((T.extract k (k + P.size)).toList == P.toList) = false := (oc_list T P k).trans ho
        have HN := Lib.hid (HP.out.miss ho)
        clear ho
        go_wp2_with fail
        exact ⟨⟨k + 1, by go_num, by omega, HN.out⟩, by simp [intOf]; omega⟩
      · have hb : ((T.extract k (k + P.size)).toList == P.toList) = true := (oc_list T P k).trans ho
        have HN := Lib.hid ((HP.out.hitFirst ho).keepFirst (by omega) (plc T P) (by unfold plc; omega))
        clear ho
        go_wp2_with fail
        go_ret
        exact ⟨k, rfl, HN.out, rfl⟩
    · have h1 : ¬ ((k : Int) + (P.size : Int) ≤ (T.size : Int)) := by omega
      have HN : Hid (PlaceAt false T P (plc T P) (-1)) := Lib.hid (by
        rcases HP.out with ⟨e, h⟩ | ⟨i, _, e, _⟩
        · exact .inl ⟨rfl, fun j hj => h j (by unfold plc at hj; omega)⟩
        · omega)
      go_wp2_with fail
      go_ret
      exact ⟨-1, rfl, HN.out, rfl⟩
open Go.RowKit Go.Lib in
theorem occ_oc (T P : ByteArray) (j : Nat) (hj : j + P.size ≤ T.size) : Lib.occAt T.data.toList P.data.toList j = oc T P j := by
  rw [RK.occAt_win _ _ _ (by simpa using hj), ← oc_list, ByteArray.toList_eq, ByteArray.toList_eq, Lib.extract_data, RK.win]
  simp
theorem lastIndex_any (T P : ByteArray) (hT : T.size ≤ 60) (hP : P.size ≤ 60) (h0 : 0 < P.size) (w : World) :
    Calls Tryz.prog 52 #[.string T, .string P] w fun e w' => ∃ r : Int, e = .returned (.int .i64 r) ∧ PlaceAt true T P (plc T P) r ∧ w = w' := by
  refine (Tryz.strings_LastIndex T P (by omega) w).mono fun e w' ⟨he, hw⟩ => ⟨_, he, ?_, hw.symm⟩
  have hTl : T.data.toList.length = T.size := by simp
  have hPl : P.data.toList.length = P.size := by simp
  unfold Lib.lastIndex
  rw [hTl, hPl]
  split
  · rename_i hle
    have hs := Lib.lastOcc_spec T.data.toList P.data.toList (T.size - P.size + 1)
    have e2 : T.size - P.size + 1 = plc T P := by unfold plc; omega
    rw [e2] at hs ⊢
    rcases hs with ⟨e, h⟩ | ⟨i, hi, e, h1, h2⟩
    · exact .inl ⟨e, fun j hj => (occ_oc T P j (by unfold plc at hj; omega)).symm.trans (h j hj)⟩
    · exact .inr ⟨i, hi, e, (occ_oc T P i (by unfold plc at hi; omega)).symm.trans h1, fun j hj hji => (occ_oc T P j (by unfold plc at hj; omega)).symm.trans (h2 j (by simpa using hji) hj)⟩
  · rename_i hle
    exact .inl ⟨rfl, fun j hj => by unfold plc at hj; omega⟩
theorem asStr (S : ByteArray) (w : World) : (Instr.typeAssert (.iface 49 (.string S)) 44 49 true).run Tryz.prog w = .ok (.tuple #[.string S, .bool true]) w := by kernel_rfl
set_option maxRecDepth 100000 in
theorem AsString_any (S : ByteArray) (w : World) :
    Calls Tryz.prog 72 #[.iface 49 (.string S)] w fun e w' => e = .returned (.tuple #[.string S, .bool true]) ∧ w = w' := by
  have hat := asStr S
  go_enter Tryz.func72, Tryz.ntmps72
  go_wp2_with fail
  go_ret2
  exact ⟨rfl, rfl⟩
set_option maxRecDepth 100000 in
set_option maxHeartbeats 1000000 in
theorem unpackStr_any (S old : ByteArray) (g : Nat) (w : World) (hg : Blk w g 9 #[.string old]) :
    Calls Tryz.prog 62 #[.iface 49 (.string S), .iface 94 (.pointer (some ⟨g, 0, none⟩))] w fun e w' => e = .returned .nilIface ∧ w' = w.setCell ⟨g, 0, none⟩ (.string S) := by
  have c0 : w.cell? ⟨g, 0, none⟩ = some (.string old) := hg.cell 0
  have f0 : w.frozen? ⟨g, 0, none⟩ = false := hg.frozen 0
  have t1 : ∀ (a : Option Addr) (w : World), (Instr.typeAssert (.iface 94 (.pointer a)) 20 122 true).run Tryz.prog w = .ok (.tuple #[.pointer none, .bool false]) w := fun _ _ => by kernel_rfl
  have t2 : ∀ (a : Option Addr) (w : World), (Instr.typeAssert (.iface 94 (.pointer a)) 20 94 true).run Tryz.prog w = .ok (.tuple #[.pointer a, .bool true]) w := fun _ _ => by kernel_rfl
  clear hg
  go_enter Tryz.func62, Tryz.ntmps62
  go_wp2_with fail
  refine (AsString_any S w).mono ?_
  rintro e w1 ⟨rfl, rfl⟩
  go_wp2_with fail
  go_ret
  exact ⟨rfl, rfl⟩
/-- one argument, one variable -/
theorem unpack1_any (nm S old : ByteArray) (g ga gv ca cv : Nat) (w : World) (hg : Blk w g 9 #[.string old]) (ha : w.cell? ⟨ga, 0, none⟩ = some (.iface 49 (.string S))) (hv : w.cell? ⟨gv, 0, none⟩ = some (.iface 94 (.pointer (some ⟨g, 0, none⟩)))) :
    Calls Tryz.prog 48 #[.string nm, .slice (some ⟨ga, 0, none⟩) 1 ca, .slice none 0 0, .int .i64 1, .slice (some ⟨gv, 0, none⟩) 1 cv] w fun e w' => e = .returned .nilIface ∧ w' = w.setCell ⟨g, 0, none⟩ (.string S) := by
  have HC := Lib.hid (check_any nm (some ⟨ga, 0, none⟩) 1 ca 1 1 (Nat.le_refl _) (Nat.le_refl _) (by omega) w)
  have HU := Lib.hid (unpackStr_any S old g w hg)
  clear hg
  go_enter Tryz.func48, Tryz.ntmps48
  go_wp2_with fail
  refine (HC.out).mono ?_
  rintro e w1 ⟨rfl, rfl⟩
  go_wp2_with fail
  go_loopw [27] (fun iv wr => (iv = .int .i64 0 ∧ wr = w) ∨ (iv = .int .i64 1 ∧ wr = w.setCell ⟨g, 0, none⟩ (.string S))) (fun iv _ => 2 - (intOf iv).toNat)
  case atStart => exact .inl ⟨rfl, rfl⟩
  case round =>
    rcases hrel with ⟨rfl, rfl⟩ | ⟨rfl, rfl⟩
    · go_wp2_with fail
      refine (HU.out).mono ?_
      rintro e w1 ⟨rfl, hw1⟩
      go_wp2_with fail
      exact ⟨.inr ⟨rfl, trivial⟩, by simp [intOf]⟩
    · go_wp2_with fail
      go_ret
      exact ⟨rfl, rfl⟩
theorem Sl.of_blk {w : World} {g : Nat} {t : TypeId} {cs : Array Value} (h : Blk w g t cs) (hm : cs.size ≤ maxLen) : Sl w (some ⟨g, 0, none⟩) cs.size cs.toList := by
  refine ⟨by simp, hm, fun _ => ⟨g, 0, rfl, fun j u hu => ?_⟩⟩
  rw [Nat.zero_add, h.cell j]
  simpa using hu
/-- the two methods' names -/
def nmPart (back : Bool) : ByteArray := if back then ⟨#[114, 112, 97, 114, 116, 105, 116, 105, 111, 110]⟩ else ⟨#[112, 97, 114, 116, 105, 116, 105, 111, 110]⟩
/-- the parts: what is ahead, the part, what is behind -/
def prt (back : Bool) (T P : ByteArray) (r : Int) : List ByteArray :=
  if r < 0 then (if back then [⟨#[]⟩, ⟨#[]⟩, T] else [T, ⟨#[]⟩, ⟨#[]⟩]) else [T.extract 0 r.toNat, P, T.extract (r.toNat + P.size) T.size]
/-- texts as values of the language, in a row -/
def svs (l : List ByteArray) : List Value := l.map fun s => .iface 49 (.string s)
/-- texts in a row -/
def strs (l : List ByteArray) : List Value := l.map fun s => .string s
set_option maxRecDepth 100000 in
set_option maxHeartbeats 2000000 in
theorem string_partition_yes (back : Bool) (T P : ByteArray) (hT : T.size ≤ 60) (hP : P.size ≤ 60) (h0 : 0 < P.size) (f : Value) (g ga ca : Nat) (w : World) (hb : Blk w g 108 #[.string (nmPart back), f, .iface 49 (.string T)])
    (ha : w.cell? ⟨ga, 0, none⟩ = some (.iface 49 (.string P))) :
    Calls Tryz.prog 28 #[.pointer none, .pointer (some ⟨g, 0, none⟩), .slice (some ⟨ga, 0, none⟩) 1 ca, .slice none 0 0] w
      (Ret2 fun a b w' => ∃ r A c, a = .iface 61 (.slice A 3 c) ∧ b = .nilIface ∧ PlaceAt back T P (plc T P) r ∧ Sl w' A c (svs (prt back T P r)) ∧ Kept w w') := by
  have HB := Lib.hid hb
  have rs := recv_str T
  have hmk : ∀ w : World, (Instr.makeSlice 61 (.int .i64 0) (.int .i64 3)).run Tryz.prog w = .ok (.slice (some ⟨w.heap.size, 0, none⟩) 0 3) (w.alloc (.cells #[.nilIface, .nilIface, .nilIface] 44)) := fun _ => by kernel_rfl
  have hPe : P.toList.isEmpty = false := by rw [empty_iff]; exact decide_eq_false (by omega)
  have hgl := hb.lt
  have hga := block_lt_of_cell ha
  clear hb
  go_enter Tryz.func28, Tryz.ntmps28
  go_wp2_with fail
  refine (brecv_any g (nmPart back) T f w HB.out).mono ?_
  rintro e w1 ⟨rfl, rfl⟩
  go_wp2_with fail
  have hk0 : Kept w (w.alloc (.cells #[.string ⟨#[]⟩] 9)) := (Below.refl _ _).alloc (Nat.le_refl _) _
  refine (bname_any g (nmPart back) f _ _ (HB.out.below hk0)).mono ?_
  rintro e w1 ⟨rfl, rfl⟩
  go_wp2_with fail
  have hk1 : Kept w ((w.alloc (.cells #[.string ⟨#[]⟩] 9)).alloc (.cells #[.iface 94 (.pointer (some ⟨w.heap.size, 0, none⟩))] 20)) := by go_grown
  have hb1 : Blk ((w.alloc (.cells #[.string ⟨#[]⟩] 9)).alloc (.cells #[.iface 94 (.pointer (some ⟨w.heap.size, 0, none⟩))] 20)) w.heap.size 9 #[.string ⟨#[]⟩] := (Blk.new w _ _).below ((Below.refl _ _).alloc (Nat.le_refl _) _)
  have hb2 : Blk ((w.alloc (.cells #[.string ⟨#[]⟩] 9)).alloc (.cells #[.iface 94 (.pointer (some ⟨w.heap.size, 0, none⟩))] 20)) (w.heap.size + 1) 20 #[.iface 94 (.pointer (some ⟨w.heap.size, 0, none⟩))] := by
    have := Blk.new (w.alloc (.cells #[.string ⟨#[]⟩] 9)) 20 #[.iface 94 (.pointer (some ⟨w.heap.size, 0, none⟩))]
    rwa [World.size_alloc] at this
  have ha1 := (hk1.cell (p := ⟨ga, 0, none⟩) hga).trans ha
  have HU := Lib.hid (unpack1_any (nmPart back) P ⟨#[]⟩ w.heap.size ga (w.heap.size + 1) ca 1 _ hb1 ha1 (hb2.cell 0))
  have hB1 := HB.out.below hk1
  have hsz : ((w.alloc (.cells #[.string ⟨#[]⟩] 9)).alloc (.cells #[.iface 94 (.pointer (some ⟨w.heap.size, 0, none⟩))] 20)).heap.size = w.heap.size + 1 + 1 := by simp only [World.size_alloc]
  generalize ((w.alloc (.cells #[.string ⟨#[]⟩] 9)).alloc (.cells #[.iface 94 (.pointer (some ⟨w.heap.size, 0, none⟩))] 20)) = W1 at *
  refine (HU.out).mono ?_
  rintro e W2 ⟨rfl, hW2⟩
  have hc2 : W2.cell? ⟨w.heap.size, 0, none⟩ = some (.string P) := by rw [hW2]; exact World.cell?_setCell_same _ _ _ (hb1.cell 0)
  have hk2 : Kept w W2 := by rw [hW2]; exact hk1.setCell (Nat.le_refl _) _
  have hB2 := HB.out.below hk2
  have hsz2 : w.heap.size + 1 < W2.heap.size := by rw [hW2, World.size_setCell, hsz]; omega
  have HB2 := Lib.hid hB2
  have HK2 := Lib.hid hk2
  clear hW2 hb1 hb2 hB1 hk1 hk2 hB2 ha1 hsz ha HB hk0
  cases back
  · have hnm : nmPart false = ⟨#[112, 97, 114, 116, 105, 116, 105, 111, 110]⟩ := rfl
    rw [hnm] at HB2
    simp only [hnm]
    go_wp2_with fail
    refine (bname_any g _ f _ _ HB2.out).mono ?_
    rintro e w1 ⟨rfl, rfl⟩
    go_wp2_with fail
    refine (zzIndex_any T P hT hP _).mono ?_
    rintro e w1 ⟨r, rfl, hr, rfl⟩
    have HR := Lib.hid hr
    have hlo := hr.lo.1
    clear hr
    by_cases hneg : r < 0
    · obtain rfl : r = -1 := by omega
      go_wp2_with fail
      have hK3 : Kept w (W2.alloc (.cells #[.nilIface, .nilIface, .nilIface] 44)) := HK2.out.alloc (by omega) _
      refine (bname_any g _ f _ _ (HB2.out.below ((Below.refl _ _).alloc (Nat.le_refl _) _))).mono ?_
      rintro e w1 ⟨rfl, rfl⟩
      go_wp2_with fail
      go_ret2
      refine ⟨_, _, rfl, -1, _, 3, rfl, rfl, HR.out, ?_, ?_⟩
      · exact Sl.of_blk (cs := #[.iface 49 (.string T), .iface 49 (.string ⟨#[]⟩), .iface 49 (.string ⟨#[]⟩)]) ((Blk.new W2 44 _).below ((Below.refl _ _).alloc (Nat.le_refl _) _)) (by unfold maxLen; simp)
      · exact (HK2.out.alloc (by omega) _).alloc (by rw [World.size_alloc]; omega) _
    · obtain ⟨i, rfl⟩ := Int.eq_ofNat_of_zero_le (by omega : 0 ≤ r)
      have hi := HR.out.lo.2
      have hi1 : i + P.size ≤ T.size := by unfold plc at hi; omega
      have hi2 : (i : Int) + (P.size : Int) ≤ (T.size : Int) := by omega
      have hi3 : (i : Int) ≤ (T.size : Int) := by omega
      have hneg2 : ¬ ((i : Int) < 0) := by omega
      have hTI : (T.size : Int) ≤ 60 := by omega
      go_wp2_with fail
      have hc3 : (W2.alloc (.cells #[.nilIface, .nilIface, .nilIface] 44)).cell? ⟨w.heap.size, 0, none⟩ = some (.string P) := ((Below.refl W2.heap.size W2).alloc (Nat.le_refl _) _).cell (p := ⟨w.heap.size, 0, none⟩) (by simp only; omega) |>.trans hc2
      go_region
      go_wp2_with fail
      go_ret2
      have hK4 := (HK2.out.alloc (by omega) (.cells #[.iface 49 (.string (T.extract 0 i)), .iface 49 (.string P), .iface 49 (.string (T.extract (i + P.size) T.size))] 44)).alloc (by rw [World.size_alloc]; omega) (.cells #[.iface 49 (.string (T.extract 0 i)), .iface 49 (.string P), .iface 49 (.string (T.extract (i + P.size) T.size))] 44)
      have hB4 : Blk _ W2.heap.size 44 #[.iface 49 (.string (T.extract 0 i)), .iface 49 (.string P), .iface 49 (.string (T.extract (i + P.size) T.size))] := (Blk.new W2 44 #[.iface 49 (.string (T.extract 0 i)), .iface 49 (.string P), .iface 49 (.string (T.extract (i + P.size) T.size))]).below ((Below.refl _ _).alloc (Nat.le_refl _) (.cells #[.iface 49 (.string (T.extract 0 i)), .iface 49 (.string P), .iface 49 (.string (T.extract (i + P.size) T.size))] 44))
      refine ⟨_, _, rfl, (i : Int), _, 3, rfl, rfl, HR.out, ?_, ?_⟩
      · rw [prt, if_neg (by omega)]
        exact (Sl.of_blk hB4 (by unfold maxLen; simp)).below ⟨rfl, rfl, rfl, Nat.le_refl _, fun _ _ => rfl⟩
      · exact ⟨hK4.os, hK4.tape, hK4.output, hK4.size, hK4.block⟩
  · have hnm : nmPart true = ⟨#[114, 112, 97, 114, 116, 105, 116, 105, 111, 110]⟩ := rfl
    rw [hnm] at HB2
    simp only [hnm]
    go_wp2_with fail
    refine (bname_any g _ f _ _ HB2.out).mono ?_
    rintro e w1 ⟨rfl, rfl⟩
    go_wp2_with fail
    refine (lastIndex_any T P hT hP h0 _).mono ?_
    rintro e w1 ⟨r, rfl, hr, rfl⟩
    have HR := Lib.hid hr
    have hlo := hr.lo.1
    clear hr
    by_cases hneg : r < 0
    · obtain rfl : r = -1 := by omega
      go_wp2_with fail
      have hK3 : Kept w (W2.alloc (.cells #[.nilIface, .nilIface, .nilIface] 44)) := HK2.out.alloc (by omega) _
      refine (bname_any g _ f _ _ (HB2.out.below ((Below.refl _ _).alloc (Nat.le_refl _) _))).mono ?_
      rintro e w1 ⟨rfl, rfl⟩
      go_wp2_with fail
      go_ret2
      refine ⟨_, _, rfl, -1, _, 3, rfl, rfl, HR.out, ?_, ?_⟩
      · exact Sl.of_blk (cs := #[.iface 49 (.string ⟨#[]⟩), .iface 49 (.string ⟨#[]⟩), .iface 49 (.string T)]) ((Blk.new W2 44 _).below ((Below.refl _ _).alloc (Nat.le_refl _) _)) (by unfold maxLen; simp)
      · exact (HK2.out.alloc (by omega) _).alloc (by rw [World.size_alloc]; omega) _
    · obtain ⟨i, rfl⟩ := Int.eq_ofNat_of_zero_le (by omega : 0 ≤ r)
      have hi := HR.out.lo.2
      have hi1 : i + P.size ≤ T.size := by unfold plc at hi; omega
      have hi2 : (i : Int) + (P.size : Int) ≤ (T.size : Int) := by omega
      have hi3 : (i : Int) ≤ (T.size : Int) := by omega
      have hneg2 : ¬ ((i : Int) < 0) := by omega
      have hTI : (T.size : Int) ≤ 60 := by omega
      go_wp2_with fail
      have hc3 : (W2.alloc (.cells #[.nilIface, .nilIface, .nilIface] 44)).cell? ⟨w.heap.size, 0, none⟩ = some (.string P) := ((Below.refl W2.heap.size W2).alloc (Nat.le_refl _) _).cell (p := ⟨w.heap.size, 0, none⟩) (by simp only; omega) |>.trans hc2
      go_region
      go_wp2_with fail
      go_ret2
      have hK4 := (HK2.out.alloc (by omega) (.cells #[.iface 49 (.string (T.extract 0 i)), .iface 49 (.string P), .iface 49 (.string (T.extract (i + P.size) T.size))] 44)).alloc (by rw [World.size_alloc]; omega) (.cells #[.iface 49 (.string (T.extract 0 i)), .iface 49 (.string P), .iface 49 (.string (T.extract (i + P.size) T.size))] 44)
      have hB4 : Blk _ W2.heap.size 44 #[.iface 49 (.string (T.extract 0 i)), .iface 49 (.string P), .iface 49 (.string (T.extract (i + P.size) T.size))] := (Blk.new W2 44 #[.iface 49 (.string (T.extract 0 i)), .iface 49 (.string P), .iface 49 (.string (T.extract (i + P.size) T.size))]).below ((Below.refl _ _).alloc (Nat.le_refl _) (.cells #[.iface 49 (.string (T.extract 0 i)), .iface 49 (.string P), .iface 49 (.string (T.extract (i + P.size) T.size))] 44))
      refine ⟨_, _, rfl, (i : Int), _, 3, rfl, rfl, HR.out, ?_, ?_⟩
      · rw [prt, if_neg (by omega)]
        exact (Sl.of_blk hB4 (by unfold maxLen; simp)).below ⟨rfl, rfl, rfl, Nat.le_refl _, fun _ _ => rfl⟩
      · exact ⟨hK4.os, hK4.tape, hK4.output, hK4.size, hK4.block⟩
end Go.Proofs.YtcamjefacbaniaaGreat
