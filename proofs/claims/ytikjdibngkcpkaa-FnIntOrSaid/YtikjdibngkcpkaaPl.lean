import Derived.Test.YtikjdibngkcpkaaW8
import Derived.Test.YtikjdibngkcpkaaSn
namespace Go.Proofs.Ytikjdibngkcpkaa
open Go.ChangeShapes Go.WideShapes Go.ChangeAt Go.RowKit
set_option linter.unusedVariables false
/-- the n bytes of an integer in two's complement, the highest first -/
def pbRow (z : Int) (n : Nat) : List Nat := if z < 0 then (Num.be (z.natAbs - 1) n).map (fun d => 255 - d) else Num.be z.natAbs n
theorem pbRow_len (z : Int) (n : Nat) : (pbRow z n).length = n := by
  unfold pbRow
  split <;> simp [Num.be_len]
theorem pbRow_get (z : Int) (n j : Nat) (h : j < n) : (pbRow z n)[j]? = some (pb z (n - 1 - j)) := by
  unfold pbRow pb
  split
  · rw [List.getElem?_map, Num.be_get _ _ _ h]
    rfl
  · exact Num.be_get _ _ _ h
theorem pbRow_lt (z : Int) (n : Nat) : ∀ d ∈ pbRow z n, d < 256 := fun d hd => by
  obtain ⟨j, hj⟩ := List.mem_iff_getElem?.1 hd
  have hlt : j < (pbRow z n).length := by
    rcases Nat.lt_or_ge j (pbRow z n).length with h | h
    · exact h
    · rw [List.getElem?_eq_none h] at hj
      cases hj
  rw [pbRow_len] at hlt
  rw [pbRow_get z n j hlt] at hj
  injection hj with hj
  rw [← hj]
  exact pb_lt _ _
theorem be_pad {l : List Nat} {N n : Nat} (h : BE l N) (hn : l.length ≤ n) : Num.be N n = List.replicate (n - l.length) 0 ++ l := by
  apply List.ext_getElem?
  intro j
  rcases Nat.lt_or_ge j n with hj | hj
  · rw [Num.be_get _ _ _ hj, ← h.2, Num.dg_le _ _ _ (fun d hd => h.1.dig d hd)]
    rcases Nat.lt_or_ge j (n - l.length) with h1 | h1
    · rw [List.getElem?_append_left (by simpa using h1)]
      have : l.reverse.length ≤ n - 1 - j := by simp; omega
      simp [List.getD_eq_getElem?_getD, List.getElem?_eq_none this, h1]
    · rw [List.getElem?_append_right (by simpa using h1)]
      rw [Num.rev_getD l _ (by omega)]
      have e : l.length - 1 - (n - 1 - j) = j - (n - l.length) := by omega
      have hlt : j - (n - l.length) < l.length := by omega
      simp [e, List.getD_eq_getElem?_getD, hlt]
  · rw [List.getElem?_eq_none (by rw [Num.be_len]; exact hj), List.getElem?_eq_none (by simp; omega)]
theorem pbRow_head {z : Int} {n : Nat} (h : Fits n z) : (pbRow z (n + 1))[0]? = some (if z < 0 then 255 else 0) := by
  rw [pbRow_get z (n + 1) 0 (by omega)]
  unfold Fits at h
  unfold pb
  congr 1
  have e : n + 1 - 1 - 0 = n := by omega
  rw [e]
  unfold Num.dg
  split
  · rename_i hz
    rw [if_pos hz] at h
    rw [Nat.div_eq_of_lt h]
  · rename_i hz
    rw [if_neg hz] at h
    rw [Nat.div_eq_of_lt h]
theorem pow256_le (n : Nat) : 256 ^ n ≤ 256 ^ (n + 1) := Nat.pow_le_pow_right (by omega) (by omega)
theorem pbRow_pos {z : Int} {n : Nat} (h : Fits n z) (hz : ¬ z < 0) : sgn false (Num.le 256 (pbRow z (n + 1)).reverse) = z := by
  unfold Fits at h
  rw [if_neg hz] at h
  unfold pbRow
  rw [if_neg hz, Num.be_le _ _ (Nat.lt_of_lt_of_le h (pow256_le n))]
  unfold sgn
  simp
  omega
theorem pbRow_neg {z : Int} {n : Nat} (h : Fits n z) (hz : z < 0) : sgn false (Num.le 256 ((pbRow z (n + 1)).map (fun d => 255 - d)).reverse) = -z - 1 := by
  unfold Fits at h
  rw [if_pos hz] at h
  have e : (pbRow z (n + 1)).map (fun d => 255 - d) = Num.be (z.natAbs - 1) (n + 1) := by
    unfold pbRow
    rw [if_pos hz, List.map_map]
    have hlt := Num.be_lt (z.natAbs - 1) (n + 1)
    generalize Num.be (z.natAbs - 1) (n + 1) = L at *
    induction L with
    | nil => rfl
    | cons d t ih =>
      rw [List.map_cons, ih (fun x hx => hlt x (by simp [hx]))]
      have := hlt d (by simp)
      simp only [Function.comp_apply]
      congr 1
      omega
  rw [e, Num.be_le _ _ (Nat.lt_of_lt_of_le h (pow256_le n))]
  unfold sgn
  simp
  omega
theorem pbRow_or (x y : Int) (n : Nat) : (pbRow (orI x y) n) = List.zipWith (fun a b => a ||| b) (pbRow x n) (pbRow y n) := by
  apply List.ext_getElem?
  intro j
  rcases Nat.lt_or_ge j n with hj | hj
  · rw [pbRow_get _ _ _ hj, List.getElem?_zipWith, pbRow_get _ _ _ hj, pbRow_get _ _ _ hj]
    simp [pb_or]
  · rw [List.getElem?_eq_none (by rw [pbRow_len]; exact hj), List.getElem?_eq_none (by simp [pbRow_len]; exact hj)]
/-- a row of bytes of the call's own -/
def RetRow (w : World) (n : Nat) (f : Nat → Value) (e : Ending) (w' : World) : Prop := ∃ g, e = .returned (.slice (some ⟨g, 0, none⟩) n n) ∧ w.heap.size ≤ g ∧ w'.rowIs g 5 n f ∧ Kept w w'
theorem src8 {w : World} {A : Option Addr} {c : Nat} {l : List Nat} (hs : Sl w A c (by8 l)) (h : 0 < l.length) :
    ∃ sb so, A = some ⟨sb, so, none⟩ ∧ sb < w.heap.size ∧ ∀ j, j < l.length → w.cell? ⟨sb, so + j, none⟩ = some (.int .u8 ((l.getD j 0 : Nat) : Int)) := by
  obtain ⟨b, off, rfl, hc⟩ := hs.at_ (by8_ne h)
  refine ⟨b, off, rfl, block_lt_of_cell (hc 0 _ (by8_get l 0 h)), fun j hj => ?_⟩
  rw [List.getD_eq_getElem?_getD, List.getElem?_eq_getElem hj, Option.getD_some]
  exact hc j _ (by8_get l j hj)
theorem pad_row {l : List Nat} {M n : Nat} (h : BE l M) (hn : l.length ≤ n) (j : Nat) (hj : j < n) :
    (if n - l.length ≤ j ∧ j < n - l.length + l.length then Value.int .u8 ((l.getD (j - (n - l.length)) 0 : Nat) : Int) else .int .u8 0) = .int .u8 ((Num.dg 256 M (n - 1 - j) : Nat) : Int) := by
  have e := congrArg (fun L : List Nat => L[j]?) (be_pad h hn)
  simp only [Num.be_get _ _ _ hj] at e
  split
  · rename_i hc
    rw [List.getElem?_append_right (by simpa using hc.1)] at e
    simp only [List.length_replicate] at e
    rw [List.getD_eq_getElem?_getD, ← e, Option.getD_some]
  · rw [List.getElem?_append_left (by simp; omega), List.getElem?_replicate, if_pos (by omega)] at e
    injection e with e
    rw [e]
    rfl
theorem row_kept {w w' : World} {b : Nat} {t : TypeId} {n : Nat} {f : Nat → Value} (h : w.rowIs b t n f) (hb : Kept w w') : w'.rowIs b t n f := by
  obtain ⟨cur, h1, h2⟩ := h
  exact ⟨cur, (hb.block b (Array.getElem?_eq_some_iff.1 h1).1).trans h1, h2⟩
theorem size8 : (Try.prog.info? 5).map (·.size) = some 1 := by kernel_rfl
set_option maxRecDepth 100000 in
set_option maxHeartbeats 2000000 in
theorem plain_pos (b : Bool) (A : Option Addr) (k c n : Nat) (z : Int) (hz0 : ¬ z < 0) (hkn : k ≤ n) (hn : n ≤ 1000000) (h1n : 1 ≤ n) (w : World) (hv : SI w (.agg #[.bool b, .slice A k c]) z) :
    Calls Try.prog 48 #[.agg #[.bool b, .slice A k c], .int .i64 (n : Int)] w (RetRow w n (fun j => .int .u8 ((pb z (n - 1 - j) : Nat) : Int))) := by
  obtain ⟨hb, l, rfl, sv, uv⟩ := hv.parts
  rw [decide_eq_false hz0] at hb
  subst hb
  have hk1 : Kept w (w.alloc (.cells #[.bool false, .slice A l.length c] 24)) := by go_grown
  have b1 : Blk (w.alloc (.cells #[.bool false, .slice A l.length c] 24)) w.heap.size 24 #[.bool false, .slice A l.length c] := Blk.new _ _ _
  have hs1 := sv.below hk1
  have hsz := World.size_alloc w (.cells #[.bool false, .slice A l.length c] 24)
  have hmk := run_make_row' (P := Try.prog) 22 5 (.int .u8 0) 1 Try.underlying22 info8 rfl .i64 .i64 n (by omega) (by omega) (w.alloc (.cells #[.bool false, .slice A l.length c] 24))
  have hsub : (n : Int) - (l.length : Int) = ((n - l.length : Nat) : Int) := by omega
  have hr0 : ((w.alloc (.cells #[.bool false, .slice A l.length c] 24)).alloc (.cells (madeCells #[Value.int .u8 0] n) 5)).rowIs (w.heap.size + 1) 5 n (fun _ => .int .u8 0) := by
    rw [← hsz]; exact World.rowIs_made _ (.int .u8 0) n 5
  have hk2 : Kept (w.alloc (.cells #[.bool false, .slice A l.length c] 24)) ((w.alloc (.cells #[.bool false, .slice A l.length c] 24)).alloc (.cells (madeCells #[Value.int .u8 0] n) 5)) := (Below.refl _ _).alloc (Nat.le_refl _) _
  have hcut : ∀ wx : World, (Instr.slice 22 (.slice (some ⟨w.heap.size + 1, 0, none⟩) n n) (some (.int .i64 ((n - l.length : Nat) : Int))) none none).run Try.prog wx = .ok (.slice (cutA (some ⟨w.heap.size + 1, 0, none⟩) (n - l.length) n) (n - (n - l.length)) (n - (n - l.length))) wx := fun wx => run_from8 _ n n (n - l.length) (by omega) wx
  have en : n - (n - l.length) = l.length := by omega
  rw [en] at hcut
  rw [hsz] at hmk
  have hcp : 0 < l.length → cutA (some ⟨w.heap.size + 1, 0, none⟩) (n - l.length) n = some ⟨w.heap.size + 1, n - l.length, none⟩ ∧ ∃ sb so, A = some ⟨sb, so, none⟩ ∧ ∀ j, j < l.length → ((w.alloc (.cells #[.bool false, .slice A l.length c] 24)).alloc (.cells (madeCells #[Value.int .u8 0] n) 5)).cell? ⟨sb, so + j, none⟩ = some ((fun j => Value.int .u8 ((l.getD j 0 : Nat) : Int)) j) := fun h0 => by
    obtain ⟨sb, so, e, hl, hc⟩ := src8 (hs1.below hk2) h0
    exact ⟨by rw [cutA_some' _ _ _ _ (by omega), Nat.zero_add], sb, so, e, hc⟩
  have hrow : ∀ j, j < n → (if n - l.length ≤ j ∧ j < n - l.length + l.length then (fun j => Value.int .u8 ((l.getD j 0 : Nat) : Int)) (j - (n - l.length)) else (fun _ => Value.int .u8 0) j) = .int .u8 ((pb z (n - 1 - j) : Nat) : Int) := fun j hj => by
    have := pad_row uv hkn j hj
    unfold pb
    rw [if_neg hz0]
    exact this
  have HCP := Lib.hid hcp
  have HROW := Lib.hid hrow
  have HR0 := Lib.hid hr0
  have HB1 := Lib.hid b1
  have HK1 := Lib.hid hk1
  have HK2 := Lib.hid hk2
  have n0 : (0 : Int) < (n : Int) := by omega
  clear hcp hrow hr0 b1 hk1 hk2 sv uv hv hs1 en
  go_enter Try.func48, Try.ntmps48
  go_wp2_with (refine wpList_copy_row rfl (.tmp 22) (.tmp 23) 22 22 rfl 5 Try.underlying22 size8 _ _ _ _ _ _ rfl rfl (w.heap.size + 1) (n - l.length) l.length n 5 (fun _ => .int .u8 0) (fun j => Value.int .u8 ((l.getD j 0 : Nat) : Int)) HR0.out (Nat.min_self _).symm HCP.out (by omega) (fun _ _ => rfl) ?_; intro w3 hr3 hg3; have HR3 := Lib.hid (hr3.congr HROW.out); have hz3 := hg3.size; have HK3 : Hid (Kept (w.alloc (.cells #[.bool false, .slice A l.length c] 24)) w3) := Lib.hid (Below.grown HK2.out hg3 (by simp) (fun k hk => by injection hk with hk; subst hk; rw [hsz]; exact Nat.le_refl _)); have c30 := (HB1.out.below HK3.out).cell 0; clear hr3 hg3)
  refine wp_loop_rounds 1 ?_
  rw [rounds_succ]
  go_wp2_with fail
  go_ret
  exact ⟨_, rfl, Nat.le_succ _, HR3.out, HK1.out.trans HK3.out⟩
theorem u8_not (d : Nat) (h : d < 256) : bits .xor .u8 (if IntKind.u8.signed = true then -1 else IntKind.u8.max) (d : Int) = ((255 - d : Nat) : Int) := by
  have key : ∀ e : Fin 256, bits .xor .u8 (if IntKind.u8.signed = true then -1 else IntKind.u8.max) ((e.val : Nat) : Int) = ((255 - e.val : Nat) : Int) := by decide +kernel
  exact key ⟨d, h⟩
/-- the row when its i highest digits are turned -/
def ng (M n i j : Nat) : Value := .int .u8 (((if j < i then 255 - Num.dg 256 M (n - 1 - j) else Num.dg 256 M (n - 1 - j)) : Nat) : Int)
theorem ng_set (M n i : Nat) : (fun j => if j = i then Value.int .u8 ((255 - Num.dg 256 M (n - 1 - i) : Nat) : Int) else ng M n i j) = ng M n (i + 1) := by
  funext j
  unfold ng
  by_cases h : j = i
  · subst h
    rw [if_pos rfl, if_pos (by omega)]
  · rw [if_neg h]
    by_cases h2 : j < i
    · rw [if_pos h2, if_pos (by omega)]
    · rw [if_neg h2, if_neg (by omega)]
set_option maxRecDepth 100000 in
set_option maxHeartbeats 4000000 in
theorem plain_neg (b : Bool) (A : Option Addr) (k c n : Nat) (z : Int) (hz : z.natAbs < Num.Cap) (hz0 : z < 0) (hkn : k ≤ n) (hn : n ≤ 1000000) (h1n : 1 ≤ n) (w : World) (hv : SI w (.agg #[.bool b, .slice A k c]) z) :
    Calls Try.prog 48 #[.agg #[.bool b, .slice A k c], .int .i64 (n : Int)] w (RetRow w n (fun j => .int .u8 ((pb z (n - 1 - j) : Nat) : Int))) := by
  obtain ⟨hb, l, rfl, sv, uv⟩ := hv.parts
  rw [decide_eq_true hz0] at hb
  subst hb
  have hk1 : Kept w (w.alloc (.cells #[.bool true, .slice A l.length c] 24)) := by go_grown
  have b1 : Blk (w.alloc (.cells #[.bool true, .slice A l.length c] 24)) w.heap.size 24 #[.bool true, .slice A l.length c] := Blk.new _ _ _
  have hsz := World.size_alloc w (.cells #[.bool true, .slice A l.length c] 24)
  have hmk := run_make_row' (P := Try.prog) 22 5 (.int .u8 0) 1 Try.underlying22 info8 rfl .i64 .i64 n (by omega) (by omega) (w.alloc (.cells #[.bool true, .slice A l.length c] 24))
  have hr0 : ((w.alloc (.cells #[.bool true, .slice A l.length c] 24)).alloc (.cells (madeCells #[Value.int .u8 0] n) 5)).rowIs (w.heap.size + 1) 5 n (fun _ => .int .u8 0) := by
    rw [← hsz]; exact World.rowIs_made _ (.int .u8 0) n 5
  have hk2 : Kept (w.alloc (.cells #[.bool true, .slice A l.length c] 24)) ((w.alloc (.cells #[.bool true, .slice A l.length c] 24)).alloc (.cells (madeCells #[Value.int .u8 0] n) 5)) := (Below.refl _ _).alloc (Nat.le_refl _) _
  have HV := Lib.hid (hv.below (hk1.trans hk2))
  have HL : Hid (256 ^ (l.length - 1) ≤ z.natAbs ∧ z.natAbs < 256 ^ l.length) := Lib.hid (by
    refine ⟨?_, ?_⟩
    · have h1 : l ≠ [] := fun e => by have := uv.nil_iff.1 e; omega
      have := Num.le_ge 256 (by omega) l.reverse uv.1 (by simpa using h1)
      rw [uv.2, List.length_reverse] at this
      exact this
    · have := Num.le_lt 256 (by omega) l.reverse (fun d hd => uv.1.dig d hd)
      rw [uv.2, List.length_reverse] at this
      exact this)
  rw [hsz] at hmk
  have HB1 := Lib.hid b1
  have HK1 := Lib.hid hk1
  have HK2 := Lib.hid hk2
  have HR0 := Lib.hid hr0
  clear hr0 sv uv hv b1 hk1 hk2
  go_enter Try.func48, Try.ntmps48
  go_wp2_with fail
  generalize (w.alloc (.cells #[.bool true, .slice A l.length c] 24)) = W1 at *
  generalize (W1.alloc (.cells (madeCells #[Value.int .u8 0] n) 5)) = W2 at *
  refine (sNot_any true A l.length c z hz _ HV.out).mono ?_
  rintro e w2 ⟨v, rfl, hs2, hk3⟩
  obtain ⟨b', A', k', c', rfl⟩ := hs2.two
  obtain ⟨hb', l', rfl, sv', uv'⟩ := hs2.toSI.parts
  clear hb'
  have hfd : ∀ wx : World, (Instr.field 24 (.agg #[.bool b', .slice A' l'.length c']) 1).run Try.prog wx = .ok (.slice A' l'.length c') wx := fun _ => by kernel_rfl
  have eM : (-z - 1).natAbs = z.natAbs - 1 := by omega
  rw [eM] at uv'
  have hl' : l'.length ≤ n := by
    have h1 := Num.len_lt 256 (by omega) l'.reverse uv'.1 l.length (by rw [uv'.2]; have := HL.out.2; omega)
    rw [List.length_reverse] at h1
    omega
  have hsub : (n : Int) - (l'.length : Int) = ((n - l'.length : Nat) : Int) := by omega
  have hcut : ∀ wx : World, (Instr.slice 22 (.slice (some ⟨w.heap.size + 1, 0, none⟩) n n) (some (.int .i64 ((n - l'.length : Nat) : Int))) none none).run Try.prog wx = .ok (.slice (cutA (some ⟨w.heap.size + 1, 0, none⟩) (n - l'.length) n) (n - (n - l'.length)) (n - (n - l'.length))) wx := fun wx => run_from8 _ n n (n - l'.length) (by omega) wx
  have en : n - (n - l'.length) = l'.length := by omega
  rw [en] at hcut
  have hcp : 0 < l'.length → cutA (some ⟨w.heap.size + 1, 0, none⟩) (n - l'.length) n = some ⟨w.heap.size + 1, n - l'.length, none⟩ ∧ ∃ sb so, A' = some ⟨sb, so, none⟩ ∧ ∀ j, j < l'.length → w2.cell? ⟨sb, so + j, none⟩ = some ((fun j => Value.int .u8 ((l'.getD j 0 : Nat) : Int)) j) := fun h0 => by
    obtain ⟨sb, so, e, hl, hc⟩ := src8 sv' h0
    exact ⟨by rw [cutA_some' _ _ _ _ (by omega), Nat.zero_add], sb, so, e, hc⟩
  have hrow : ∀ j, j < n → (if n - l'.length ≤ j ∧ j < n - l'.length + l'.length then (fun j => Value.int .u8 ((l'.getD j 0 : Nat) : Int)) (j - (n - l'.length)) else (fun _ => Value.int .u8 0) j) = ng (z.natAbs - 1) n 0 j := fun j hj => pad_row uv' hl' j hj
  have HCP := Lib.hid hcp
  have HROW := Lib.hid hrow
  have HR2 := Lib.hid (row_kept HR0.out hk3)
  have HK3 := Lib.hid (HK2.out.trans hk3)
  have n0 : (0 : Int) < (n : Int) := by omega
  clear hcp hrow sv' uv' hs2 en eM hk3 HV HR0
  go_wp2_with (refine wpList_copy_row rfl (.tmp 22) (.tmp 23) 22 22 rfl 5 Try.underlying22 size8 _ _ _ _ _ _ rfl rfl (w.heap.size + 1) (n - l'.length) l'.length n 5 (fun _ => .int .u8 0) (fun j => Value.int .u8 ((l'.getD j 0 : Nat) : Int)) HR2.out (Nat.min_self _).symm HCP.out (by omega) (fun _ _ => rfl) ?_; intro w3 hr3 hg3; have HR3 := Lib.hid (hr3.congr HROW.out); have HK4 : Hid (Kept W1 w3) := Lib.hid (Below.grown HK3.out hg3 HK3.out.size (fun k hk => by injection hk with hk; subst hk; rw [hsz]; exact Nat.le_refl _)); clear hr3 hg3)
  go_loopw [7] (fun iv wr => ∃ i : Nat, iv = .int .i64 i ∧ i ≤ n ∧ wr.rowIs (w.heap.size + 1) 5 n (ng (z.natAbs - 1) n i) ∧ Kept W1 wr) (fun iv _ => n - (intOf iv).toNat)
  case atStart => exact ⟨0, rfl, Nat.zero_le _, HR3.out, HK4.out⟩
  case round =>
    obtain ⟨i, rfl, hi, hri, hbr⟩ := hrel
    have c30 := (HB1.out.below hbr).cell 0
    simp only [List.getElem?_toArray, List.getElem?_cons_zero] at c30
    by_cases hlt : i < n
    · have hcl := hri.cell (i := i) hlt
      have hfr := hri.frozen i
      have hd := Num.dg_lt (b := 256) (by decide) (z.natAbs - 1) (n - 1 - i)
      have hng : ng (z.natAbs - 1) n i i = .int .u8 ((Num.dg 256 (z.natAbs - 1) (n - 1 - i) : Nat) : Int) := by unfold ng; rw [if_neg (by omega)]
      have hset := hri.set i (.int .u8 ((255 - Num.dg 256 (z.natAbs - 1) (n - 1 - i) : Nat) : Int))
      simp only [ng_set] at hset
      rw [hng] at hcl
      have i0 : (0 : Int) ≤ (i : Int) := by omega
      have i1 : (i : Int) < (n : Int) := by omega
      have HSET := Lib.hid hset
      have HBR : Hid (Kept W1 (wr.setCell ⟨w.heap.size + 1, i, none⟩ (.int .u8 ((255 - Num.dg 256 (z.natAbs - 1) (n - 1 - i) : Nat) : Int)))) := Lib.hid (hbr.setCell (by simp only; omega) _)
      have hxr := Lib.hid (u8_not _ hd)
      clear hset hri hbr hng
      generalize Num.dg 256 (z.natAbs - 1) (n - 1 - i) = d at *
      go_wp2_with fail
      rw [hxr.out]
      exact ⟨⟨i + 1, by go_num, by omega, HSET.out, HBR.out⟩, by simp [intOf]; omega⟩
    · obtain rfl : i = n := by omega
      have HRI := Lib.hid hri
      have HBR := Lib.hid hbr
      clear hri hbr
      go_wp2_with fail
      go_ret
      refine ⟨_, rfl, Nat.le_succ _, HRI.out.congr fun j hj => ?_, HK1.out.trans HBR.out⟩
      unfold ng pb
      rw [if_pos hj, if_pos hz0]
theorem plain_any (b : Bool) (A : Option Addr) (k c n : Nat) (z : Int) (hz : z.natAbs < Num.Cap) (hkn : k ≤ n) (hn : n ≤ 1000000) (h1n : 1 ≤ n) (w : World) (hv : SI w (.agg #[.bool b, .slice A k c]) z) :
    Calls Try.prog 48 #[.agg #[.bool b, .slice A k c], .int .i64 (n : Int)] w (RetRow w n (fun j => .int .u8 ((pb z (n - 1 - j) : Nat) : Int))) := by
  by_cases h : z < 0
  · exact plain_neg b A k c n z hz h hkn hn h1n w hv
  · exact plain_pos b A k c n z h hkn hn h1n w hv
end Go.Proofs.Ytikjdibngkcpkaa
