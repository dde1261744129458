import Derived.Test.YtikjdibngkcpkaaLo
namespace Go.Proofs.Ytikjdibngkcpkaa
open Go.ChangeShapes Go.WideShapes Go.ChangeAt Go.RowKit
set_option linter.unusedVariables false
theorem cutA_some' (b off k c : Nat) (hc : c ≠ k) : cutA (some ⟨b, off, none⟩) k c = some ⟨b, off + k, none⟩ := by
  unfold cutA
  rw [if_neg hc]
  by_cases h0 : k = 0
  · subst h0; simp [Addr.add]
  · simp [Addr.add, h0]
theorem src_cells {w : World} {A : Option Addr} {c : Nat} {xs : List Nat} (hs : Sl w A c (w64 xs)) (hd : ∀ d ∈ xs, d < Num.B64) (M : Nat) (hM : M < xs.length) :
    ∃ sb so, cutA A M c = some ⟨sb, so, none⟩ ∧ sb < w.heap.size ∧ ∀ j, M + j < xs.length → w.cell? ⟨sb, so + j, none⟩ = some (.int .u64 ((Num.dg Num.B64 (Num.le Num.B64 xs) (M + j) : Nat) : Int)) := by
  have hcap := hs.cap
  rw [w64_len] at hcap
  obtain ⟨b, off, rfl, hc⟩ := hs.at_ (w64_ne (by omega))
  refine ⟨b, off + M, cutA_some' _ _ _ _ (by omega), block_lt_of_cell (hc 0 _ (w64_get xs 0 (by omega))), fun j hj => ?_⟩
  rw [Num.dg_le Num.B64 xs _ hd, List.getD_eq_getElem?_getD, List.getElem?_eq_getElem hj, Option.getD_some, Nat.add_assoc]
  exact hc (M + j) _ (w64_get xs (M + j) hj)
theorem step_copy_none {P : Program} {w : World} {ops : Array Oper} {o : Oper} {a : Act} {K : Act → World → Prop} {Q : Exit → Act → World → Prop} {E : Prop} (hgd : o.guard = none) (d s : Operand) (dT sT : TypeId)
    (ho : o.op = .call { callee := .builtin .copy, args := #[d, s], argTypes := #[dT, sT] }) (elem : TypeId) (hu : P.underlying dT = some (.slice elem)) (hsz : (P.info? elem).map (·.size) = some 1)
    (dp sp : Option Addr) (dLen dCap sLen sCap : Nat) (hd : a.eval d = .slice dp dLen dCap) (hs : a.eval s = .slice sp sLen sCap) (hm : Nat.min sLen dLen = 0)
    (h : K (a.put o.dst (goInt 0)) w) :
    if Region.wanted o (yielded ops a.tmps) = true then Oper.wp P o a w K Q else E := by
  have hw : Region.wanted o (yielded ops a.tmps) = true := by simp [Region.wanted, hgd]
  rw [if_pos hw]
  have hrun := run_copy_none (P := P) w dT sT o.type elem dp sp dLen dCap sLen sCap hu hsz hm
  unfold Oper.wp
  simp [execOp, ho, resolve, invoke, builtin, hd, hs, hrun, Result.andThen]
  exact h
set_option maxRecDepth 100000 in
set_option maxHeartbeats 4000000 in
theorem natOr_any (Ax Ay : Option Addr) (cx cy0 : Nat) (xs ys : List Nat) (h3 : xs.length ≤ 100000) (h4 : ys.length ≤ 100000) (hdx : ∀ d ∈ xs, d < Num.B64) (hdy : ∀ d ∈ ys, d < Num.B64) (w : World) (hs : Sl w Ax cx (w64 xs)) (ht : Sl w Ay cy0 (w64 ys)) :
    Calls Try.prog 104 #[.slice none 0 0, .slice Ax xs.length cx, .slice Ay ys.length cy0] w (RetNat w (((Num.le Num.B64 xs) ||| (Num.le Num.B64 ys)))) := by
  have hcx := hs.cap
  have hcy := ht.cap
  rw [w64_len] at hcx hcy
  have HS := Lib.hid (And.intro hs hdx)
  have HT := Lib.hid (And.intro ht hdy)
  have hX1 := Num.le_lt Num.B64 Num.B64_pos xs hdx
  have hY1 := Num.le_lt Num.B64 Num.B64_pos ys hdy
  have hcase : ys.length < xs.length ∨ ¬ ys.length < xs.length := by omega
  have hcase2 : xs.length < ys.length ∨ ¬ xs.length < ys.length := by omega
  have hcx0 := src_cells hs hdx
  have hcy0 := src_cells ht hdy
  clear hs ht hdx hdy
  generalize hX : Num.le Num.B64 xs = X at *
  generalize hY : Num.le Num.B64 ys = Y at *
  have HX := Lib.hid hX
  have HY := Lib.hid hY
  have HX1 := Lib.hid hX1
  have HY1 := Lib.hid hY1
  have HCX := Lib.hid hcx0
  have HCY := Lib.hid hcy0
  clear hX hY hX1 hY1 hcx0 hcy0
  rcases hcase2 with n1 | n1
  · have hcap : xs.length ≤ ys.length ∧ ys.length ≤ 100000 := ⟨by omega, by omega⟩
    have HMK := Lib.hid (make_nil (ys.length) (by omega) w)
    have HSS : Hid ((X ||| Y) < Num.B64 ^ (ys.length)) := Lib.hid (by
      have h1 : X < Num.B64 ^ (ys.length) := Nat.lt_of_lt_of_le HX1.out (Nat.pow_le_pow_right Num.B64_pos (by omega))
      have h2 : Y < Num.B64 ^ (ys.length) := Nat.lt_of_lt_of_le HY1.out (Nat.pow_le_pow_right Num.B64_pos (by omega))
      rw [B64_pow] at h1 h2 ⊢
      exact Nat.or_lt_two_pow h1 h2)
    go_enter Try.func104, Try.ntmps104
    go_wp2_with fail
    refine (HMK.out).mono ?_
    rintro e w1 (⟨h0, rfl, rfl⟩ | ⟨h0, cap, hc1, hc2, rfl, hrow, hbw⟩)
    · have hS0 : (X ||| Y) = 0 := by have := HSS.out; rw [h0, Nat.pow_zero] at this; omega
      have HS0 := Lib.hid hS0
      have HNO := Lib.hid (norm_any none 0 [] (by simp) w1.drew (Sl.nil _))
      clear hS0
      go_wp2_with fail
      refine wp_loop_rounds 1 ?_
      rw [rounds_succ]
      have hz1 : ∀ wx : World, (Instr.slice 98 (.slice none 0 0) (some (.int .i64 0)) (some (.int .i64 0)) none).run Try.prog wx = .ok (.slice (cutA none 0 0) (0 - 0) (0 - 0)) wx := fun wx => run_mid98 none 0 0 0 0 (by omega) (by omega) wx
      have hz2 : ∀ wx : World, (Instr.slice 98 (.slice Ay 0 cy0) (some (.int .i64 0)) (some (.int .i64 0)) none).run Try.prog wx = .ok (.slice (cutA Ay 0 cy0) (0 - 0) (cy0 - 0)) wx := fun wx => run_mid98 Ay 0 cy0 0 0 (by omega) (by omega) wx
      have hT0 : ys.length = 0 := h0
      have hM0 : xs.length = 0 := by omega
      simp only [hT0, hM0] at *
      go_wp2_with fail
      go_region_held3 (fun X : World => True) (trivial)
        ((refine step_copy_none rfl (.tmp 45) (.tmp 49) 98 98 rfl 106 Try.underlying98 size_word _ _ _ _ _ _ (by rfl) (by rfl) (by rfl) ?_))
      go_wp2_with fail
      refine (HNO.out).mono ?_
      rintro e w5 ⟨rfl, rfl⟩
      go_wp2_with fail
      go_ret
      exact ⟨none, 0, [], rfl, Sl.nil _, (fun a h => by cases h), by rw [HS0.out]; exact ⟨Num.Can.nil _, rfl⟩, by go_grown⟩
    · have hr0 : w1.rowIs w.heap.size 106 cap (wv (X ||| Y) 0 (fun _ => .int .u64 0)) := by rw [wv_zero]; exact hrow
      have HC : Hid (ys.length ≤ cap ∧ cap ≤ 1000000) := Lib.hid ⟨by omega, by omega⟩
      clear hrow
      go_wp2_with fail
      go_loopw [10] (fun iv wr => ∃ i : Nat, iv = .int .i64 i ∧ i ≤ xs.length ∧ wr.rowIs w.heap.size 106 cap (wv (X ||| Y) i (fun _ => .int .u64 0)) ∧ Kept w wr) (fun iv _ => xs.length - (intOf iv).toNat)
      case atStart => exact ⟨0, rfl, Nat.zero_le _, hr0, hbw⟩
      case round =>
        obtain ⟨i, rfl, hi, hri, hbr⟩ := hrel
        by_cases hlt : i < xs.length
        · obtain ⟨b1, o1, rfl, hb1, q1⟩ := word_cell HS.out.1 HS.out.2 i (by omega)
          obtain ⟨b2, o2, rfl, hb2, q2⟩ := word_cell HT.out.1 HT.out.2 i (by omega)
          rw [HX.out] at q1
          rw [HY.out] at q2
          have r1 := (hbr.cell (p := ⟨b1, o1 + i, none⟩) hb1).trans q1
          have r2 := (hbr.cell (p := ⟨b2, o2 + i, none⟩) hb2).trans q2
          have hset := fun nq : Nat => (rowIs_drewN hri nq).set i (.int .u64 ((Num.dg Num.B64 (X ||| Y) i : Nat) : Int))
          simp only [wv_set] at hset
          have hcl := hri.cell (i := i) (by have := HC.out; omega)
          have hfr := hri.frozen i
          have hx := Num.dg_lt Num.B64_pos X i
          have hy := Num.dg_lt Num.B64_pos Y i
          have hB : Num.B64 = 18446744073709551616 := rfl
          have hbit : bits .or .u64 ((Num.dg Num.B64 X i : Nat) : Int) ((Num.dg Num.B64 Y i : Nat) : Int) = ((Num.dg Num.B64 (X ||| Y) i : Nat) : Int) := by
            rw [dg_or]; exact u64_or_nat _ _ (by omega) (by omega)
          have hne1 : ⟨b1, o1 + i, none⟩ ≠ (⟨w.heap.size, i, none⟩ : Addr) := fun e => by injection e with e1; omega
          have hne2 : ⟨b2, o2 + i, none⟩ ≠ (⟨w.heap.size, i, none⟩ : Addr) := fun e => by injection e with e1; omega
          have i0 : (0 : Int) ≤ (i : Int) := by omega
          have i1 : (i : Int) < (xs.length : Int) := by omega
          have i2 : (i : Int) < (ys.length : Int) := by omega
          have i3 : (i : Int) < (ys.length : Int) := by omega
          have hbr2 : ∀ nq : Nat, Kept w ((wr.drewN nq).setCell ⟨w.heap.size, i, none⟩ (.int .u64 ((Num.dg Num.B64 (X ||| Y) i : Nat) : Int))) := fun nq => (below_drewN hbr nq).setCell (Nat.le_refl _) _
          have HSET := Lib.hid (hset 1)
          have HBR2 := Lib.hid (hbr2 1)
          have s1 : ∀ v : Value, (wr.drew.setCell ⟨w.heap.size, i, none⟩ v).cell? ⟨b1, o1 + i, none⟩ = some (.int .u64 ((Num.dg Num.B64 X i : Nat) : Int)) := fun v => (World.cell?_setCell_other _ _ _ _ (Ne.symm hne1)).trans r1
          have s2 : ∀ v : Value, (wr.drew.setCell ⟨w.heap.size, i, none⟩ v).cell? ⟨b2, o2 + i, none⟩ = some (.int .u64 ((Num.dg Num.B64 Y i : Nat) : Int)) := fun v => (World.cell?_setCell_other _ _ _ _ (Ne.symm hne2)).trans r2
          clear hset hri hbr hx hy hB q1 q2 hb1 hb2 hbr2
          generalize Num.dg Num.B64 X i = x at *
          generalize Num.dg Num.B64 Y i = y at *
          generalize Num.dg Num.B64 (X ||| Y) i = z at *
          generalize wv (X ||| Y) i (fun _ => Value.int .u64 0) i = old at *
          go_wp2_with fail
          go_region_held3 (fun Z : World => Z.cell? ⟨b1, o1 + i, none⟩ = some (.int .u64 (x : Int)) ∧ Z.cell? ⟨b2, o2 + i, none⟩ = some (.int .u64 (y : Int)))
            (first | exact ⟨r1, r2⟩ | exact ⟨s1 _, s2 _⟩ | go_keep) (fail)
          go_wp2_with fail
          exact ⟨⟨i + 1, by go_num, by omega, HSET.out, HBR2.out⟩, by simp [intOf]; omega⟩
        · obtain rfl : i = xs.length := by omega
          have hs1 : ∀ wx : World, (Instr.slice 98 (.slice (some ⟨w.heap.size, 0, none⟩) ys.length cap) (some (.int .i64 ((xs.length : Nat) : Int))) (some (.int .i64 ((ys.length : Nat) : Int))) none).run Try.prog wx = .ok (.slice (cutA (some ⟨w.heap.size, 0, none⟩) xs.length cap) (ys.length - xs.length) (cap - xs.length)) wx := fun wx => run_mid98 _ ys.length cap xs.length (ys.length) (by omega) (by have := HC.out; omega) wx
          have hs2 : ∀ wx : World, (Instr.slice 98 (.slice Ay (ys).length cy0) (some (.int .i64 ((xs.length : Nat) : Int))) (some (.int .i64 ((ys.length : Nat) : Int))) none).run Try.prog wx = .ok (.slice (cutA Ay xs.length cy0) (ys.length - xs.length) (cy0 - xs.length)) wx := fun wx => run_mid98 _ (ys).length cy0 xs.length (ys.length) (by omega) (by omega) wx
          have HRI := Lib.hid hri
          have HBR := Lib.hid hbr
          clear hri hbr
          go_wp2_with fail
          go_region_held3 (fun X : World => True) (trivial)
            ((refine step_copy_row rfl (.tmp 45) (.tmp 49) 98 98 rfl 106 Try.underlying98 size_word _ _ _ _ _ _ (by rfl) (by rfl) w.heap.size xs.length (ys.length - xs.length) cap 106 (wv (X ||| Y) xs.length (fun _ => .int .u64 0)) (fun t => Value.int .u64 ((Num.dg Num.B64 Y (xs.length + t) : Nat) : Int)) (rowIs_heap HRI.out rfl) (by first | exact (Nat.min_self _).symm | exact Nat.sub_self _)
                (fun h0 => by
                  obtain ⟨sb, so, e, hb, hc⟩ := HCY.out xs.length (by omega)
                  exact ⟨by rw [cutA_some' _ _ _ _ (by have := HC.out; omega), Nat.zero_add], sb, so, e, fun j hj => (HBR.out.cell (p := ⟨sb, so + j, none⟩) hb).trans (hc j (by omega))⟩) (by have := HC.out; omega) (fun _ _ => rfl) ?_
              intro w2 hr2 hg2))
          have hk2 : Kept w w2 := kept_of_only (B := w.heap.size) HBR.out (g := w.heap.size) ⟨hg2.os, hg2.tape, hg2.output, hg2.size, hg2.block⟩ (Nat.le_refl _) HBR.out.size
          have hh : ∀ j, j < ys.length → (if xs.length ≤ j ∧ j < xs.length + (ys.length - xs.length) then Value.int .u64 ((Num.dg Num.B64 Y (xs.length + (j - xs.length)) : Nat) : Int) else wv (X ||| Y) xs.length (fun _ => .int .u64 0) j) = .int .u64 ((Num.dg Num.B64 (X ||| Y) j : Nat) : Int) := fun j hj => by
            by_cases hjm : xs.length ≤ j
            · rw [if_pos ⟨hjm, by omega⟩, show xs.length + (j - xs.length) = j by omega]
              exact congrArg (fun n : Nat => Value.int .u64 (n : Int)) (by
                have h2 : X < Num.B64 ^ j := Nat.lt_of_lt_of_le HX1.out (Nat.pow_le_pow_right Num.B64_pos hjm)
                have h3 : Num.dg Num.B64 X j = 0 := by unfold Num.dg; rw [Nat.div_eq_of_lt h2]; rfl
                rw [dg_or, h3]; rw [Nat.zero_or])
            · rw [if_neg (by omega)]
              unfold wv
              rw [if_pos (by omega)]
          clear hs1 hs2
          have hSl := ww_row hr2 (fun j hj => hh j hj) (by have := HC.out; omega) (by unfold maxLen; have := HC.out; omega)
          have hNO := norm_any (some ⟨w.heap.size, 0, none⟩) cap (ww (X ||| Y) (ys.length)) (by simp [ww]; omega) _ hSl
          have hwl : (ww (X ||| Y) (ys.length)).length = ys.length := by simp [ww]
          rw [hwl] at hNO
          have hRN := RetNat.of_ww hr2 (fun j hj => hh j hj) (by have := HC.out; omega) (by unfold maxLen; have := HC.out; omega) HSS.out hk2
          have HNO := Lib.hid hNO
          have HRN := Lib.hid hRN
          clear hSl hNO hwl hRN hk2 hh hg2
          go_wp2_with fail
          refine (HNO.out).mono ?_
          rintro e w5 ⟨rfl, rfl⟩
          go_wp2_with fail
          go_ret
          exact HRN.out
  · have hcap : ys.length ≤ xs.length ∧ xs.length ≤ 100000 := ⟨by omega, by omega⟩
    have HMK := Lib.hid (make_nil (xs.length) (by omega) w)
    have HSS : Hid ((X ||| Y) < Num.B64 ^ (xs.length)) := Lib.hid (by
      have h1 : X < Num.B64 ^ (xs.length) := Nat.lt_of_lt_of_le HX1.out (Nat.pow_le_pow_right Num.B64_pos (by omega))
      have h2 : Y < Num.B64 ^ (xs.length) := Nat.lt_of_lt_of_le HY1.out (Nat.pow_le_pow_right Num.B64_pos (by omega))
      rw [B64_pow] at h1 h2 ⊢
      exact Nat.or_lt_two_pow h1 h2)
    go_enter Try.func104, Try.ntmps104
    go_wp2_with fail
    refine (HMK.out).mono ?_
    rintro e w1 (⟨h0, rfl, rfl⟩ | ⟨h0, cap, hc1, hc2, rfl, hrow, hbw⟩)
    · have hS0 : (X ||| Y) = 0 := by have := HSS.out; rw [h0, Nat.pow_zero] at this; omega
      have HS0 := Lib.hid hS0
      have HNO := Lib.hid (norm_any none 0 [] (by simp) w1.drew (Sl.nil _))
      clear hS0
      go_wp2_with fail
      refine wp_loop_rounds 1 ?_
      rw [rounds_succ]
      have hz1 : ∀ wx : World, (Instr.slice 98 (.slice none 0 0) (some (.int .i64 0)) (some (.int .i64 0)) none).run Try.prog wx = .ok (.slice (cutA none 0 0) (0 - 0) (0 - 0)) wx := fun wx => run_mid98 none 0 0 0 0 (by omega) (by omega) wx
      have hz2 : ∀ wx : World, (Instr.slice 98 (.slice Ax 0 cx) (some (.int .i64 0)) (some (.int .i64 0)) none).run Try.prog wx = .ok (.slice (cutA Ax 0 cx) (0 - 0) (cx - 0)) wx := fun wx => run_mid98 Ax 0 cx 0 0 (by omega) (by omega) wx
      have hT0 : xs.length = 0 := h0
      have hM0 : ys.length = 0 := by omega
      simp only [hT0, hM0] at *
      go_wp2_with fail
      go_region_held3 (fun X : World => True) (trivial)
        ((refine step_copy_none rfl (.tmp 45) (.tmp 49) 98 98 rfl 106 Try.underlying98 size_word _ _ _ _ _ _ (by rfl) (by rfl) (by rfl) ?_))
      go_wp2_with fail
      refine (HNO.out).mono ?_
      rintro e w5 ⟨rfl, rfl⟩
      go_wp2_with fail
      go_ret
      exact ⟨none, 0, [], rfl, Sl.nil _, (fun a h => by cases h), by rw [HS0.out]; exact ⟨Num.Can.nil _, rfl⟩, by go_grown⟩
    · have hr0 : w1.rowIs w.heap.size 106 cap (wv (X ||| Y) 0 (fun _ => .int .u64 0)) := by rw [wv_zero]; exact hrow
      have HC : Hid (xs.length ≤ cap ∧ cap ≤ 1000000) := Lib.hid ⟨by omega, by omega⟩
      clear hrow
      go_wp2_with fail
      go_loopw [10] (fun iv wr => ∃ i : Nat, iv = .int .i64 i ∧ i ≤ ys.length ∧ wr.rowIs w.heap.size 106 cap (wv (X ||| Y) i (fun _ => .int .u64 0)) ∧ Kept w wr) (fun iv _ => ys.length - (intOf iv).toNat)
      case atStart => exact ⟨0, rfl, Nat.zero_le _, hr0, hbw⟩
      case round =>
        obtain ⟨i, rfl, hi, hri, hbr⟩ := hrel
        by_cases hlt : i < ys.length
        · obtain ⟨b1, o1, rfl, hb1, q1⟩ := word_cell HS.out.1 HS.out.2 i (by omega)
          obtain ⟨b2, o2, rfl, hb2, q2⟩ := word_cell HT.out.1 HT.out.2 i (by omega)
          rw [HX.out] at q1
          rw [HY.out] at q2
          have r1 := (hbr.cell (p := ⟨b1, o1 + i, none⟩) hb1).trans q1
          have r2 := (hbr.cell (p := ⟨b2, o2 + i, none⟩) hb2).trans q2
          have hset := fun nq : Nat => (rowIs_drewN hri nq).set i (.int .u64 ((Num.dg Num.B64 (X ||| Y) i : Nat) : Int))
          simp only [wv_set] at hset
          have hcl := hri.cell (i := i) (by have := HC.out; omega)
          have hfr := hri.frozen i
          have hx := Num.dg_lt Num.B64_pos X i
          have hy := Num.dg_lt Num.B64_pos Y i
          have hB : Num.B64 = 18446744073709551616 := rfl
          have hbit : bits .or .u64 ((Num.dg Num.B64 X i : Nat) : Int) ((Num.dg Num.B64 Y i : Nat) : Int) = ((Num.dg Num.B64 (X ||| Y) i : Nat) : Int) := by
            rw [dg_or]; exact u64_or_nat _ _ (by omega) (by omega)
          have hne1 : ⟨b1, o1 + i, none⟩ ≠ (⟨w.heap.size, i, none⟩ : Addr) := fun e => by injection e with e1; omega
          have hne2 : ⟨b2, o2 + i, none⟩ ≠ (⟨w.heap.size, i, none⟩ : Addr) := fun e => by injection e with e1; omega
          have i0 : (0 : Int) ≤ (i : Int) := by omega
          have i1 : (i : Int) < (xs.length : Int) := by omega
          have i2 : (i : Int) < (ys.length : Int) := by omega
          have i3 : (i : Int) < (xs.length : Int) := by omega
          have hbr2 : ∀ nq : Nat, Kept w ((wr.drewN nq).setCell ⟨w.heap.size, i, none⟩ (.int .u64 ((Num.dg Num.B64 (X ||| Y) i : Nat) : Int))) := fun nq => (below_drewN hbr nq).setCell (Nat.le_refl _) _
          have HSET := Lib.hid (hset 1)
          have HBR2 := Lib.hid (hbr2 1)
          have s1 : ∀ v : Value, (wr.drew.setCell ⟨w.heap.size, i, none⟩ v).cell? ⟨b1, o1 + i, none⟩ = some (.int .u64 ((Num.dg Num.B64 X i : Nat) : Int)) := fun v => (World.cell?_setCell_other _ _ _ _ (Ne.symm hne1)).trans r1
          have s2 : ∀ v : Value, (wr.drew.setCell ⟨w.heap.size, i, none⟩ v).cell? ⟨b2, o2 + i, none⟩ = some (.int .u64 ((Num.dg Num.B64 Y i : Nat) : Int)) := fun v => (World.cell?_setCell_other _ _ _ _ (Ne.symm hne2)).trans r2
          clear hset hri hbr hx hy hB q1 q2 hb1 hb2 hbr2
          generalize Num.dg Num.B64 X i = x at *
          generalize Num.dg Num.B64 Y i = y at *
          generalize Num.dg Num.B64 (X ||| Y) i = z at *
          generalize wv (X ||| Y) i (fun _ => Value.int .u64 0) i = old at *
          go_wp2_with fail
          go_region_held3 (fun Z : World => Z.cell? ⟨b1, o1 + i, none⟩ = some (.int .u64 (x : Int)) ∧ Z.cell? ⟨b2, o2 + i, none⟩ = some (.int .u64 (y : Int)))
            (first | exact ⟨r1, r2⟩ | exact ⟨s1 _, s2 _⟩ | go_keep) (fail)
          go_wp2_with fail
          exact ⟨⟨i + 1, by go_num, by omega, HSET.out, HBR2.out⟩, by simp [intOf]; omega⟩
        · obtain rfl : i = ys.length := by omega
          have hs1 : ∀ wx : World, (Instr.slice 98 (.slice (some ⟨w.heap.size, 0, none⟩) xs.length cap) (some (.int .i64 ((ys.length : Nat) : Int))) (some (.int .i64 ((xs.length : Nat) : Int))) none).run Try.prog wx = .ok (.slice (cutA (some ⟨w.heap.size, 0, none⟩) ys.length cap) (xs.length - ys.length) (cap - ys.length)) wx := fun wx => run_mid98 _ xs.length cap ys.length (xs.length) (by omega) (by have := HC.out; omega) wx
          have hs2 : ∀ wx : World, (Instr.slice 98 (.slice Ax (xs).length cx) (some (.int .i64 ((ys.length : Nat) : Int))) (some (.int .i64 ((xs.length : Nat) : Int))) none).run Try.prog wx = .ok (.slice (cutA Ax ys.length cx) (xs.length - ys.length) (cx - ys.length)) wx := fun wx => run_mid98 _ (xs).length cx ys.length (xs.length) (by omega) (by omega) wx
          have HRI := Lib.hid hri
          have HBR := Lib.hid hbr
          clear hri hbr
          go_wp2_with fail
          go_region_held3 (fun X : World => True) (trivial)
            ((refine step_copy_row rfl (.tmp 45) (.tmp 49) 98 98 rfl 106 Try.underlying98 size_word _ _ _ _ _ _ (by rfl) (by rfl) w.heap.size ys.length (xs.length - ys.length) cap 106 (wv (X ||| Y) ys.length (fun _ => .int .u64 0)) (fun t => Value.int .u64 ((Num.dg Num.B64 X (ys.length + t) : Nat) : Int)) (rowIs_heap HRI.out rfl) (by first | exact (Nat.min_self _).symm | exact Nat.sub_self _)
                (fun h0 => by
                  obtain ⟨sb, so, e, hb, hc⟩ := HCX.out ys.length (by omega)
                  exact ⟨by rw [cutA_some' _ _ _ _ (by have := HC.out; omega), Nat.zero_add], sb, so, e, fun j hj => (HBR.out.cell (p := ⟨sb, so + j, none⟩) hb).trans (hc j (by omega))⟩) (by have := HC.out; omega) (fun _ _ => rfl) ?_
              intro w2 hr2 hg2))
          have hk2 : Kept w w2 := kept_of_only (B := w.heap.size) HBR.out (g := w.heap.size) ⟨hg2.os, hg2.tape, hg2.output, hg2.size, hg2.block⟩ (Nat.le_refl _) HBR.out.size
          have hh : ∀ j, j < xs.length → (if ys.length ≤ j ∧ j < ys.length + (xs.length - ys.length) then Value.int .u64 ((Num.dg Num.B64 X (ys.length + (j - ys.length)) : Nat) : Int) else wv (X ||| Y) ys.length (fun _ => .int .u64 0) j) = .int .u64 ((Num.dg Num.B64 (X ||| Y) j : Nat) : Int) := fun j hj => by
            by_cases hjm : ys.length ≤ j
            · rw [if_pos ⟨hjm, by omega⟩, show ys.length + (j - ys.length) = j by omega]
              exact congrArg (fun n : Nat => Value.int .u64 (n : Int)) (by
                have h2 : Y < Num.B64 ^ j := Nat.lt_of_lt_of_le HY1.out (Nat.pow_le_pow_right Num.B64_pos hjm)
                have h3 : Num.dg Num.B64 Y j = 0 := by unfold Num.dg; rw [Nat.div_eq_of_lt h2]; rfl
                rw [dg_or, h3]; rw [Nat.or_zero])
            · rw [if_neg (by omega)]
              unfold wv
              rw [if_pos (by omega)]
          clear hs1 hs2
          have hSl := ww_row hr2 (fun j hj => hh j hj) (by have := HC.out; omega) (by unfold maxLen; have := HC.out; omega)
          have hNO := norm_any (some ⟨w.heap.size, 0, none⟩) cap (ww (X ||| Y) (xs.length)) (by simp [ww]; omega) _ hSl
          have hwl : (ww (X ||| Y) (xs.length)).length = xs.length := by simp [ww]
          rw [hwl] at hNO
          have hRN := RetNat.of_ww hr2 (fun j hj => hh j hj) (by have := HC.out; omega) (by unfold maxLen; have := HC.out; omega) HSS.out hk2
          have HNO := Lib.hid hNO
          have HRN := Lib.hid hRN
          clear hSl hNO hwl hRN hk2 hh hg2
          go_wp2_with fail
          refine (HNO.out).mono ?_
          rintro e w5 ⟨rfl, rfl⟩
          go_wp2_with fail
          go_ret
          exact HRN.out
set_option maxRecDepth 100000 in
set_option maxHeartbeats 4000000 in
theorem natAndNot_any (Ax Ay : Option Addr) (cx cy0 : Nat) (xs ys : List Nat) (h3 : xs.length ≤ 100000) (h4 : ys.length ≤ 100000) (hdx : ∀ d ∈ xs, d < Num.B64) (hdy : ∀ d ∈ ys, d < Num.B64) (w : World) (hs : Sl w Ax cx (w64 xs)) (ht : Sl w Ay cy0 (w64 ys)) :
    Calls Try.prog 105 #[.slice none 0 0, .slice Ax xs.length cx, .slice Ay ys.length cy0] w (RetNat w ((anot (Num.le Num.B64 xs) (Num.le Num.B64 ys)))) := by
  have hcx := hs.cap
  have hcy := ht.cap
  rw [w64_len] at hcx hcy
  have HS := Lib.hid (And.intro hs hdx)
  have HT := Lib.hid (And.intro ht hdy)
  have hX1 := Num.le_lt Num.B64 Num.B64_pos xs hdx
  have hY1 := Num.le_lt Num.B64 Num.B64_pos ys hdy
  have hcase : ys.length < xs.length ∨ ¬ ys.length < xs.length := by omega
  have hcase2 : xs.length < ys.length ∨ ¬ xs.length < ys.length := by omega
  have hcx0 := src_cells hs hdx
  have hcy0 := src_cells ht hdy
  clear hs ht hdx hdy
  generalize hX : Num.le Num.B64 xs = X at *
  generalize hY : Num.le Num.B64 ys = Y at *
  have HX := Lib.hid hX
  have HY := Lib.hid hY
  have HX1 := Lib.hid hX1
  have HY1 := Lib.hid hY1
  have HCX := Lib.hid hcx0
  have HCY := Lib.hid hcy0
  clear hX hY hX1 hY1 hcx0 hcy0
  rcases hcase2 with n1 | n1
  · have hcap : xs.length ≤ xs.length ∧ xs.length ≤ 100000 := ⟨by omega, by omega⟩
    have HMK := Lib.hid (make_nil (xs.length) (by omega) w)
    have HSS : Hid ((anot X Y) < Num.B64 ^ (xs.length)) := Lib.hid (by
      exact Nat.lt_of_le_of_lt (anot_le X Y) HX1.out)
    go_enter Try.func105, Try.ntmps105
    go_wp2_with fail
    refine (HMK.out).mono ?_
    rintro e w1 (⟨h0, rfl, rfl⟩ | ⟨h0, cap, hc1, hc2, rfl, hrow, hbw⟩)
    · have hS0 : (anot X Y) = 0 := by have := HSS.out; rw [h0, Nat.pow_zero] at this; omega
      have HS0 := Lib.hid hS0
      have HNO := Lib.hid (norm_any none 0 [] (by simp) w1.drew (Sl.nil _))
      clear hS0
      go_wp2_with fail
      refine wp_loop_rounds 1 ?_
      rw [rounds_succ]
      have hz1 : ∀ wx : World, (Instr.slice 98 (.slice none 0 0) (some (.int .i64 0)) (some (.int .i64 0)) none).run Try.prog wx = .ok (.slice (cutA none 0 0) (0 - 0) (0 - 0)) wx := fun wx => run_mid98 none 0 0 0 0 (by omega) (by omega) wx
      have hz2 : ∀ wx : World, (Instr.slice 98 (.slice Ax 0 cx) (some (.int .i64 0)) (some (.int .i64 0)) none).run Try.prog wx = .ok (.slice (cutA Ax 0 cx) (0 - 0) (cx - 0)) wx := fun wx => run_mid98 Ax 0 cx 0 0 (by omega) (by omega) wx
      have hT0 : xs.length = 0 := h0
      have hM0 : xs.length = 0 := by omega
      simp only [hT0] at *
      go_wp2_with fail
      go_region_held3 (fun X : World => True) (trivial)
        ((refine step_copy_none rfl (.tmp 41) (.tmp 45) 98 98 rfl 106 Try.underlying98 size_word _ _ _ _ _ _ (by rfl) (by rfl) (by rfl) ?_))
      go_wp2_with fail
      refine (HNO.out).mono ?_
      rintro e w5 ⟨rfl, rfl⟩
      go_wp2_with fail
      go_ret
      exact ⟨none, 0, [], rfl, Sl.nil _, (fun a h => by cases h), by rw [HS0.out]; exact ⟨Num.Can.nil _, rfl⟩, by go_grown⟩
    · have hr0 : w1.rowIs w.heap.size 106 cap (wv (anot X Y) 0 (fun _ => .int .u64 0)) := by rw [wv_zero]; exact hrow
      have HC : Hid (xs.length ≤ cap ∧ cap ≤ 1000000) := Lib.hid ⟨by omega, by omega⟩
      clear hrow
      go_wp2_with fail
      go_loopw [9] (fun iv wr => ∃ i : Nat, iv = .int .i64 i ∧ i ≤ xs.length ∧ wr.rowIs w.heap.size 106 cap (wv (anot X Y) i (fun _ => .int .u64 0)) ∧ Kept w wr) (fun iv _ => xs.length - (intOf iv).toNat)
      case atStart => exact ⟨0, rfl, Nat.zero_le _, hr0, hbw⟩
      case round =>
        obtain ⟨i, rfl, hi, hri, hbr⟩ := hrel
        by_cases hlt : i < xs.length
        · obtain ⟨b1, o1, rfl, hb1, q1⟩ := word_cell HS.out.1 HS.out.2 i (by omega)
          obtain ⟨b2, o2, rfl, hb2, q2⟩ := word_cell HT.out.1 HT.out.2 i (by omega)
          rw [HX.out] at q1
          rw [HY.out] at q2
          have r1 := (hbr.cell (p := ⟨b1, o1 + i, none⟩) hb1).trans q1
          have r2 := (hbr.cell (p := ⟨b2, o2 + i, none⟩) hb2).trans q2
          have hset := fun nq : Nat => (rowIs_drewN hri nq).set i (.int .u64 ((Num.dg Num.B64 (anot X Y) i : Nat) : Int))
          simp only [wv_set] at hset
          have hcl := hri.cell (i := i) (by have := HC.out; omega)
          have hfr := hri.frozen i
          have hx := Num.dg_lt Num.B64_pos X i
          have hy := Num.dg_lt Num.B64_pos Y i
          have hB : Num.B64 = 18446744073709551616 := rfl
          have hbit : bits .andNot .u64 ((Num.dg Num.B64 X i : Nat) : Int) ((Num.dg Num.B64 Y i : Nat) : Int) = ((Num.dg Num.B64 (anot X Y) i : Nat) : Int) := by
            rw [dg_anot, u64_andNot_nat _ _ (by omega) (by omega), anot_word _ _ (by omega) (by omega)]
          have hne1 : ⟨b1, o1 + i, none⟩ ≠ (⟨w.heap.size, i, none⟩ : Addr) := fun e => by injection e with e1; omega
          have hne2 : ⟨b2, o2 + i, none⟩ ≠ (⟨w.heap.size, i, none⟩ : Addr) := fun e => by injection e with e1; omega
          have i0 : (0 : Int) ≤ (i : Int) := by omega
          have i1 : (i : Int) < (xs.length : Int) := by omega
          have i2 : (i : Int) < (ys.length : Int) := by omega
          have i3 : (i : Int) < (xs.length : Int) := by omega
          have hbr2 : ∀ nq : Nat, Kept w ((wr.drewN nq).setCell ⟨w.heap.size, i, none⟩ (.int .u64 ((Num.dg Num.B64 (anot X Y) i : Nat) : Int))) := fun nq => (below_drewN hbr nq).setCell (Nat.le_refl _) _
          have HSET := Lib.hid (hset 1)
          have HBR2 := Lib.hid (hbr2 1)
          have s1 : ∀ v : Value, (wr.drew.setCell ⟨w.heap.size, i, none⟩ v).cell? ⟨b1, o1 + i, none⟩ = some (.int .u64 ((Num.dg Num.B64 X i : Nat) : Int)) := fun v => (World.cell?_setCell_other _ _ _ _ (Ne.symm hne1)).trans r1
          have s2 : ∀ v : Value, (wr.drew.setCell ⟨w.heap.size, i, none⟩ v).cell? ⟨b2, o2 + i, none⟩ = some (.int .u64 ((Num.dg Num.B64 Y i : Nat) : Int)) := fun v => (World.cell?_setCell_other _ _ _ _ (Ne.symm hne2)).trans r2
          clear hset hri hbr hx hy hB q1 q2 hb1 hb2 hbr2
          generalize Num.dg Num.B64 X i = x at *
          generalize Num.dg Num.B64 Y i = y at *
          generalize Num.dg Num.B64 (anot X Y) i = z at *
          generalize wv (anot X Y) i (fun _ => Value.int .u64 0) i = old at *
          go_wp2_with fail
          go_region_held3 (fun Z : World => Z.cell? ⟨b1, o1 + i, none⟩ = some (.int .u64 (x : Int)) ∧ Z.cell? ⟨b2, o2 + i, none⟩ = some (.int .u64 (y : Int)))
            (first | exact ⟨r1, r2⟩ | exact ⟨s1 _, s2 _⟩ | go_keep) (fail)
          go_wp2_with fail
          exact ⟨⟨i + 1, by go_num, by omega, HSET.out, HBR2.out⟩, by simp [intOf]; omega⟩
        · obtain rfl : i = xs.length := by omega
          have hs1 : ∀ wx : World, (Instr.slice 98 (.slice (some ⟨w.heap.size, 0, none⟩) xs.length cap) (some (.int .i64 ((xs.length : Nat) : Int))) (some (.int .i64 ((xs.length : Nat) : Int))) none).run Try.prog wx = .ok (.slice (cutA (some ⟨w.heap.size, 0, none⟩) xs.length cap) (xs.length - xs.length) (cap - xs.length)) wx := fun wx => run_mid98 _ xs.length cap xs.length (xs.length) (by omega) (by have := HC.out; omega) wx
          have hs2 : ∀ wx : World, (Instr.slice 98 (.slice Ax (xs).length cx) (some (.int .i64 ((xs.length : Nat) : Int))) (some (.int .i64 ((xs.length : Nat) : Int))) none).run Try.prog wx = .ok (.slice (cutA Ax xs.length cx) (xs.length - xs.length) (cx - xs.length)) wx := fun wx => run_mid98 _ (xs).length cx xs.length (xs.length) (by omega) (by omega) wx
          have HRI := Lib.hid hri
          have HBR := Lib.hid hbr
          clear hri hbr
          go_wp2_with fail
          go_region_held3 (fun X : World => True) (trivial)
            ((refine step_copy_row rfl (.tmp 41) (.tmp 45) 98 98 rfl 106 Try.underlying98 size_word _ _ _ _ _ _ (by rfl) (by rfl) w.heap.size xs.length (xs.length - xs.length) cap 106 (wv (anot X Y) xs.length (fun _ => .int .u64 0)) (fun t => Value.int .u64 ((Num.dg Num.B64 X (xs.length + t) : Nat) : Int)) (rowIs_heap HRI.out rfl) (by first | exact (Nat.min_self _).symm | exact Nat.sub_self _)
                (fun h0 => by
                  obtain ⟨sb, so, e, hb, hc⟩ := HCX.out xs.length (by omega)
                  exact ⟨by rw [cutA_some' _ _ _ _ (by have := HC.out; omega), Nat.zero_add], sb, so, e, fun j hj => (HBR.out.cell (p := ⟨sb, so + j, none⟩) hb).trans (hc j (by omega))⟩) (by have := HC.out; omega) (fun _ _ => rfl) ?_
              intro w2 hr2 hg2))
          have hk2 : Kept w w2 := kept_of_only (B := w.heap.size) HBR.out (g := w.heap.size) ⟨hg2.os, hg2.tape, hg2.output, hg2.size, hg2.block⟩ (Nat.le_refl _) HBR.out.size
          have hh : ∀ j, j < xs.length → (if xs.length ≤ j ∧ j < xs.length + (xs.length - xs.length) then Value.int .u64 ((Num.dg Num.B64 X (xs.length + (j - xs.length)) : Nat) : Int) else wv (anot X Y) xs.length (fun _ => .int .u64 0) j) = .int .u64 ((Num.dg Num.B64 (anot X Y) j : Nat) : Int) := fun j hj => by
            by_cases hjm : xs.length ≤ j
            · rw [if_pos ⟨hjm, by omega⟩, show xs.length + (j - xs.length) = j by omega]
              exact congrArg (fun n : Nat => Value.int .u64 (n : Int)) (by
                exfalso; omega)
            · rw [if_neg (by omega)]
              unfold wv
              rw [if_pos (by omega)]
          clear hs1 hs2
          have hSl := ww_row hr2 (fun j hj => hh j hj) (by have := HC.out; omega) (by unfold maxLen; have := HC.out; omega)
          have hNO := norm_any (some ⟨w.heap.size, 0, none⟩) cap (ww (anot X Y) (xs.length)) (by simp [ww]; omega) _ hSl
          have hwl : (ww (anot X Y) (xs.length)).length = xs.length := by simp [ww]
          rw [hwl] at hNO
          have hRN := RetNat.of_ww hr2 (fun j hj => hh j hj) (by have := HC.out; omega) (by unfold maxLen; have := HC.out; omega) HSS.out hk2
          have HNO := Lib.hid hNO
          have HRN := Lib.hid hRN
          clear hSl hNO hwl hRN hk2 hh hg2
          go_wp2_with fail
          refine (HNO.out).mono ?_
          rintro e w5 ⟨rfl, rfl⟩
          go_wp2_with fail
          go_ret
          exact HRN.out
  · have hcap : ys.length ≤ xs.length ∧ xs.length ≤ 100000 := ⟨by omega, by omega⟩
    have HMK := Lib.hid (make_nil (xs.length) (by omega) w)
    have HSS : Hid ((anot X Y) < Num.B64 ^ (xs.length)) := Lib.hid (by
      exact Nat.lt_of_le_of_lt (anot_le X Y) HX1.out)
    go_enter Try.func105, Try.ntmps105
    go_wp2_with fail
    refine (HMK.out).mono ?_
    rintro e w1 (⟨h0, rfl, rfl⟩ | ⟨h0, cap, hc1, hc2, rfl, hrow, hbw⟩)
    · have hS0 : (anot X Y) = 0 := by have := HSS.out; rw [h0, Nat.pow_zero] at this; omega
      have HS0 := Lib.hid hS0
      have HNO := Lib.hid (norm_any none 0 [] (by simp) w1.drew (Sl.nil _))
      clear hS0
      go_wp2_with fail
      refine wp_loop_rounds 1 ?_
      rw [rounds_succ]
      have hz1 : ∀ wx : World, (Instr.slice 98 (.slice none 0 0) (some (.int .i64 0)) (some (.int .i64 0)) none).run Try.prog wx = .ok (.slice (cutA none 0 0) (0 - 0) (0 - 0)) wx := fun wx => run_mid98 none 0 0 0 0 (by omega) (by omega) wx
      have hz2 : ∀ wx : World, (Instr.slice 98 (.slice Ax 0 cx) (some (.int .i64 0)) (some (.int .i64 0)) none).run Try.prog wx = .ok (.slice (cutA Ax 0 cx) (0 - 0) (cx - 0)) wx := fun wx => run_mid98 Ax 0 cx 0 0 (by omega) (by omega) wx
      have hT0 : xs.length = 0 := h0
      have hM0 : ys.length = 0 := by omega
      simp only [hT0, hM0] at *
      go_wp2_with fail
      go_region_held3 (fun X : World => True) (trivial)
        ((refine step_copy_none rfl (.tmp 41) (.tmp 45) 98 98 rfl 106 Try.underlying98 size_word _ _ _ _ _ _ (by rfl) (by rfl) (by rfl) ?_))
      go_wp2_with fail
      refine (HNO.out).mono ?_
      rintro e w5 ⟨rfl, rfl⟩
      go_wp2_with fail
      go_ret
      exact ⟨none, 0, [], rfl, Sl.nil _, (fun a h => by cases h), by rw [HS0.out]; exact ⟨Num.Can.nil _, rfl⟩, by go_grown⟩
    · have hr0 : w1.rowIs w.heap.size 106 cap (wv (anot X Y) 0 (fun _ => .int .u64 0)) := by rw [wv_zero]; exact hrow
      have HC : Hid (xs.length ≤ cap ∧ cap ≤ 1000000) := Lib.hid ⟨by omega, by omega⟩
      clear hrow
      go_wp2_with fail
      go_loopw [9] (fun iv wr => ∃ i : Nat, iv = .int .i64 i ∧ i ≤ ys.length ∧ wr.rowIs w.heap.size 106 cap (wv (anot X Y) i (fun _ => .int .u64 0)) ∧ Kept w wr) (fun iv _ => ys.length - (intOf iv).toNat)
      case atStart => exact ⟨0, rfl, Nat.zero_le _, hr0, hbw⟩
      case round =>
        obtain ⟨i, rfl, hi, hri, hbr⟩ := hrel
        by_cases hlt : i < ys.length
        · obtain ⟨b1, o1, rfl, hb1, q1⟩ := word_cell HS.out.1 HS.out.2 i (by omega)
          obtain ⟨b2, o2, rfl, hb2, q2⟩ := word_cell HT.out.1 HT.out.2 i (by omega)
          rw [HX.out] at q1
          rw [HY.out] at q2
          have r1 := (hbr.cell (p := ⟨b1, o1 + i, none⟩) hb1).trans q1
          have r2 := (hbr.cell (p := ⟨b2, o2 + i, none⟩) hb2).trans q2
          have hset := fun nq : Nat => (rowIs_drewN hri nq).set i (.int .u64 ((Num.dg Num.B64 (anot X Y) i : Nat) : Int))
          simp only [wv_set] at hset
          have hcl := hri.cell (i := i) (by have := HC.out; omega)
          have hfr := hri.frozen i
          have hx := Num.dg_lt Num.B64_pos X i
          have hy := Num.dg_lt Num.B64_pos Y i
          have hB : Num.B64 = 18446744073709551616 := rfl
          have hbit : bits .andNot .u64 ((Num.dg Num.B64 X i : Nat) : Int) ((Num.dg Num.B64 Y i : Nat) : Int) = ((Num.dg Num.B64 (anot X Y) i : Nat) : Int) := by
            rw [dg_anot, u64_andNot_nat _ _ (by omega) (by omega), anot_word _ _ (by omega) (by omega)]
          have hne1 : ⟨b1, o1 + i, none⟩ ≠ (⟨w.heap.size, i, none⟩ : Addr) := fun e => by injection e with e1; omega
          have hne2 : ⟨b2, o2 + i, none⟩ ≠ (⟨w.heap.size, i, none⟩ : Addr) := fun e => by injection e with e1; omega
          have i0 : (0 : Int) ≤ (i : Int) := by omega
          have i1 : (i : Int) < (xs.length : Int) := by omega
          have i2 : (i : Int) < (ys.length : Int) := by omega
          have i3 : (i : Int) < (xs.length : Int) := by omega
          have hbr2 : ∀ nq : Nat, Kept w ((wr.drewN nq).setCell ⟨w.heap.size, i, none⟩ (.int .u64 ((Num.dg Num.B64 (anot X Y) i : Nat) : Int))) := fun nq => (below_drewN hbr nq).setCell (Nat.le_refl _) _
          have HSET := Lib.hid (hset 1)
          have HBR2 := Lib.hid (hbr2 1)
          have s1 : ∀ v : Value, (wr.drew.setCell ⟨w.heap.size, i, none⟩ v).cell? ⟨b1, o1 + i, none⟩ = some (.int .u64 ((Num.dg Num.B64 X i : Nat) : Int)) := fun v => (World.cell?_setCell_other _ _ _ _ (Ne.symm hne1)).trans r1
          have s2 : ∀ v : Value, (wr.drew.setCell ⟨w.heap.size, i, none⟩ v).cell? ⟨b2, o2 + i, none⟩ = some (.int .u64 ((Num.dg Num.B64 Y i : Nat) : Int)) := fun v => (World.cell?_setCell_other _ _ _ _ (Ne.symm hne2)).trans r2
          clear hset hri hbr hx hy hB q1 q2 hb1 hb2 hbr2
          generalize Num.dg Num.B64 X i = x at *
          generalize Num.dg Num.B64 Y i = y at *
          generalize Num.dg Num.B64 (anot X Y) i = z at *
          generalize wv (anot X Y) i (fun _ => Value.int .u64 0) i = old at *
          go_wp2_with fail
          go_region_held3 (fun Z : World => Z.cell? ⟨b1, o1 + i, none⟩ = some (.int .u64 (x : Int)) ∧ Z.cell? ⟨b2, o2 + i, none⟩ = some (.int .u64 (y : Int)))
            (first | exact ⟨r1, r2⟩ | exact ⟨s1 _, s2 _⟩ | go_keep) (fail)
          go_wp2_with fail
          exact ⟨⟨i + 1, by go_num, by omega, HSET.out, HBR2.out⟩, by simp [intOf]; omega⟩
        · obtain rfl : i = ys.length := by omega
          have hs1 : ∀ wx : World, (Instr.slice 98 (.slice (some ⟨w.heap.size, 0, none⟩) xs.length cap) (some (.int .i64 ((ys.length : Nat) : Int))) (some (.int .i64 ((xs.length : Nat) : Int))) none).run Try.prog wx = .ok (.slice (cutA (some ⟨w.heap.size, 0, none⟩) ys.length cap) (xs.length - ys.length) (cap - ys.length)) wx := fun wx => run_mid98 _ xs.length cap ys.length (xs.length) (by omega) (by have := HC.out; omega) wx
          have hs2 : ∀ wx : World, (Instr.slice 98 (.slice Ax (xs).length cx) (some (.int .i64 ((ys.length : Nat) : Int))) (some (.int .i64 ((xs.length : Nat) : Int))) none).run Try.prog wx = .ok (.slice (cutA Ax ys.length cx) (xs.length - ys.length) (cx - ys.length)) wx := fun wx => run_mid98 _ (xs).length cx ys.length (xs.length) (by omega) (by omega) wx
          have HRI := Lib.hid hri
          have HBR := Lib.hid hbr
          clear hri hbr
          go_wp2_with fail
          go_region_held3 (fun X : World => True) (trivial)
            ((refine step_copy_row rfl (.tmp 41) (.tmp 45) 98 98 rfl 106 Try.underlying98 size_word _ _ _ _ _ _ (by rfl) (by rfl) w.heap.size ys.length (xs.length - ys.length) cap 106 (wv (anot X Y) ys.length (fun _ => .int .u64 0)) (fun t => Value.int .u64 ((Num.dg Num.B64 X (ys.length + t) : Nat) : Int)) (rowIs_heap HRI.out rfl) (by first | exact (Nat.min_self _).symm | exact Nat.sub_self _)
                (fun h0 => by
                  obtain ⟨sb, so, e, hb, hc⟩ := HCX.out ys.length (by omega)
                  exact ⟨by rw [cutA_some' _ _ _ _ (by have := HC.out; omega), Nat.zero_add], sb, so, e, fun j hj => (HBR.out.cell (p := ⟨sb, so + j, none⟩) hb).trans (hc j (by omega))⟩) (by have := HC.out; omega) (fun _ _ => rfl) ?_
              intro w2 hr2 hg2))
          have hk2 : Kept w w2 := kept_of_only (B := w.heap.size) HBR.out (g := w.heap.size) ⟨hg2.os, hg2.tape, hg2.output, hg2.size, hg2.block⟩ (Nat.le_refl _) HBR.out.size
          have hh : ∀ j, j < xs.length → (if ys.length ≤ j ∧ j < ys.length + (xs.length - ys.length) then Value.int .u64 ((Num.dg Num.B64 X (ys.length + (j - ys.length)) : Nat) : Int) else wv (anot X Y) ys.length (fun _ => .int .u64 0) j) = .int .u64 ((Num.dg Num.B64 (anot X Y) j : Nat) : Int) := fun j hj => by
            by_cases hjm : ys.length ≤ j
            · rw [if_pos ⟨hjm, by omega⟩, show ys.length + (j - ys.length) = j by omega]
              exact congrArg (fun n : Nat => Value.int .u64 (n : Int)) (by
                have h2 : Y < Num.B64 ^ j := Nat.lt_of_lt_of_le HY1.out (Nat.pow_le_pow_right Num.B64_pos hjm)
                have h3 : Num.dg Num.B64 Y j = 0 := by unfold Num.dg; rw [Nat.div_eq_of_lt h2]; rfl
                rw [dg_anot, h3]; unfold anot; rw [Nat.and_zero, Nat.xor_zero])
            · rw [if_neg (by omega)]
              unfold wv
              rw [if_pos (by omega)]
          clear hs1 hs2
          have hSl := ww_row hr2 (fun j hj => hh j hj) (by have := HC.out; omega) (by unfold maxLen; have := HC.out; omega)
          have hNO := norm_any (some ⟨w.heap.size, 0, none⟩) cap (ww (anot X Y) (xs.length)) (by simp [ww]; omega) _ hSl
          have hwl : (ww (anot X Y) (xs.length)).length = xs.length := by simp [ww]
          rw [hwl] at hNO
          have hRN := RetNat.of_ww hr2 (fun j hj => hh j hj) (by have := HC.out; omega) (by unfold maxLen; have := HC.out; omega) HSS.out hk2
          have HNO := Lib.hid hNO
          have HRN := Lib.hid hRN
          clear hSl hNO hwl hRN hk2 hh hg2
          go_wp2_with fail
          refine (HNO.out).mono ?_
          rintro e w5 ⟨rfl, rfl⟩
          go_wp2_with fail
          go_ret
          exact HRN.out
end Go.Proofs.Ytikjdibngkcpkaa
