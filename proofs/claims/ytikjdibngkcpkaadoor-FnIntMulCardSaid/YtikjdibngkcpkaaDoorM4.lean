import Derived.Test.YtikjdibngkcpkaaDoorM3
namespace Go.Proofs.YtikjdibngkcpkaaDoor
open Go.ChangeShapes Go.WideShapes Go.ChangeAt Go.RowKit
set_option linter.unusedVariables false
/-- the words of S -/
def ww (S n : Nat) : List Nat := (List.range n).map (Num.dg Num.B64 S)
theorem ww_row {w : World} {g cap n S : Nat} {t : TypeId} {f : Nat → Value} (h : w.rowIs g t cap f) (hf : ∀ j, j < n → f j = .int .u64 ((Num.dg Num.B64 S j : Nat) : Int)) (hn : n ≤ cap) (hm : cap ≤ maxLen) : Sl w (some ⟨g, 0, none⟩) cap (w64 (ww S n)) := by
  refine Sl_of_row h (fun j u hu => ?_) (by rw [w64_len]; simp [ww]; exact hn) hm
  have hj : j < n := by
    have := (List.getElem?_eq_some_iff.1 hu).1
    rw [w64_len] at this
    simpa [ww] using this
  have e : (w64 (ww S n))[j]? = some (.int .u64 ((Num.dg Num.B64 S j : Nat) : Int)) := by simp [w64, ww, hj]
  rw [e] at hu
  injection hu with hu
  rw [← hu, hf j hj]
theorem RetNat.of_ww {w w' : World} {cap n S : Nat} {f : Nat → Value} (h : w'.rowIs w.heap.size 70 cap f) (hf : ∀ j, j < n → f j = .int .u64 ((Num.dg Num.B64 S j : Nat) : Int)) (hn : n ≤ cap) (hm : cap ≤ maxLen) (hS : S < Num.B64 ^ n) (hb : Kept w w') :
    RetNat w S (.returned (.slice (some ⟨w.heap.size, 0, none⟩) (Num.trim (ww S n)).length cap)) w' := by
  refine ⟨_, _, Num.trim (ww S n), rfl, (ww_row h hf hn hm).trim, ?_, ⟨Num.can_trim _ _ ?_, ?_⟩, hb⟩
  · rintro a h
    injection h with h
    subst h
    exact ⟨Nat.le_refl _, rfl, rfl⟩
  · intro d hd
    obtain ⟨i, _, rfl⟩ := List.mem_map.1 hd
    exact Num.dg_lt Num.B64_pos _ _
  · rw [Num.le_trim, ww, Num.le_dg, Nat.mod_eq_of_lt hS]
set_option maxRecDepth 100000 in
theorem alias_nil (A : Option Addr) (n c : Nat) (w : World) : Calls Tryd.prog 46 #[.slice none 0 0, .slice A n c] w fun e w' => e = .returned (.bool false) ∧ ∃ m, w' = w.drewN m := by
  go_enter Tryd.func46, Tryd.ntmps46
  go_wp2_with fail
  go_quiet (fail)
  go_wp2_with fail
  go_ret
  exact ⟨rfl, _, rfl⟩
theorem bodyPostD_ret {P : Program} {fn : Func} {R : Ending → World → Prop} {a : Act} {w : World} {t : Tmp} (h : fn.results = #[.tmp t]) (hd : a.defers = []) (hR : R (.returned (a.tmps.getD t undef)) w) : bodyPostD P fn R .ret a w := by
  show Leaves P fn a.tmps R a.defers .returning w
  rw [hd]
  exact ⟨_, results_tmp h _ _ _, hR⟩
theorem mulw_row (X d n j : Nat) (f : Nat → Value) (hX : X < Num.B64 ^ n) (hd : d < Num.B64) (hj : j < n + 1) :
    (if j = n then Value.int .u64 ((mc 0 X d 0 n : Nat) : Int) else wo2 (0 + X * d + 0) 0 n f j) = .int .u64 ((Num.dg Num.B64 (X * d) j : Nat) : Int) := by
  have hB := Num.B64_pos
  have e : 0 + X * d + 0 = X * d := by omega
  rw [e]
  simp only [wo2]
  by_cases h1 : j = n
  · rw [if_pos h1, h1, mc_last 0 X d 0 n (Nat.pow_pos hB) hX, e]
    have h2 : X * d / Num.B64 ^ n < Num.B64 := by
      rw [Nat.div_lt_iff_lt_mul (Nat.pow_pos hB), Nat.mul_comm]
      exact Nat.mul_lt_mul'' hd hX
    unfold Num.dg
    rw [Nat.mod_eq_of_lt h2]
  · rw [if_neg h1, if_pos ⟨Nat.zero_le _, by omega⟩]
    rfl
set_option maxRecDepth 100000 in
set_option maxHeartbeats 2000000 in
theorem mulAddWW_any (Ax : Option Addr) (cx : Nat) (xs : List Nat) (d : Nat) (hd0 : d ≠ 0) (hdB : d < Num.B64) (h1 : 0 < xs.length) (h3 : xs.length ≤ 100000) (hdx : ∀ x ∈ xs, x < Num.B64) (w : World) (hs : Sl w Ax cx (w64 xs)) :
    Calls Tryd.prog 52 #[.slice none 0 0, .slice Ax xs.length cx, .int .u64 (d : Int), .int .u64 0] w (RetNat w (Num.le Num.B64 xs * d)) := by
  have hXb := Num.le_lt Num.B64 Num.B64_pos xs hdx
  have hne : ∀ b off, Ax = some ⟨b, off, none⟩ → b < w.heap.size := fun b off e => by
    obtain ⟨b', off', e', hc⟩ := hs.at_ (w64_ne h1)
    rw [e] at e'; injection e' with e'; injection e' with e1; subst e1
    exact block_lt_of_cell (hc 0 _ (w64_get xs 0 h1))
  have HXW : Hid (∀ i, i < xs.length → ∃ b off, Ax = some ⟨b, off, none⟩ ∧ ∀ wr, Below w.heap.size w wr → wr.cell? ⟨b, off + i, none⟩ = some (.int .u64 ((Num.dg Num.B64 (Num.le Num.B64 xs) i : Nat) : Int))) := Lib.hid fun i hi => word_at hs hdx hne (Nat.le_refl _) i hi
  have hmk := make_nil (xs.length + 1) (by omega) w
  have ecast : ((xs.length + 1 : Nat) : Int) = (xs.length : Int) + 1 := by omega
  rw [ecast] at hmk
  have HMK := Lib.hid hmk
  have n2 : ((xs.length : Int) == 0) = false := by rw [beq_eq_false_iff_ne]; omega
  have n3 : (((d : Nat) : Int) == 0) = false := by rw [beq_eq_false_iff_ne]; omega
  have n4 : ¬ ((d : Int) = 0) := by omega
  have HXB := Lib.hid hXb
  generalize Num.le Num.B64 xs = X at *
  clear hmk ecast hs hne hdx hXb
  go_enter Tryd.func52, Tryd.ntmps52
  go_wp2_with fail
  refine (HMK.out).mono ?_
  rintro e w1 (⟨h0, _⟩ | ⟨h0, cap, hc1, hc2, rfl, hrow, hbw⟩)
  · omega
  have hsz : ∀ wx : World, (Instr.slice 52 (.slice (some ⟨w.heap.size, 0, none⟩) (xs.length + 1) cap) (some (.int .i64 0)) (some (.int .i64 (xs.length : Int))) none).run Tryd.prog wx = .ok (.slice (some ⟨w.heap.size, 0, none⟩) xs.length cap) wx := fun wx => run_to64 _ (xs.length + 1) cap xs.length (by omega) wx
  have HMU := Lib.hid (mulAddVWW_any w.heap.size cap xs.length cap Ax cx d 0 _ _ (fun _ => .int .u64 0) w1 (mulAddVWWg_any w.heap.size cap xs.length cap Ax cx X d 0 (fun _ => .int .u64 0) (by omega) (by omega) (by omega) hdB Num.B64_pos w1 hrow (fun j wq hj hgq => by
    obtain ⟨b1, o1, e1, hc⟩ := HXW.out j hj
    exact ⟨b1, o1, e1, hc wq (Below.trans hbw (kept_of_only (Below.refl _ _) hgq (Nat.le_refl _) hbw.size))⟩)))
  have HBW := Lib.hid hbw
  have hmI : (xs.length : Int) < (xs.length : Int) + 1 := by omega
  clear hrow hbw
  go_wp2_with fail
  refine (HMU.out).mono ?_
  rintro e w2 ⟨rfl, hr2, hg2⟩
  have hk2 : Kept w w2 := kept_of_only (B := w.heap.size) HBW.out (g := w.heap.size) hg2 (Nat.le_refl _) HBW.out.size
  have hcl := hr2.cell (i := xs.length) (by omega)
  have hfr := hr2.frozen xs.length
  have hset := hr2.set xs.length (.int .u64 ((mc 0 X d 0 xs.length : Nat) : Int))
  have hk4 : Kept w (w2.setCell ⟨w.heap.size, xs.length, none⟩ (.int .u64 ((mc 0 X d 0 xs.length : Nat) : Int))) := hk2.setCell (Nat.le_refl _) _
  have hf4 := fun j (hj : j < xs.length + 1) => mulw_row X d xs.length j (fun _ => .int .u64 0) HXB.out hdB hj
  have hS : X * d < Num.B64 ^ (xs.length + 1) := by
    rw [Nat.pow_succ]
    exact Nat.mul_lt_mul'' HXB.out hdB
  have hSl := ww_row hset hf4 hc1 (by unfold maxLen; omega)
  have hNO := norm_any (some ⟨w.heap.size, 0, none⟩) cap (ww (X * d) (xs.length + 1)) (by simp [ww]; omega) _ hSl
  have hwl : (ww (X * d) (xs.length + 1)).length = xs.length + 1 := by simp [ww]
  rw [hwl] at hNO
  have HRN := Lib.hid (RetNat.of_ww hset hf4 hc1 (by unfold maxLen; omega) hS hk4)
  have HNO := Lib.hid hNO
  generalize hold : (wo2 (0 + X * d + 0) 0 xs.length (fun _ => .int .u64 0)) xs.length = old at hcl
  clear hset hk4 hf4 hSl hNO hwl hold hr2 hg2 hk2 hS
  generalize mc 0 X d 0 xs.length = kk at *
  go_wp2_with fail
  refine (HNO.out).mono ?_
  rintro e w5 ⟨rfl, rfl⟩
  go_wp2_with fail
  go_ret
  exact HRN.out
end Go.Proofs.YtikjdibngkcpkaaDoor
