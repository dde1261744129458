/- Natural numbers added. -/
import Derived.Test.YtamocmelhnmkeaaGreatW4
namespace Go.Proofs.YtamocmelhnmkeaaGreat
open Go.ChangeShapes Go.WideShapes Go.ChangeAt Go.RowKit
set_option linter.unusedVariables false
theorem add_div_cy {b : Nat} (hb : 0 < b) (A B i : Nat) : (A + B) / b ^ i = Num.cy b A B i + (A / b ^ i + B / b ^ i) := by
  have hP : 0 < b ^ i := Nat.pow_pos hb
  have e : A + B = (A % b ^ i + B % b ^ i) + b ^ i * (A / b ^ i + B / b ^ i) := by
    have h1 := Nat.div_add_mod A (b ^ i)
    have h2 := Nat.div_add_mod B (b ^ i)
    rw [Nat.mul_add]
    omega
  unfold Num.cy
  conv => lhs; rw [e]
  rw [Nat.add_mul_div_left _ _ hP]
theorem dg_add (b N i j : Nat) : Num.dg b N (i + j) = Num.dg b (N / b ^ i) j := by
  unfold Num.dg
  rw [Nat.pow_add, Nat.div_div_eq_div_mul]
theorem le_drop (b : Nat) (hb : 0 < b) (l : List Nat) (h : ∀ d ∈ l, d < b) (n : Nat) : Num.le b (l.drop n) = Num.le b l / b ^ n := by
  have h1 := List.take_append_drop n l
  rcases Nat.lt_or_ge l.length n with h2 | h2
  · rw [List.drop_of_length_le (by omega)]
    have h3 := Num.le_lt b hb l h
    have h4 : b ^ l.length ≤ b ^ n := Nat.pow_le_pow_right hb (by omega)
    rw [Nat.div_eq_of_lt (by omega)]
    rfl
  · have h3 := Num.le_append b (l.take n) (l.drop n)
    rw [h1] at h3
    have h4 := Num.le_lt b hb (l.take n) (fun d hd => h d (List.mem_of_mem_take hd))
    have h5 : (l.take n).length = n := by rw [List.length_take]; omega
    rw [h5] at h3 h4
    rw [h3, Nat.add_mul_div_left _ _ (Nat.pow_pos hb), Nat.div_eq_of_lt h4, Nat.zero_add]
theorem run_hi98 (A : Option Addr) (n c k : Nat) (hk : k ≤ c) (wx : World) :
    (Instr.slice 112 (.slice A n c) none (some (.int .i64 (k : Int))) none).run Tryz.prog wx = .ok (.slice A k c) wx := by
  have h1 : (k : Int) ≤ (c : Int) := by omega
  have h2 : (0 : Int) ≤ (k : Int) := by omega
  by_cases hc : c = 0
  · subst hc
    obtain rfl : k = 0 := by omega
    simp [go_sem, Tryz.underlying112]
  · simp [go_sem, Tryz.underlying112, h1, h2]
theorem run_lo98 (A : Option Addr) (n c k : Nat) (hk : k ≤ n) (wx : World) :
    (Instr.slice 112 (.slice A n c) (some (.int .i64 (k : Int))) none none).run Tryz.prog wx = .ok (.slice (cutA A k c) (n - k) (c - k)) wx := by
  have h1 : (k : Int) ≤ (n : Int) := by omega
  simp [go_sem, cutA, Tryz.underlying112, h1]
theorem run_mid98 (A : Option Addr) (n c k m : Nat) (hk : k ≤ m) (hm : m ≤ c) (wx : World) :
    (Instr.slice 112 (.slice A n c) (some (.int .i64 (k : Int))) (some (.int .i64 (m : Int))) none).run Tryz.prog wx = .ok (.slice (cutA A k c) (m - k) (c - k)) wx := by
  have h1 : (k : Int) ≤ (m : Int) := by omega
  have h2 : (m : Int) ≤ (c : Int) := by omega
  simp [go_sem, cutA, Tryz.underlying112, h1, h2]
/-- the words of S -/
def ww (S n : Nat) : List Nat := (List.range n).map (Num.dg Num.B64 S)
theorem ww_row {w : World} {g cap n S : Nat} {t : TypeId} {f : Nat → Value} (h : w.rowIs g t cap f) (hf : ∀ j, j < n → f j = .int .u64 ((Num.dg Num.B64 S j : Nat) : Int)) (hn : n ≤ cap) (hm : cap ≤ maxLen) : Sl w (some ⟨g, 0, none⟩) cap (w64 (ww S n)) := by
  refine Sl_of_row h (fun j u hu => ?_) (by rw [w64_len]; simp [ww]; exact hn) hm
  have hj : j < n := by
    have := (List.getElem?_eq_some_iff.1 hu).1
    rw [w64_len] at this
    simpa [ww] using this
  have e : (w64 (ww S n))[j]? = some (.int .u64 ((Num.dg Num.B64 S j : Nat) : Int)) := by simp [w64, ww, hj]
  rw [e] at hu
  injection hu with hu
  rw [← hu, hf j hj]
theorem RetNat.of_ww {w w' : World} {cap n S : Nat} {f : Nat → Value} (h : w'.rowIs w.heap.size 229 cap f) (hf : ∀ j, j < n → f j = .int .u64 ((Num.dg Num.B64 S j : Nat) : Int)) (hn : n ≤ cap) (hm : cap ≤ maxLen) (hS : S < Num.B64 ^ n) (hb : Kept w w') :
    RetNat w S (.returned (.slice (some ⟨w.heap.size, 0, none⟩) (Num.trim (ww S n)).length cap)) w' := by
  refine ⟨_, _, Num.trim (ww S n), rfl, (ww_row h hf hn hm).trim, ?_, ⟨Num.can_trim _ _ ?_, ?_⟩, hb⟩
  · rintro a h
    injection h with h
    subst h
    exact ⟨Nat.le_refl _, rfl, rfl⟩
  · intro d hd
    obtain ⟨i, _, rfl⟩ := List.mem_map.1 hd
    exact Num.dg_lt Num.B64_pos _ _
  · rw [Num.le_trim, ww, Num.le_dg, Nat.mod_eq_of_lt hS]
theorem Reads.of_sl {w : World} {g : Nat} {A : Option Addr} {c : Nat} {xs : List Nat} (hs : Sl w A c (w64 xs)) (hd : ∀ d ∈ xs, d < Num.B64) (hne : ∀ b off, A = some ⟨b, off, none⟩ → b ≠ g) (n : Nat) (hn : n ≤ xs.length) (P : Nat → World → Prop) : Reads w g A n (Num.le Num.B64 xs) P := by
  intro i wr hi hg _
  obtain ⟨b, off, rfl, hc⟩ := hs.at_ (w64_ne (by omega))
  refine ⟨b, off, rfl, ?_⟩
  rw [Num.dg_le Num.B64 xs i hd, List.getD_eq_getElem?_getD, List.getElem?_eq_getElem (by omega), Option.getD_some]
  exact hg.cell (hc i _ (w64_get xs i (by omega))) (by simpa using hne b off rfl)
theorem add_top (X Y n : Nat) (hX : X < Num.B64 ^ n) (hY : Y < Num.B64 ^ n) : Num.dg Num.B64 (X + Y) n = Num.cy Num.B64 X Y n := by
  have h := add_div_cy Num.B64_pos X Y n
  rw [Nat.div_eq_of_lt hX, Nat.div_eq_of_lt hY, Nat.add_zero] at h
  have hc := Num.cy_le Num.B64_pos X Y n
  have hB : Num.B64 = 18446744073709551616 := rfl
  unfold Num.dg
  rw [h, Nat.mod_eq_of_lt (by omega)]
theorem add_hi (X Y n m : Nat) (hn : n < m) (hX : X < Num.B64 ^ m) (hY : Y < Num.B64 ^ n) :
    (∀ j, j < m - n → Num.dg Num.B64 (X + Y) (n + j) = Num.dg Num.B64 (X / Num.B64 ^ n + Num.cy Num.B64 X Y n) j) ∧ Num.dg Num.B64 (X + Y) m = Num.cy Num.B64 (X / Num.B64 ^ n) (Num.cy Num.B64 X Y n) (m - n) := by
  have h := add_div_cy Num.B64_pos X Y n
  rw [Nat.div_eq_of_lt hY, Nat.add_zero, Nat.add_comm (Num.cy Num.B64 X Y n)] at h
  have hc := Num.cy_le Num.B64_pos X Y n
  have hB : Num.B64 = 18446744073709551616 := rfl
  have hXn : X / Num.B64 ^ n < Num.B64 ^ (m - n) := by
    rw [Nat.div_lt_iff_lt_mul (Nat.pow_pos Num.B64_pos), ← Nat.pow_add, show m - n + n = m by omega]
    exact hX
  refine ⟨fun j _ => by rw [dg_add, h], ?_⟩
  have e : m = n + (m - n) := by omega
  conv => lhs; rw [e]
  rw [dg_add, h]
  refine add_top _ _ _ hXn ?_
  have h1 : Num.B64 ^ 1 ≤ Num.B64 ^ (m - n) := Nat.pow_le_pow_right Num.B64_pos (by omega)
  rw [Nat.pow_one] at h1
  omega
set_option maxRecDepth 100000 in
set_option maxHeartbeats 4000000 in
theorem natAdd_core (Ax Ay : Option Addr) (cx cy0 : Nat) (xs ys : List Nat) (h1 : 0 < ys.length) (h2 : ys.length ≤ xs.length) (h3 : xs.length ≤ 100000) (hdx : ∀ d ∈ xs, d < Num.B64) (hdy : ∀ d ∈ ys, d < Num.B64) (w : World) (hs : Sl w Ax cx (w64 xs)) (ht : Sl w Ay cy0 (w64 ys)) :
    Calls Tryz.prog 110 #[.slice none 0 0, .slice Ax xs.length cx, .slice Ay ys.length cy0] w (RetNat w (Num.le Num.B64 xs + Num.le Num.B64 ys)) := by
  have hcx := hs.cap
  have hcy := ht.cap
  rw [w64_len] at hcx hcy
  have hmk := make_nil (xs.length + 1) (by omega) w
  have ecast : ((xs.length + 1 : Nat) : Int) = (xs.length : Int) + 1 := by omega
  rw [ecast] at hmk
  have HMK := Lib.hid hmk
  have HS := Lib.hid (And.intro hs hdx)
  have HT := Lib.hid (And.intro ht hdy)
  have hnefx : ∀ b off, Ax = some ⟨b, off, none⟩ → b < w.heap.size := fun b off e => by
    obtain ⟨b', off', e', hc⟩ := hs.at_ (w64_ne (by omega))
    rw [e] at e'; injection e' with e'; injection e' with e1; subst e1
    exact block_lt_of_cell (hc 0 _ (w64_get xs 0 (by omega)))
  have hnefy : ∀ b off, Ay = some ⟨b, off, none⟩ → b < w.heap.size := fun b off e => by
    obtain ⟨b', off', e', hc⟩ := ht.at_ (w64_ne h1)
    rw [e] at e'; injection e' with e'; injection e' with e1; subst e1
    exact block_lt_of_cell (hc 0 _ (w64_get ys 0 h1))
  have HFX := Lib.hid hnefx
  have HFY := Lib.hid hnefy
  have hXb := Num.le_lt Num.B64 Num.B64_pos xs hdx
  have hYb := Num.le_lt Num.B64 Num.B64_pos ys hdy
  have hdrop := le_drop Num.B64 Num.B64_pos xs hdx ys.length
  have HXY : Hid (Num.le Num.B64 xs < Num.B64 ^ xs.length ∧ Num.le Num.B64 ys < Num.B64 ^ ys.length ∧ Num.le Num.B64 (xs.drop ys.length) = Num.le Num.B64 xs / Num.B64 ^ ys.length) := Lib.hid ⟨hXb, hYb, hdrop⟩
  have n1 : ¬ ((xs.length : Int) < (ys.length : Int)) := by omega
  have n1' : ¬ xs.length < ys.length := by omega
  have n2 : ((xs.length : Int) == 0) = false := by rw [beq_eq_false_iff_ne]; omega
  have n3 : ((ys.length : Int) == 0) = false := by rw [beq_eq_false_iff_ne]; omega
  have hsy : ∀ wx : World, (Instr.slice 112 (.slice Ay ys.length cy0) none (some (.int .i64 (ys.length : Int))) none).run Tryz.prog wx = .ok (.slice Ay ys.length cy0) wx := fun wx => run_hi98 Ay ys.length cy0 ys.length hcy wx
  have hsx : ∀ wx : World, (Instr.slice 112 (.slice Ax xs.length cx) none (some (.int .i64 (ys.length : Int))) none).run Tryz.prog wx = .ok (.slice Ax ys.length cx) wx := fun wx => run_hi98 Ax xs.length cx ys.length (by omega) wx
  clear hmk ecast hs ht hnefx hnefy hdx hdy hXb hYb hdrop
  go_enter Tryz.func110, Tryz.ntmps110
  go_wp2_with fail
  refine (HMK.out).mono ?_
  rintro e w1 (⟨h0, _⟩ | ⟨h0, cap, hc1, hc2, rfl, hrow, hbw⟩)
  · omega
  have hsz : ∀ wx : World, (Instr.slice 112 (.slice (some ⟨w.heap.size, 0, none⟩) (xs.length + 1) cap) none (some (.int .i64 (ys.length : Int))) none).run Tryz.prog wx = .ok (.slice (some ⟨w.heap.size, 0, none⟩) ys.length cap) wx := fun wx => run_hi98 _ (xs.length + 1) cap ys.length (by omega) wx
  have HROW := Lib.hid hrow
  have HBW := Lib.hid hbw
  have HADD : Hid (∀ W : World, W.heap = w1.heap → Kept w W → Calls Tryz.prog 122 #[.slice (some ⟨w.heap.size, 0, none⟩) ys.length cap, .slice Ax ys.length cx, .slice Ay ys.length cy0] W (AddVP W w.heap.size cap ys.length (Num.le Num.B64 xs + Num.le Num.B64 ys) (fun _ => .int .u64 0) (Num.cy Num.B64 (Num.le Num.B64 xs) (Num.le Num.B64 ys) ys.length))) := Lib.hid fun W hW hk =>
    addVV_any w.heap.size cap ys.length Ax Ay cx cy0 _ _ (fun _ => .int .u64 0) W (addVVg_any w.heap.size cap ys.length Ax Ay cx cy0 (Num.le Num.B64 xs) (Num.le Num.B64 ys) (fun _ => .int .u64 0) (by omega) (by omega) W (rowIs_heap HROW.out hW)
      (Reads.of_sl (HS.out.1.below hk) HS.out.2 (fun b off e => by have := HFX.out b off e; omega) ys.length h2 _)
      (Reads.of_sl (HT.out.1.below hk) HT.out.2 (fun b off e => by have := HFY.out b off e; omega) ys.length (Nat.le_refl _) _))
  clear hrow hbw HMK
  go_wp2_with fail
  go_region_held3 (fun X : World => True) (trivial)
    ((
      go_at_call 122
      refine Calls.mono (HADD.out _ rfl ⟨HBW.out.os, HBW.out.tape, HBW.out.output, HBW.out.size, HBW.out.block⟩) ?_
      rintro e w2 ⟨rfl, hr2, hg2⟩))
  have hk2 : Kept w w2 := kept_of_only (B := w.heap.size) HBW.out (g := w.heap.size) ⟨hg2.os, hg2.tape, hg2.output, hg2.size, hg2.block⟩ (Nat.le_refl _) HBW.out.size
  have hC := Num.cy_le Num.B64_pos (Num.le Num.B64 xs) (Num.le Num.B64 ys) ys.length
  have hSm : Num.le Num.B64 xs + Num.le Num.B64 ys < Num.B64 ^ (xs.length + 1) := by
    have e1 := HXY.out.1
    have e2 := HXY.out.2.1
    have e3 : Num.B64 ^ ys.length ≤ Num.B64 ^ xs.length := Nat.pow_le_pow_right Num.B64_pos h2
    have hB : 2 ≤ Num.B64 := by decide
    rw [Nat.pow_succ]
    have := Nat.mul_le_mul_left (Num.B64 ^ xs.length) hB
    omega
  have HSM := Lib.hid hSm
  have HK2 := Lib.hid hk2
  have HR2 := Lib.hid hr2
  generalize hCC : Num.cy Num.B64 (Num.le Num.B64 xs) (Num.le Num.B64 ys) ys.length = C at *
  have HCC := Lib.hid hCC
  have HC1 := Lib.hid hC
  clear hk2 hSm hr2 hg2 hCC hC hsz
  by_cases hgt : ys.length < xs.length
  · have hlt : (ys.length : Int) < (xs.length : Int) := by omega
    have hsz2 : ∀ wx : World, (Instr.slice 112 (.slice (some ⟨w.heap.size, 0, none⟩) (xs.length + 1) cap) (some (.int .i64 (ys.length : Int))) (some (.int .i64 (xs.length : Int))) none).run Tryz.prog wx = .ok (.slice (some ⟨w.heap.size, ys.length, none⟩) (xs.length - ys.length) (cap - ys.length)) wx := fun wx => by
      have := run_mid98 (some ⟨w.heap.size, 0, none⟩) (xs.length + 1) cap ys.length xs.length (by omega) (by omega) wx
      rwa [cutA_some _ _ _ _ h1 (by omega), Nat.zero_add] at this
    have hsx2 : ∀ wx : World, (Instr.slice 112 (.slice Ax xs.length cx) (some (.int .i64 (ys.length : Int))) none none).run Tryz.prog wx = .ok (.slice (cutA Ax ys.length cx) (xs.length - ys.length) (cx - ys.length)) wx := fun wx => run_lo98 Ax xs.length cx ys.length (by omega) wx
    have hC2 := Num.cy_le Num.B64_pos (Num.le Num.B64 (xs.drop ys.length)) C (xs.length - ys.length)
    have HVW : Hid (∀ W : World, W.heap = w2.heap → Kept w W → Calls Tryz.prog 123 #[.slice (some ⟨w.heap.size, ys.length, none⟩) (xs.length - ys.length) (cap - ys.length), .slice (cutA Ax ys.length cx) (xs.length - ys.length) (cx - ys.length), .int .u64 (C : Int)] W
        (AddWP W w.heap.size cap ys.length (xs.length - ys.length) (Num.le Num.B64 (xs.drop ys.length) + C) (wv (Num.le Num.B64 xs + Num.le Num.B64 ys) ys.length (fun _ => .int .u64 0)) (Num.cy Num.B64 (Num.le Num.B64 (xs.drop ys.length)) C (xs.length - ys.length)))) := Lib.hid fun W hW hk => by
      have hsd := (HS.out.1.below hk).from_ ys.length (by rw [w64_len]; omega)
      rw [← w64_drop] at hsd
      refine addVW_any w.heap.size cap ys.length (xs.length - ys.length) (cap - ys.length) (cutA Ax ys.length cx) (cx - ys.length) (xs.drop ys.length) C _ (by omega) (by rw [List.length_drop]) (by omega) (by omega) (by omega) HC1.out (fun d hd => HS.out.2 d (List.mem_of_mem_drop hd)) W (rowIs_heap HR2.out hW) hsd ?_
      intro b off e
      unfold cutA at e
      split at e
      · have := HFX.out b off e; omega
      · obtain ⟨b0, o0, e0, _⟩ := HS.out.1.at_ (w64_ne (by omega))
        rw [e0] at e
        simp [Addr.add] at e
        have := HFX.out b0 o0 e0
        split at e <;> (injection e with e1 e2 e3; omega)
    go_wp2_with fail
    go_region_held3 (fun X : World => True) (trivial)
      ((
        go_at_call 123
        refine Calls.mono (HVW.out _ rfl ⟨HK2.out.os, HK2.out.tape, HK2.out.output, HK2.out.size, HK2.out.block⟩) ?_
        rintro e w3 ⟨rfl, hr3, hg3⟩))
    have hk3 : Kept w w3 := kept_of_only (B := w.heap.size) HK2.out (g := w.heap.size) ⟨hg3.os, hg3.tape, hg3.output, hg3.size, hg3.block⟩ (Nat.le_refl _) HK2.out.size
    have HHI : Hid ((∀ j, j < xs.length - ys.length → Num.dg Num.B64 (Num.le Num.B64 xs + Num.le Num.B64 ys) (ys.length + j) = Num.dg Num.B64 (Num.le Num.B64 (xs.drop ys.length) + C) j) ∧ Num.dg Num.B64 (Num.le Num.B64 xs + Num.le Num.B64 ys) xs.length = Num.cy Num.B64 (Num.le Num.B64 (xs.drop ys.length)) C (xs.length - ys.length)) := by
      have := add_hi (Num.le Num.B64 xs) (Num.le Num.B64 ys) ys.length xs.length hgt HXY.out.1 HXY.out.2.1
      rw [HCC.out, ← HXY.out.2.2] at this
      exact this
    have HHH : Hid (∀ j, j < xs.length → (wo (Num.le Num.B64 (xs.drop ys.length) + C) ys.length (xs.length - ys.length) (wv (Num.le Num.B64 xs + Num.le Num.B64 ys) ys.length (fun _ => .int .u64 0))) j = .int .u64 ((Num.dg Num.B64 (Num.le Num.B64 xs + Num.le Num.B64 ys) j : Nat) : Int)) := by
      exact Lib.hid fun j hj => by
        show wo _ _ _ _ j = _
        unfold wo
        by_cases hjn : j < ys.length
        · rw [if_neg (by omega)]
          unfold wv
          rw [if_pos hjn]
        · rw [if_pos (by omega)]
          have := HHI.out.1 (j - ys.length) (by omega)
          rw [show ys.length + (j - ys.length) = j by omega] at this
          rw [this]
    have hcl := hr3.cell (i := xs.length) (by omega)
    have hfr := hr3.frozen xs.length
    have hset := hr3.set xs.length (.int .u64 ((Num.dg Num.B64 (Num.le Num.B64 xs + Num.le Num.B64 ys) xs.length : Nat) : Int))
    have hk4 : Kept w (w3.setCell ⟨w.heap.size, xs.length, none⟩ (.int .u64 ((Num.dg Num.B64 (Num.le Num.B64 xs + Num.le Num.B64 ys) xs.length : Nat) : Int))) := hk3.setCell (Nat.le_refl _) _
    have hf4 : ∀ j, j < xs.length + 1 → (if j = xs.length then Value.int .u64 ((Num.dg Num.B64 (Num.le Num.B64 xs + Num.le Num.B64 ys) xs.length : Nat) : Int) else (wo (Num.le Num.B64 (xs.drop ys.length) + C) ys.length (xs.length - ys.length) (wv (Num.le Num.B64 xs + Num.le Num.B64 ys) ys.length (fun _ => .int .u64 0))) j) = .int .u64 ((Num.dg Num.B64 (Num.le Num.B64 xs + Num.le Num.B64 ys) j : Nat) : Int) := fun j hj => by
      by_cases h : j = xs.length
      · rw [if_pos h, h]
      · rw [if_neg h]; exact HHH.out j (by omega)
    have hSl := ww_row hset hf4 (by omega) (by unfold maxLen; omega)
    have hNO := norm_any (some ⟨w.heap.size, 0, none⟩) cap (ww (Num.le Num.B64 xs + Num.le Num.B64 ys) (xs.length + 1)) (by simp [ww]; omega) _ hSl
    have hwl : (ww (Num.le Num.B64 xs + Num.le Num.B64 ys) (xs.length + 1)).length = xs.length + 1 := by simp [ww]
    rw [hwl] at hNO
    have hRN := RetNat.of_ww hset hf4 (by omega) (by unfold maxLen; omega) HSM.out hk4
    have HNO := Lib.hid hNO
    have HRN := Lib.hid hRN
    have hmI : (xs.length : Int) < (xs.length : Int) + 1 := by omega
    generalize hold : (wo (Num.le Num.B64 (xs.drop ys.length) + C) ys.length (xs.length - ys.length) (wv (Num.le Num.B64 xs + Num.le Num.B64 ys) ys.length (fun _ => .int .u64 0))) xs.length = old at hcl
    clear hset hk4 hf4 hSl hNO hwl hRN hold hr3 hg3 hk3
    rw [HHI.out.2] at HNO HRN
    go_wp2_with fail
    refine (HNO.out).mono ?_
    rintro e w5 ⟨rfl, rfl⟩
    go_wp2_with fail
    go_ret
    exact HRN.out
  · have heq : ys.length = xs.length := by omega
    have HEQ : Hid (Num.dg Num.B64 (Num.le Num.B64 xs + Num.le Num.B64 ys) xs.length = C) := by
      have := add_top (Num.le Num.B64 xs) (Num.le Num.B64 ys) ys.length (by rw [heq]; exact HXY.out.1) HXY.out.2.1
      rw [HCC.out, heq] at this
      exact this
    have hr2x := HR2.out
    have hk2x := HK2.out
    have HHH : Hid (∀ j, j < xs.length → (wv (Num.le Num.B64 xs + Num.le Num.B64 ys) ys.length (fun _ => .int .u64 0)) j = .int .u64 ((Num.dg Num.B64 (Num.le Num.B64 xs + Num.le Num.B64 ys) j : Nat) : Int)) := by
      exact Lib.hid fun j hj => by
        show wv _ _ _ j = _
        unfold wv
        rw [if_pos (by omega)]
    have hcl := hr2x.cell (i := xs.length) (by omega)
    have hfr := hr2x.frozen xs.length
    have hset := hr2x.set xs.length (.int .u64 ((Num.dg Num.B64 (Num.le Num.B64 xs + Num.le Num.B64 ys) xs.length : Nat) : Int))
    have hk4 : Kept w (w2.setCell ⟨w.heap.size, xs.length, none⟩ (.int .u64 ((Num.dg Num.B64 (Num.le Num.B64 xs + Num.le Num.B64 ys) xs.length : Nat) : Int))) := hk2x.setCell (Nat.le_refl _) _
    have hf4 : ∀ j, j < xs.length + 1 → (if j = xs.length then Value.int .u64 ((Num.dg Num.B64 (Num.le Num.B64 xs + Num.le Num.B64 ys) xs.length : Nat) : Int) else (wv (Num.le Num.B64 xs + Num.le Num.B64 ys) ys.length (fun _ => .int .u64 0)) j) = .int .u64 ((Num.dg Num.B64 (Num.le Num.B64 xs + Num.le Num.B64 ys) j : Nat) : Int) := fun j hj => by
      by_cases h : j = xs.length
      · rw [if_pos h, h]
      · rw [if_neg h]; exact HHH.out j (by omega)
    have hSl := ww_row hset hf4 (by omega) (by unfold maxLen; omega)
    have hNO := norm_any (some ⟨w.heap.size, 0, none⟩) cap (ww (Num.le Num.B64 xs + Num.le Num.B64 ys) (xs.length + 1)) (by simp [ww]; omega) _ hSl
    have hwl : (ww (Num.le Num.B64 xs + Num.le Num.B64 ys) (xs.length + 1)).length = xs.length + 1 := by simp [ww]
    rw [hwl] at hNO
    have hRN := RetNat.of_ww hset hf4 (by omega) (by unfold maxLen; omega) HSM.out hk4
    have HNO := Lib.hid hNO
    have HRN := Lib.hid hRN
    have hmI : (xs.length : Int) < (xs.length : Int) + 1 := by omega
    generalize hold : (wv (Num.le Num.B64 xs + Num.le Num.B64 ys) ys.length (fun _ => .int .u64 0)) xs.length = old at hcl
    clear hset hk4 hf4 hSl hNO hwl hRN hold hr2x hk2x
    rw [HEQ.out] at HNO HRN
    go_wp2_with fail
    refine (HNO.out).mono ?_
    rintro e w5 ⟨rfl, rfl⟩
    go_wp2_with fail
    go_ret
    exact HRN.out
end Go.Proofs.YtamocmelhnmkeaaGreat
