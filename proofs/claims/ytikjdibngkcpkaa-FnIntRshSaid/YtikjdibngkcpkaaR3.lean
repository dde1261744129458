import Derived.Test.YtikjdibngkcpkaaR2
import Derived.Test.YtikjdibngkcpkaaW9
namespace Go.Proofs.Ytikjdibngkcpkaa
open Go.ChangeShapes Go.WideShapes Go.ChangeAt Go.RowKit
set_option linter.unusedVariables false
theorem lw_ww {ws : List Nat} {N : Nat} (h : LW ws N) : ws = ww N ws.length := by
  apply List.ext_getElem?
  intro j
  rcases Nat.lt_or_ge j ws.length with hj | hj
  · have e := Num.dg_le Num.B64 ws j h.1.1
    rw [h.2, List.getD_eq_getElem?_getD, List.getElem?_eq_getElem hj, Option.getD_some] at e
    rw [List.getElem?_eq_getElem hj, ← e]
    simp [ww, hj]
  · rw [List.getElem?_eq_none hj, List.getElem?_eq_none (by simp [ww]; exact hj)]
/-- row g, of cap words, is the call's own; its first n words are the number N -/
def OwnN (w : World) (g cap n N : Nat) : Prop :=
  0 < cap ∧ cap ≤ 1000000 ∧ n ≤ cap ∧ LW (ww N n) N ∧ ∃ f, w.rowIs g 106 cap f ∧ ∀ j, j < n → f j = .int .u64 ((Num.dg Num.B64 N j : Nat) : Int)
def RetOwn (w : World) (N : Nat) (e : Ending) (w' : World) : Prop :=
  ∃ cap n, e = .returned (.slice (some ⟨w.heap.size, 0, none⟩) n cap) ∧ OwnN w' w.heap.size cap n N ∧ Kept w w'
theorem trim_le (b : Nat) (hb : 1 < b) (S n : Nat) (hS : S < Num.B64 ^ n) : (Num.trim (ww S n)).length ≤ n ∧ LW (ww S (Num.trim (ww S n)).length) S := by
  have hl : LW (Num.trim (ww S n)) S := by
    refine ⟨Num.can_trim _ _ ?_, ?_⟩
    · intro d hd
      obtain ⟨i, _, rfl⟩ := List.mem_map.1 hd
      exact Num.dg_lt Num.B64_pos _ _
    · rw [Num.le_trim, ww, Num.le_dg, Nat.mod_eq_of_lt hS]
  refine ⟨?_, ?_⟩
  · have h1 := Num.len_lt Num.B64 (by decide) _ hl.1 n (by rw [hl.2]; exact hS)
    exact h1
  · rw [← lw_ww hl]
    exact hl
theorem OwnN.of_row {w : World} {g cap n S : Nat} {f : Nat → Value} (h : w.rowIs g 106 cap f) (hf : ∀ j, j < n → f j = .int .u64 ((Num.dg Num.B64 S j : Nat) : Int)) (hn : n ≤ cap) (hc0 : 0 < cap) (hm : cap ≤ 1000000) (hS : S < Num.B64 ^ n) :
    OwnN w g cap (Num.trim (ww S n)).length S := by
  obtain ⟨h1, h2⟩ := trim_le 2 (by omega) S n hS
  exact ⟨hc0, hm, Nat.le_trans h1 hn, h2, f, h, fun j hj => hf j (Nat.lt_of_lt_of_le hj h1)⟩
theorem RetOwn.of_ww {w w' : World} {cap n S : Nat} {f : Nat → Value} (h : w'.rowIs w.heap.size 106 cap f) (hf : ∀ j, j < n → f j = .int .u64 ((Num.dg Num.B64 S j : Nat) : Int)) (hn : n ≤ cap) (hc0 : 0 < cap) (hm : cap ≤ 1000000) (hS : S < Num.B64 ^ n) (hb : Kept w w') :
    RetOwn w S (.returned (.slice (some ⟨w.heap.size, 0, none⟩) (Num.trim (ww S n)).length cap)) w' :=
  ⟨cap, _, rfl, OwnN.of_row h hf hn hc0 hm hS, hb⟩
theorem OwnN.sl {w : World} {g cap n N : Nat} (h : OwnN w g cap n N) : Sl w (some ⟨g, 0, none⟩) cap (w64 (ww N n)) := by
  obtain ⟨h0, h1, h2, _, f, hr, hf⟩ := h
  exact ww_row hr hf h2 (by unfold maxLen; omega)
set_option maxRecDepth 100000 in
set_option maxHeartbeats 4000000 in
theorem natSubO_core (Ax Ay : Option Addr) (cx cy0 : Nat) (xs ys : List Nat) (D : Nat) (hDY : Num.le Num.B64 xs = D + Num.le Num.B64 ys) (h1 : 0 < ys.length) (h2 : ys.length ≤ xs.length) (h3 : xs.length ≤ 100000) (hdx : ∀ d ∈ xs, d < Num.B64) (hdy : ∀ d ∈ ys, d < Num.B64) (w : World) (hs : Sl w Ax cx (w64 xs)) (ht : Sl w Ay cy0 (w64 ys)) :
    Calls Try.prog 99 #[.slice none 0 0, .slice Ax xs.length cx, .slice Ay ys.length cy0] w (RetOwn w D) := by
  have hcx := hs.cap
  have hcy := ht.cap
  rw [w64_len] at hcx hcy
  have hmk := make_nil xs.length (by omega) w
  have HDY := Lib.hid hDY
  have HMK := Lib.hid hmk
  have HS := Lib.hid (And.intro hs hdx)
  have HT := Lib.hid (And.intro ht hdy)
  have hnefx : ∀ b off, Ax = some ⟨b, off, none⟩ → b < w.heap.size := fun b off e => by
    obtain ⟨b', off', e', hc⟩ := hs.at_ (w64_ne (by omega))
    rw [e] at e'; injection e' with e'; injection e' with e1; subst e1
    exact block_lt_of_cell (hc 0 _ (w64_get xs 0 (by omega)))
  have hnefy : ∀ b off, Ay = some ⟨b, off, none⟩ → b < w.heap.size := fun b off e => by
    obtain ⟨b', off', e', hc⟩ := ht.at_ (w64_ne h1)
    rw [e] at e'; injection e' with e'; injection e' with e1; subst e1
    exact block_lt_of_cell (hc 0 _ (w64_get ys 0 h1))
  have HFX := Lib.hid hnefx
  have HFY := Lib.hid hnefy
  have hXb := Num.le_lt Num.B64 Num.B64_pos xs hdx
  have hYb := Num.le_lt Num.B64 Num.B64_pos ys hdy
  have hdrop := le_drop Num.B64 Num.B64_pos xs hdx ys.length
  have HXY : Hid (Num.le Num.B64 xs < Num.B64 ^ xs.length ∧ Num.le Num.B64 ys < Num.B64 ^ ys.length ∧ Num.le Num.B64 (xs.drop ys.length) = Num.le Num.B64 xs / Num.B64 ^ ys.length) := Lib.hid ⟨hXb, hYb, hdrop⟩
  have n1 : ¬ ((xs.length : Int) < (ys.length : Int)) := by omega
  have n1' : ¬ xs.length < ys.length := by omega
  have n2 : ((xs.length : Int) == 0) = false := by rw [beq_eq_false_iff_ne]; omega
  have n3 : ((ys.length : Int) == 0) = false := by rw [beq_eq_false_iff_ne]; omega
  have hsy : ∀ wx : World, (Instr.slice 98 (.slice Ay ys.length cy0) none (some (.int .i64 (ys.length : Int))) none).run Try.prog wx = .ok (.slice Ay ys.length cy0) wx := fun wx => run_hi98 Ay ys.length cy0 ys.length hcy wx
  have hsx : ∀ wx : World, (Instr.slice 98 (.slice Ax xs.length cx) none (some (.int .i64 (ys.length : Int))) none).run Try.prog wx = .ok (.slice Ax ys.length cx) wx := fun wx => run_hi98 Ax xs.length cx ys.length (by omega) wx
  clear hmk hDY hs ht hnefx hnefy hdx hdy hXb hYb hdrop
  go_enter Try.func99, Try.ntmps99
  go_wp2_with fail
  refine (HMK.out).mono ?_
  rintro e w1 (⟨h0, _⟩ | ⟨h0, cap, hc1, hc2, rfl, hrow, hbw⟩)
  · omega
  have hsz : ∀ wx : World, (Instr.slice 98 (.slice (some ⟨w.heap.size, 0, none⟩) xs.length cap) none (some (.int .i64 (ys.length : Int))) none).run Try.prog wx = .ok (.slice (some ⟨w.heap.size, 0, none⟩) ys.length cap) wx := fun wx => run_hi98 _ xs.length cap ys.length (by omega) wx
  have HROW := Lib.hid hrow
  have HBW := Lib.hid hbw
  have HADD : Hid (∀ W : World, W.heap = w1.heap → Kept w W → Calls Try.prog 118 #[.slice (some ⟨w.heap.size, 0, none⟩) ys.length cap, .slice Ax ys.length cx, .slice Ay ys.length cy0] W (AddVP W w.heap.size cap ys.length D (fun _ => .int .u64 0) (Num.cy Num.B64 D (Num.le Num.B64 ys) ys.length))) := Lib.hid fun W hW hk =>
    subVV_any w.heap.size cap ys.length Ax Ay cx cy0 _ _ (fun _ => .int .u64 0) W (subVVg_any w.heap.size cap ys.length Ax Ay cx cy0 (Num.le Num.B64 xs) (Num.le Num.B64 ys) D HDY.out (fun _ => .int .u64 0) (by omega) (by omega) W (rowIs_heap HROW.out hW)
      (Reads.of_sl (HS.out.1.below hk) HS.out.2 (fun b off e => by have := HFX.out b off e; omega) ys.length h2 _)
      (Reads.of_sl (HT.out.1.below hk) HT.out.2 (fun b off e => by have := HFY.out b off e; omega) ys.length (Nat.le_refl _) _))
  clear hrow hbw HMK
  go_wp2_with fail
  go_region_held3 (fun X : World => True) (trivial)
    ((
      go_at_call 118
      refine Calls.mono (HADD.out _ rfl ⟨HBW.out.os, HBW.out.tape, HBW.out.output, HBW.out.size, HBW.out.block⟩) ?_
      rintro e w2 ⟨rfl, hr2, hg2⟩))
  have hk2 : Kept w w2 := kept_of_only (B := w.heap.size) HBW.out (g := w.heap.size) ⟨hg2.os, hg2.tape, hg2.output, hg2.size, hg2.block⟩ (Nat.le_refl _) HBW.out.size
  have hC := Num.cy_le Num.B64_pos D (Num.le Num.B64 ys) ys.length
  have hSm : D < Num.B64 ^ xs.length := by have e1 := HXY.out.1; have e2 := HDY.out; omega
  have HSM := Lib.hid hSm
  have HK2 := Lib.hid hk2
  have HR2 := Lib.hid hr2
  generalize hCC : Num.cy Num.B64 D (Num.le Num.B64 ys) ys.length = C at *
  have HCC := Lib.hid hCC
  have HC1 := Lib.hid hC
  clear hk2 hSm hr2 hg2 hCC hC hsz
  by_cases hgt : ys.length < xs.length
  · have hlt : (ys.length : Int) < (xs.length : Int) := by omega
    have hsz2 : ∀ wx : World, (Instr.slice 98 (.slice (some ⟨w.heap.size, 0, none⟩) xs.length cap) (some (.int .i64 (ys.length : Int))) none none).run Try.prog wx = .ok (.slice (some ⟨w.heap.size, ys.length, none⟩) (xs.length - ys.length) (cap - ys.length)) wx := fun wx => by
      have := run_lo98 (some ⟨w.heap.size, 0, none⟩) xs.length cap ys.length (by omega) wx
      rwa [cutA_some _ _ _ _ h1 (by omega), Nat.zero_add] at this
    have hsx2 : ∀ wx : World, (Instr.slice 98 (.slice Ax xs.length cx) (some (.int .i64 (ys.length : Int))) none none).run Try.prog wx = .ok (.slice (cutA Ax ys.length cx) (xs.length - ys.length) (cx - ys.length)) wx := fun wx => run_lo98 Ax xs.length cx ys.length (by omega) wx
    have HSH : Hid (Num.le Num.B64 (xs.drop ys.length) = D / Num.B64 ^ ys.length + C ∧ Num.cy Num.B64 (D / Num.B64 ^ ys.length) C (xs.length - ys.length) = 0) := by
      have := sub_hi D (Num.le Num.B64 ys) ys.length xs.length hgt (by rw [← HDY.out]; exact HXY.out.1) HXY.out.2.1
      rw [HCC.out, ← HDY.out, ← HXY.out.2.2] at this
      exact this
    have HVW : Hid (∀ W : World, W.heap = w2.heap → Kept w W → Calls Try.prog 119 #[.slice (some ⟨w.heap.size, ys.length, none⟩) (xs.length - ys.length) (cap - ys.length), .slice (cutA Ax ys.length cx) (xs.length - ys.length) (cx - ys.length), .int .u64 (C : Int)] W
        (AddWP W w.heap.size cap ys.length (xs.length - ys.length) (D / Num.B64 ^ ys.length) (wv D ys.length (fun _ => .int .u64 0)) 0)) := Lib.hid fun W hW hk => by
      have hsd := (HS.out.1.below hk).from_ ys.length (by rw [w64_len]; omega)
      rw [← w64_drop] at hsd
      rw [← HSH.out.2]
      refine subVW_any w.heap.size cap ys.length (xs.length - ys.length) (cap - ys.length) (cutA Ax ys.length cx) (cx - ys.length) (xs.drop ys.length) C (D / Num.B64 ^ ys.length) HSH.out.1 _ (by omega) (by rw [List.length_drop]) (by omega) (by omega) (by omega) HC1.out (fun d hd => HS.out.2 d (List.mem_of_mem_drop hd)) W (rowIs_heap HR2.out hW) hsd ?_
      intro b off e
      unfold cutA at e
      split at e
      · have := HFX.out b off e; omega
      · obtain ⟨b0, o0, e0, _⟩ := HS.out.1.at_ (w64_ne (by omega))
        rw [e0] at e
        simp [Addr.add] at e
        have := HFX.out b0 o0 e0
        split at e <;> (injection e with e1 e2 e3; omega)
    go_wp2_with fail
    go_region_held3 (fun X : World => True) (trivial)
      ((
        go_at_call 119
        refine Calls.mono (HVW.out _ rfl ⟨HK2.out.os, HK2.out.tape, HK2.out.output, HK2.out.size, HK2.out.block⟩) ?_
        rintro e w3 ⟨rfl, hr3, hg3⟩))
    have hk3 : Kept w w3 := kept_of_only (B := w.heap.size) HK2.out (g := w.heap.size) ⟨hg3.os, hg3.tape, hg3.output, hg3.size, hg3.block⟩ (Nat.le_refl _) HK2.out.size
    have HHH : Hid (∀ j, j < xs.length → (wo (D / Num.B64 ^ ys.length) ys.length (xs.length - ys.length) (wv D ys.length (fun _ => .int .u64 0))) j = .int .u64 ((Num.dg Num.B64 D j : Nat) : Int)) := by
      exact Lib.hid fun j hj => by
        show wo _ _ _ _ j = _
        unfold wo
        by_cases hjn : j < ys.length
        · rw [if_neg (by omega)]
          unfold wv
          rw [if_pos hjn]
        · rw [if_pos (by omega)]
          have := dg_add Num.B64 D ys.length (j - ys.length)
          rw [show ys.length + (j - ys.length) = j by omega] at this
          rw [this]
    have hSl := ww_row hr3 HHH.out (by omega) (by unfold maxLen; omega)
    have hNO := norm_any (some ⟨w.heap.size, 0, none⟩) cap (ww D xs.length) (by simp [ww]; omega) _ hSl
    have hwl : (ww D xs.length).length = xs.length := by simp [ww]
    rw [hwl] at hNO
    have hRN := RetOwn.of_ww hr3 HHH.out (by omega) (by omega) (by omega) HSM.out hk3
    have HNO := Lib.hid hNO
    have HRN := Lib.hid hRN
    clear hSl hNO hwl hRN
    go_wp2_with fail
    refine (HNO.out).mono ?_
    rintro e w5 ⟨rfl, rfl⟩
    go_wp2_with fail
    go_ret
    exact HRN.out
  · have heq : ys.length = xs.length := by omega
    have hC0 : C = 0 := by
      rw [← HCC.out]
      exact Num.cy_last _ _ _ (by rw [← HDY.out, heq]; exact HXY.out.1)
    subst hC0
    have ngt : ¬ (ys.length : Int) < (xs.length : Int) := by omega
    have hr2x := HR2.out
    have hk2x := HK2.out
    have HHH : Hid (∀ j, j < xs.length → (wv D ys.length (fun _ => .int .u64 0)) j = .int .u64 ((Num.dg Num.B64 D j : Nat) : Int)) := by
      exact Lib.hid fun j hj => by
        show wv _ _ _ j = _
        unfold wv
        rw [if_pos (by omega)]
    have hSl := ww_row hr2x HHH.out (by omega) (by unfold maxLen; omega)
    have hNO := norm_any (some ⟨w.heap.size, 0, none⟩) cap (ww D xs.length) (by simp [ww]; omega) _ hSl
    have hwl : (ww D xs.length).length = xs.length := by simp [ww]
    rw [hwl] at hNO
    have hRN := RetOwn.of_ww hr2x HHH.out (by omega) (by omega) (by omega) HSM.out hk2x
    have HNO := Lib.hid hNO
    have HRN := Lib.hid hRN
    clear hSl hNO hwl hRN
    go_wp2_with fail
    refine (HNO.out).mono ?_
    rintro e w5 ⟨rfl, rfl⟩
    go_wp2_with fail
    go_ret
    exact HRN.out
theorem natDecO_any (Ax A1 : Option Addr) (cx c1 : Nat) (xs : List Nat) (X : Nat) (hX : LW xs (X + 1)) (h3 : xs.length ≤ 100000) (w : World) (hs : Sl w Ax cx (w64 xs)) (ht : Sl w A1 c1 (w64 [1])) :
    Calls Try.prog 99 #[.slice none 0 0, .slice Ax xs.length cx, .slice A1 1 c1] w (RetOwn w X) := by
  have h0 : 0 < xs.length := by
    rcases Nat.eq_zero_or_pos xs.length with h0 | h0
    · have hx : xs = [] := List.length_eq_zero_iff.1 h0
      subst hx
      have := hX.2
      simp [Num.le] at this
    · exact h0
  exact natSubO_core Ax A1 cx c1 xs [1] X (by rw [hX.2]; simp [Num.le]) (by simp) (by simp; omega) h3 hX.1.1 one_lt w hs ht
set_option maxRecDepth 100000 in
theorem make_own (A : Option Addr) (n c k : Nat) (hk : k ≤ c) (w : World) :
    Calls Try.prog 114 #[.slice A n c, .int .i64 (k : Int)] w fun e w' => e = .returned (.slice A k c) ∧ w = w' := by
  have h1 : (k : Int) ≤ (c : Int) := by omega
  have hs : ∀ wx : World, (Instr.slice 98 (.slice A n c) none (some (.int .i64 (k : Int))) none).run Try.prog wx = .ok (.slice A k c) wx := fun wx => run_hi98 A n c k hk wx
  go_enter Try.func114, Try.ntmps114
  go_wp2_with fail
  go_ret
  exact ⟨rfl, rfl⟩
theorem run_same_self {P : Program} {w : World} {a : Addr} : (sameAddr a a).run P w = .ok true w := by
  simp [sameAddr]
theorem run_eql_self {P : Program} {w : World} {tp te : TypeId} {j : TypeInfo} {a : Addr} (hp : P.underlying tp = some (.pointer te)) (hte : P.info? te = some j) (hsz : j.size ≠ 0) :
    (binOp .eql tp (.pointer (some a)) (.pointer (some a))).run P w = .ok (.bool true) w := by
  have h : ∀ d : Nat, (Op.equalIn (d + 1) tp (.pointer (some a)) (.pointer (some a))).run P w = .ok true w := fun d => by
    simp [Op.equalIn, run_underlying hp, sizeOf, typeInfo, hte, run_same_self]
  simp only [binOp]
  simp [Op.equal, Op.maxDepth, h 9999]
theorem run_neq_self {P : Program} {w : World} {tp te : TypeId} {j : TypeInfo} {a : Addr} (hp : P.underlying tp = some (.pointer te)) (hte : P.info? te = some j) (hsz : j.size ≠ 0) :
    (binOp .neq tp (.pointer (some a)) (.pointer (some a))).run P w = .ok (.bool false) w := by
  have h : ∀ d : Nat, (Op.equalIn (d + 1) tp (.pointer (some a)) (.pointer (some a))).run P w = .ok true w := fun d => by
    simp [Op.equalIn, run_underlying hp, sizeOf, typeInfo, hte, run_same_self]
  simp only [binOp]
  simp [Op.equal, Op.maxDepth, h 9999]
theorem eqlW (g off : Nat) : ∀ W : World, (binOp .eql 171 (.pointer (some ⟨g, off, none⟩)) (.pointer (some ⟨g, off, none⟩))).run Try.prog W = .ok (.bool true) W := fun W => by
  obtain ⟨j, hj, hj0⟩ := info_pw
  exact run_eql_self Try.underlying171 hj hj0
theorem neqW (g off : Nat) : ∀ W : World, (binOp .neq 171 (.pointer (some ⟨g, off, none⟩)) (.pointer (some ⟨g, off, none⟩))).run Try.prog W = .ok (.bool false) W := fun W => by
  obtain ⟨j, hj, hj0⟩ := info_pw
  exact run_neq_self Try.underlying171 hj hj0
set_option maxRecDepth 100000 in
theorem same_self (g n c : Nat) (hn : 0 < n) (w : World) : Calls Try.prog 120 #[.slice (some ⟨g, 0, none⟩) n c, .slice (some ⟨g, 0, none⟩) n c] w fun e w' => e = .returned (.bool true) ∧ ∃ m, w' = w.drewN m := by
  have h1 : (0 : Int) < (n : Int) := by omega
  have he := eqlW g 0
  go_enter Try.func120, Try.ntmps120
  go_wp2_with fail
  go_quiet (fail)
  go_wp2_with fail
  go_ret
  exact ⟨rfl, _, rfl⟩
set_option maxRecDepth 100000 in
theorem same_empty (g c : Nat) (w : World) : Calls Try.prog 120 #[.slice (some ⟨g, 0, none⟩) 0 c, .slice (some ⟨g, 0, none⟩) 0 c] w fun e w' => e = .returned (.bool false) ∧ ∃ m, w' = w.drewN m := by
  go_enter Try.func120, Try.ntmps120
  go_wp2_with fail
  go_quiet (fail)
  go_wp2_with fail
  go_ret
  exact ⟨rfl, _, rfl⟩
set_option maxRecDepth 100000 in
theorem alias_self (g n c : Nat) (hc : 0 < c) (hc2 : c ≤ 1000000) (w : World) : Calls Try.prog 121 #[.slice (some ⟨g, 0, none⟩) n c, .slice (some ⟨g, 0, none⟩) n c] w fun e w' => e = .returned (.bool true) ∧ ∃ m, w' = w.drewN m := by
  have h1 : (0 : Int) < (c : Int) := by omega
  have hs : ∀ wx : World, (Instr.slice 98 (.slice (some ⟨g, 0, none⟩) n c) (some (.int .i64 0)) (some (.int .i64 (c : Int))) none).run Try.prog wx = .ok (.slice (some ⟨g, 0, none⟩) c c) wx := fun wx => run_to64 _ n c c (Nat.le_refl _) wx
  have hsub : (c : Int) - 1 = ((c - 1 : Nat) : Int) := by omega
  have hw : IntKind.i64.wrap ((c - 1 : Nat) : Int) = ((c - 1 : Nat) : Int) := by rw [IntKind.wrap_i64]; omega
  have h2 : ((c - 1 : Nat) : Int) < (c : Int) := by omega
  have h3 : (0 : Int) ≤ ((c - 1 : Nat) : Int) := by omega
  have he := eqlW g (c - 1)
  go_enter Try.func121, Try.ntmps121
  go_wp2_with fail
  go_quiet (fail)
  go_wp2_with fail
  go_ret
  exact ⟨rfl, _, rfl⟩
/-- the number in the row g is N now -/
def InRow (w : World) (g cap N : Nat) (e : Ending) (w' : World) : Prop :=
  ∃ n, e = .returned (.slice (some ⟨g, 0, none⟩) n cap) ∧ OwnN w' g cap n N ∧ w.grownBy w' (some g)
theorem OwnN.heap {w w' : World} {g cap n N : Nat} (h : OwnN w g cap n N) (e : w'.heap = w.heap) : OwnN w' g cap n N := by
  obtain ⟨h0, h1, h2, h3, f, hr, hf⟩ := h
  exact ⟨h0, h1, h2, h3, f, rowIs_heap hr e, hf⟩
theorem OwnN.zero {w : World} {g cap n N : Nat} (h : OwnN w g cap n N) : OwnN w g cap 0 0 := by
  obtain ⟨h0, h1, h2, h3, f, hr, hf⟩ := h
  exact ⟨h0, h1, Nat.zero_le _, ⟨Num.Can.nil _, rfl⟩, f, hr, fun j hj => absurd hj (Nat.not_lt_zero _)⟩
theorem drewN_heap (w : World) (n : Nat) : (w.drewN n).heap = w.heap := rfl
set_option maxRecDepth 100000 in
set_option maxHeartbeats 4000000 in
theorem natRsh_own (g cap n X s : Nat) (hsl : s < 18446744073709551616) (w : World) (ho : OwnN w g cap n X) :
    Calls Try.prog 101 #[.slice (some ⟨g, 0, none⟩) n cap, .slice (some ⟨g, 0, none⟩) n cap, .int .u64 (s : Int)] w (InRow w g cap (X / 2 ^ s)) := by
  have ho' := ho
  obtain ⟨hc0, hcm, hnc, hl, f, hr, hf⟩ := ho'
  have hwl0 : (ww X n).length = n := by simp [ww]
  have hXb := Num.le_lt Num.B64 Num.B64_pos (ww X n) hl.1.1
  rw [hl.2, hwl0] at hXb
  have hsl0 : ∀ wx : World, (Instr.slice 98 (.slice (some ⟨g, 0, none⟩) n cap) none (some (.int .i64 0)) none).run Try.prog wx = .ok (.slice (some ⟨g, 0, none⟩) 0 cap) wx := fun wx => run_hi98 _ n cap 0 (Nat.zero_le _) wx
  by_cases hs0 : s = 0
  · subst hs0
    rw [Nat.pow_zero, Nat.div_one]
    by_cases hn : n = 0
    · subst hn
      have hX0 : X = 0 := by rw [Nat.pow_zero] at hXb; omega
      have HO := Lib.hid (And.intro hX0 (And.intro ho ho.zero))
      clear hl hr hf hXb hX0 ho hwl0
      go_enter Try.func101, Try.ntmps101
      go_wp2_with fail
      refine (same_empty g cap w).mono ?_
      rintro e w1 ⟨rfl, m1, rfl⟩
      go_wp2_with fail
      refine (alias_self g 0 cap hc0 hcm _).mono ?_
      rintro e w2 ⟨rfl, m2, rfl⟩
      go_wp2_with fail
      go_ret
      exact ⟨0, rfl, by rw [HO.out.1]; exact HO.out.2.2.heap rfl, grown_drewN (World.grownBy.refl w _) _⟩
    · have HO := Lib.hid ho
      clear hl hr hf hXb ho hwl0
      go_enter Try.func101, Try.ntmps101
      go_wp2_with fail
      refine (same_self g n cap (by omega) w).mono ?_
      rintro e w1 ⟨rfl, m1, rfl⟩
      go_wp2_with fail
      go_ret
      exact ⟨n, rfl, HO.out.heap rfl, grown_drewN (World.grownBy.refl w _) m1⟩
  · have hn0 : ((s : Int) == 0) = false := by rw [beq_eq_false_iff_ne]; omega
    have hn0' : ¬ ((s : Int) = 0) := by omega
    obtain ⟨q, hq⟩ : ∃ q, s / 64 = q := ⟨_, rfl⟩
    obtain ⟨r, hr'⟩ : ∃ r, s % 64 = r := ⟨_, rfl⟩
    have hD := rsh_split X s q r hq hr'
    have hqI : (s : Int) / 64 = (q : Int) := by omega
    have hqT : (s : Int).tdiv 64 = (q : Int) := by rw [Int.tdiv_eq_ediv_of_nonneg (by omega)]; exact hqI
    have hrI : (s : Int) % 64 = (r : Int) := by omega
    have hrT : (s : Int).tmod 64 = (r : Int) := by rw [Int.tmod_eq_emod_of_nonneg (by omega)]; exact hrI
    have hwq : IntKind.i64.wrap (q : Int) = (q : Int) := by rw [IntKind.wrap_i64]; omega
    rw [hD]
    have hr64 : r < 64 := by omega
    by_cases hnq : n ≤ q
    · have hz := rsh_small hXb hnq r
      rw [hz]
      have hle : (n : Int) - (q : Int) ≤ 0 := by omega
      have hwd : IntKind.i64.wrap ((n : Int) - (q : Int)) = (n : Int) - (q : Int) := by rw [IntKind.wrap_i64]; omega
      have HZ := Lib.hid ho.zero
      clear hl hr hf hD hz hXb ho
      go_enter Try.func101, Try.ntmps101
      go_wp2_with fail
      go_ret
      exact ⟨0, rfl, HZ.out, World.grownBy.refl w _⟩
    · have hqn : q < n := by omega
      have hfi := rsh_fits hXb (Nat.le_of_lt hqn) r
      obtain ⟨k, hk⟩ : ∃ k, n - q = k := ⟨_, rfl⟩
      rw [hk] at hfi
      have hkI : (n : Int) - (q : Int) = (k : Int) := by omega
      have hwk : IntKind.i64.wrap (k : Int) = (k : Int) := by rw [IntKind.wrap_i64]; omega
      have hqI2 : (n : Int) - (k : Int) = (q : Int) := by omega
      have hle : ¬ ((k : Int) ≤ 0) := by omega
      have hle2 : ¬ (k ≤ 0) := by omega
      have hle3 : ¬ (k = 0) := by omega
      have hslx : ∀ wx : World, (Instr.slice 98 (.slice (some ⟨g, 0, none⟩) n cap) (some (.int .i64 (q : Int))) none none).run Try.prog wx = .ok (.slice (some ⟨g, q, none⟩) k (cap - q)) wx := fun wx => by
        have := run_lo98 (some ⟨g, 0, none⟩) n cap q (Nat.le_of_lt hqn) wx
        rwa [hk, cutA_some' _ _ _ _ (by omega), Nat.zero_add] at this
      have hcell : ∀ j, q + j < n → f (q + j) = .int .u64 ((Num.dg Num.B64 (X / Num.B64 ^ q) j : Nat) : Int) := fun j hj => by rw [hf (q + j) hj, dg_add]
      have HCELL := Lib.hid hcell
      have HF := Lib.hid hfi
      have HMK := Lib.hid (make_own (some ⟨g, 0, none⟩) n cap k (by omega) w)
      have HROW := Lib.hid hr
      have hkc : k ≤ cap := by omega
      clear hcell hl hD hXb hfi ho hr hf
      generalize hY : X / Num.B64 ^ q = Y at *
      clear hY
      by_cases hr0 : r = 0
      · subst hr0
        have hr0I : ((0 : Nat) : Int) = 0 := rfl
        rw [hr0I] at hrI hrT
        rw [Nat.pow_zero, Nat.div_one] at *
        go_enter Try.func101, Try.ntmps101
        go_wp2_with fail
        refine (HMK.out).mono ?_
        rintro e w1 ⟨rfl, rfl⟩
        have hsrc : ∀ j, j < k → w.cell? ⟨g, q + j, none⟩ = some ((fun t => Value.int .u64 ((Num.dg Num.B64 Y t : Nat) : Int)) j) := fun j hj => by rw [HROW.out.cell (i := q + j) (by omega), HCELL.out j (by omega)]
        have HSRC := Lib.hid hsrc
        clear hsrc
        go_wp2_with (refine wpList_copy_row rfl (.tmp 40) (.tmp 45) 98 98 rfl 106 Try.underlying98 size_word _ _ _ _ _ _ rfl rfl g 0 k cap 106 f (fun t => Value.int .u64 ((Num.dg Num.B64 Y t : Nat) : Int)) HROW.out (Nat.min_self _).symm (fun _ => ⟨rfl, g, q, rfl, HSRC.out⟩) (by omega) (fun _ _ => rfl) ?_; intro w2 hr2 hg2; have HR2 := Lib.hid hr2; have HK2 := Lib.hid hg2; clear hr2 hg2; have hf4 : ∀ j, j < k → (if 0 ≤ j ∧ j < 0 + k then (fun t => Value.int .u64 ((Num.dg Num.B64 Y t : Nat) : Int)) (j - 0) else f j) = .int .u64 ((Num.dg Num.B64 Y j : Nat) : Int) := fun j hj => (by rw [if_pos ⟨Nat.zero_le _, by omega⟩]; rfl); have hSl := ww_row HR2.out hf4 hkc (by unfold maxLen; omega); have hNO := norm_any (some ⟨g, 0, none⟩) cap (ww Y k) (by simp [ww]; omega) _ hSl; have hwl : (ww Y k).length = k := (by simp [ww]); rw [hwl] at hNO; have HRN := Lib.hid (OwnN.of_row HR2.out hf4 hkc hc0 hcm HF.out.1); have HNO := Lib.hid hNO; clear hSl hNO hf4 hwl)
        refine (HNO.out).mono ?_
        rintro e w5 ⟨rfl, rfl⟩
        go_wp2_with fail
        go_ret
        exact ⟨_, rfl, HRN.out, HK2.out⟩
      · have hrne : ((r : Int) == 0) = false := by rw [beq_eq_false_iff_ne]; omega
        have hrne' : ¬ ((r : Int) = 0) := by omega
        go_enter Try.func101, Try.ntmps101
        go_wp2_with fail
        refine (HMK.out).mono ?_
        rintro e w1 ⟨rfl, rfl⟩
        have HVU : Hid (Calls Try.prog 122 #[.slice (some ⟨g, 0, none⟩) k cap, .slice (some ⟨g, q, none⟩) k (cap - q), .int .u64 (r : Int)] w (RshP w g cap k (Y / 2 ^ r) f)) := Lib.hid
          (rshVU_any _ _ _ _ _ _ _ _ _ _ (rshVUg_any g cap k (some ⟨g, q, none⟩) cap (cap - q) Y r (by omega) hr64 f (by omega) hkc hcm HF.out.1 w HROW.out (fun m j wr h1 h2 h3 h4 =>
            ⟨g, q, rfl, by
              have h4' : wr.rowIs g 106 cap (wv (Y / 2 ^ r) m f) := h4
              rw [h4'.cell (i := q + j) (by omega)]
              unfold wv
              rw [if_neg (by omega), HCELL.out j (by omega)]⟩)))
        go_wp2_with fail
        refine (HVU.out).mono ?_
        rintro e w2 ⟨kv, rfl, hr2, hg2⟩
        have hf4 : ∀ j, j < k → wv (Y / 2 ^ r) k f j = .int .u64 ((Num.dg Num.B64 (Y / 2 ^ r) j : Nat) : Int) := fun j hj => by unfold wv; rw [if_pos hj]
        have hSl := ww_row hr2 hf4 hkc (by unfold maxLen; omega)
        have hNO := norm_any (some ⟨g, 0, none⟩) cap (ww (Y / 2 ^ r) k) (by simp [ww]; omega) _ hSl
        have hwl : (ww (Y / 2 ^ r) k).length = k := by simp [ww]
        rw [hwl] at hNO
        have HRN := Lib.hid (OwnN.of_row hr2 hf4 hkc hc0 hcm HF.out.2)
        have HNO := Lib.hid hNO
        have HG2 := Lib.hid hg2
        clear hSl hNO hr2 hg2 hf4 hwl
        go_wp2_with fail
        refine (HNO.out).mono ?_
        rintro e w5 ⟨rfl, rfl⟩
        go_wp2_with fail
        go_ret
        exact ⟨_, rfl, HRN.out, HG2.out⟩
end Go.Proofs.Ytikjdibngkcpkaa
