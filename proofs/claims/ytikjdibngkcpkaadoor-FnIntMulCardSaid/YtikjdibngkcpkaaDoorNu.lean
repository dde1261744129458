/- Digits out of words, new integers, the integer as the thin package hands it back. -/
import Derived.Test.YtikjdibngkcpkaaDoorSg
namespace Go.Proofs.YtikjdibngkcpkaaDoor
open Go.ChangeShapes Go.WideShapes Go.ChangeAt Go.RowKit
set_option linter.unusedVariables false
/-- the i-th byte of the words, from the lowest -/
def byt (ws : List Nat) (i : Nat) : Nat := ws.getD (i / 8) 0 / 256 ^ (i % 8) % 256
def byts (ws : List Nat) : List Nat := (List.range (8 * ws.length)).map (byt ws)
theorem byt_lt (ws : List Nat) (i : Nat) : byt ws i < 256 := Nat.mod_lt _ (by omega)
theorem byts_len (ws : List Nat) : (byts ws).length = 8 * ws.length := by simp [byts]
theorem byts_cons (d : Nat) (t : List Nat) : byts (d :: t) = (List.range 8).map (fun i => d / 256 ^ i % 256) ++ byts t := by
  have h1 : (List.range 8).map (byt (d :: t)) = (List.range 8).map (fun i => d / 256 ^ i % 256) := by
    apply List.map_congr_left
    intro i hi
    have hi8 : i < 8 := by simpa using hi
    unfold byt
    rw [Nat.div_eq_of_lt hi8, Nat.mod_eq_of_lt hi8]
    rfl
  have h2 : (List.range (8 * t.length)).map (byt (d :: t) ∘ fun x => 8 + x) = (List.range (8 * t.length)).map (byt t) := by
    apply List.map_congr_left
    intro i _
    simp only [Function.comp, byt]
    rw [show (8 + i) / 8 = i / 8 + 1 by omega, show (8 + i) % 8 = i % 8 by omega]
    rfl
  unfold byts
  rw [show 8 * (d :: t).length = 8 + 8 * t.length by simp; omega, List.range_add, List.map_append, List.map_map, h1, h2]
theorem le_eight (d : Nat) (hd : d < Num.B64) : Num.le 256 ((List.range 8).map (fun i => d / 256 ^ i % 256)) = d := by
  have h : Num.B64 = 18446744073709551616 := rfl
  rw [h] at hd
  have e : List.range 8 = [0, 1, 2, 3, 4, 5, 6, 7] := rfl
  rw [e]
  simp only [List.map_cons, List.map_nil, Num.le]
  omega
theorem le_byts (ws : List Nat) (h : ∀ d ∈ ws, d < Num.B64) : Num.le 256 (byts ws) = Num.le Num.B64 ws := by
  induction ws with
  | nil => rfl
  | cons d t ih =>
    rw [byts_cons, Num.le_append, le_eight d (h d (by simp)), ih (fun x hx => h x (by simp [hx]))]
    simp only [Num.le, List.length_map, List.length_range]
    rfl
/-- the buffer when its m last cells are laid -/
def bd (ws : List Nat) (m j : Nat) : Value := if 8 * ws.length ≤ m + j then .int .u8 ((byt ws (8 * ws.length - 1 - j) : Nat) : Int) else .int .u8 0
theorem bd_set (ws : List Nat) (m : Nat) (hm : m < 8 * ws.length) : (fun j => if j = 8 * ws.length - 1 - m then Value.int .u8 ((byt ws m : Nat) : Int) else bd ws m j) = bd ws (m + 1) := by
  funext j
  by_cases h : j = 8 * ws.length - 1 - m
  · subst h
    rw [if_pos rfl, bd, if_pos (by omega)]
    congr 3
    omega
  · rw [if_neg h]
    unfold bd
    by_cases h2 : 8 * ws.length ≤ m + j
    · rw [if_pos h2, if_pos (by omega)]
    · rw [if_neg h2, if_neg (by omega)]
theorem byt_at (ws : List Nat) (k t : Nat) (ht : t < 8) (hk : k < ws.length) : byt ws (8 * k + t) = (ws[k]'hk) / 256 ^ t % 256 := by
  unfold byt
  rw [show (8 * k + t) / 8 = k by omega, show (8 * k + t) % 8 = t by omega, List.getD_eq_getElem?_getD, List.getElem?_eq_getElem hk]
  rfl
theorem pow_step (d t : Nat) : d / 256 ^ t / 256 = d / 256 ^ (t + 1) := by rw [Nat.div_div_eq_div_mul, Nat.pow_succ]
set_option maxRecDepth 100000 in
set_option maxHeartbeats 1000000 in
theorem natBytes_any (g : Nat) (A : Option Addr) (c : Nat) (ws : List Nat) (hn : ws.length ≤ 1000000) (hd : ∀ d ∈ ws, d < Num.B64) (w : World) (hs : Sl w A c (w64 ws)) (hr : w.rowIs g 5 (8 * ws.length) (bd ws 0))
    (hA : 0 < ws.length → ∀ b off, A = some ⟨b, off, none⟩ → b ≠ g) :
    Calls Tryd.prog 27 #[.slice A ws.length c, .slice (some ⟨g, 0, none⟩) (8 * ws.length) (8 * ws.length)] w fun e w' =>
      ∃ i : Nat, e = .returned (.int .i64 (i : Int)) ∧ i ≤ 8 * ws.length ∧ (∀ j, j < i → byt ws (8 * ws.length - 1 - j) = 0) ∧ (i < 8 * ws.length → byt ws (8 * ws.length - 1 - i) ≠ 0)
        ∧ w'.rowIs g 5 (8 * ws.length) (bd ws (8 * ws.length)) ∧ w.grownBy w' (some g) := by
  have HS := Lib.hid hs
  have HD := Lib.hid hd
  have HA := Lib.hid hA
  clear hs hd hA
  go_enter Tryd.func27, Tryd.ntmps27
  go_wp2_with fail
  go_loopw [4, 12] (fun iv kv wr => ∃ k : Nat, iv = .int .i64 ((8 * ws.length - 8 * k : Nat) : Int) ∧ kv = .int .i64 k ∧ k ≤ ws.length ∧ wr.rowIs g 5 (8 * ws.length) (bd ws (8 * k)) ∧ w.grownBy wr (some g)) (fun _ kv _ => ws.length - (intOf kv).toNat)
  case atStart => exact ⟨0, by simp, rfl, Nat.zero_le _, hr, World.grownBy.refl _ _⟩
  case round =>
    obtain ⟨k, rfl, rfl, hk, hr2, hg2⟩ := hrel
    by_cases hlt : k < ws.length
    · obtain ⟨b, off, e, hc⟩ := HS.out.at_ (w64_ne (by omega))
      have q1 := hc k _ (w64_get ws k hlt)
      have hbg : b ≠ g := HA.out (by omega) b off e
      have r1 : wr.cell? ⟨b, off + k, none⟩ = some (.int .u64 ((ws[k]'hlt : Nat) : Int)) := hg2.cell q1 (by simpa using hbg)
      subst e
      have hdk := HD.out _ (List.getElem_mem hlt)
      have hdk2 : ws[k]'hlt < 18446744073709551616 := hdk
      have HB : Hid (∀ t, t < 8 → byt ws (8 * k + t) = (ws[k]'hlt) / 256 ^ t % 256) := Lib.hid fun t ht => byt_at ws k t ht hlt
      clear hc q1 hdk
      generalize ws[k]'hlt = d at *
      go_wp2_with fail
      go_loopw [4, 6, 7] (fun iv dv tv wx => ∃ t : Nat, iv = .int .i64 ((8 * ws.length - 8 * k - t : Nat) : Int) ∧ dv = .int .u64 ((d / 256 ^ t : Nat) : Int) ∧ tv = .int .i64 t ∧ t ≤ 8 ∧ wx.rowIs g 5 (8 * ws.length) (bd ws (8 * k + t)) ∧ w.grownBy wx (some g)) (fun _ _ tv _ => 8 - (intOf tv).toNat)
      case atStart => exact ⟨0, by simp, by simp, rfl, Nat.zero_le _, hr2, hg2⟩
      case round =>
        obtain ⟨t, rfl, rfl, rfl, ht, hr3, hg3⟩ := hrel
        by_cases h8 : t < 8
        · have hpos : (0 : Int) ≤ ((8 * ws.length - 8 * k - t - 1 : Nat) : Int) := by omega
          have hin : ((8 * ws.length - 8 * k - t - 1 : Nat) : Int) < 8 * (ws.length : Int) := by omega
          have hsub : (((8 * ws.length - 8 * k - t : Nat) : Int) - 1) = ((8 * ws.length - 8 * k - t - 1 : Nat) : Int) := by omega
          have hcl := hr3.cell (i := 8 * ws.length - 8 * k - t - 1) (by omega)
          have hfr := hr3.frozen (8 * ws.length - 8 * k - t - 1)
          have hset := hr3.set (8 * ws.length - 1 - (8 * k + t)) (.int .u8 ((byt ws (8 * k + t) : Nat) : Int))
          rw [bd_set ws (8 * k + t) (by omega), HB.out t h8] at hset
          have HSET := Lib.hid hset
          have hbl : d / 256 ^ t < 18446744073709551616 := Nat.lt_of_le_of_lt (Nat.div_le_self _ _) hdk2
          have hps := pow_step d t
          have HPS := Lib.hid hps
          clear hset hps
          generalize hq : d / 256 ^ t = q at *
          go_wp2_with fail
          have e1 : 8 * ws.length - 1 - (8 * k + t) = 8 * ws.length - 8 * k - t - 1 := by omega
          rw [e1] at HSET
          refine ⟨⟨t + 1, by congr 1 <;> omega, ?_, by congr 1, by omega, ?_, only_set hg3 _ _⟩, by simp [intOf]; omega⟩
          · rw [← HPS.out, Int.natCast_ediv]
            rfl
          · have := HSET.out
            rw [Int.natCast_emod] at this
            exact this
        · obtain rfl : t = 8 := by omega
          go_wp2_with fail
          refine ⟨⟨k + 1, by congr 1 <;> omega, by congr 1, by omega, ?_, hg3⟩, by simp [intOf]; omega⟩
          rw [show 8 * (k + 1) = 8 * k + 8 by omega]
          exact hr3
    · obtain rfl : k = ws.length := by omega
      have hz : 8 * ws.length - 8 * ws.length = 0 := by omega
      rw [hz]
      go_wp2_with fail
      have hfull : ∀ j, j < 8 * ws.length → wr.cell? ⟨g, j, none⟩ = some (.int .u8 ((byt ws (8 * ws.length - 1 - j) : Nat) : Int)) := fun j hj => by
        have := hr2.cell hj
        rwa [bd, if_pos (by omega)] at this
      have HF := Lib.hid hfull
      clear hfull
      go_loop [4] (fun iv => ∃ i : Nat, iv = .int .i64 i ∧ i ≤ 8 * ws.length ∧ Hid (∀ j, j < i → byt ws (8 * ws.length - 1 - j) = 0)) (fun iv => 8 * ws.length - (intOf iv).toNat)
      case atStart => exact ⟨0, rfl, Nat.zero_le _, fun j hj => absurd hj (Nat.not_lt_zero _)⟩
      case round =>
        obtain ⟨i, rfl, hi, HZ⟩ := hrel
        by_cases hlt2 : i < 8 * ws.length
        · have hci := HF.out i hlt2
          by_cases h0 : byt ws (8 * ws.length - 1 - i) = 0
          · rw [h0] at hci
            have H0 := Lib.hid h0
            clear h0
            go_wp2_with fail
            exact ⟨⟨i + 1, by congr 1, by omega, fun j hj => by
              by_cases e : j = i
              · subst e; exact H0.out
              · exact HZ.out j (by omega)⟩, by simp [intOf]; omega⟩
          · have h0' : (((byt ws (8 * ws.length - 1 - i) : Nat) : Int) == 0) = false := by simp; omega
            have H0 := Lib.hid h0
            clear h0
            go_wp2_with fail
            go_ret
            exact ⟨i, rfl, hi, HZ.out, fun _ => H0.out, hr2, hg2⟩
        · go_wp2_with fail
          go_ret
          exact ⟨i, rfl, hi, HZ.out, fun h => absurd h hlt2, hr2, hg2⟩
theorem low_drop (l : List Nat) (i : Nat) (hi : i ≤ l.length) (hz : ∀ j, j < i → l.getD j 0 = 0) (he : i < l.length → l.getD i 0 ≠ 0) : l.dropWhile (· == 0) = l.drop i :=
  drop_zeros l i hi (fun j h hj => by have := hz j hj; rwa [List.getD_eq_getElem?_getD, List.getElem?_eq_getElem h, Option.getD_some] at this)
    (fun h => by have := he h; rwa [List.getD_eq_getElem?_getD, List.getElem?_eq_getElem h, Option.getD_some] at this)
theorem rev_byts (ws : List Nat) (j : Nat) (hj : j < 8 * ws.length) : (byts ws).reverse.getD j 0 = byt ws (8 * ws.length - 1 - j) := by
  have h1 : j < (byts ws).length := by rw [byts_len]; exact hj
  rw [List.getD_eq_getElem?_getD, List.getElem?_reverse h1, byts_len]
  simp only [byts, List.getElem?_map]
  rw [List.getElem?_range (by omega)]
  rfl
/-- a slice of the digits of N, in a block from B on -/
def RetDig (w : World) (N : Nat) (e : Ending) (w' : World) : Prop := ∃ A c l, e = .returned (.slice A l.length c) ∧ Sl w' A c (by8 l) ∧ BE l N ∧ Fz w.heap.size A ∧ Kept w w'
theorem RetDig.of {w w' : World} {ws : List Nat} {N i : Nat} (hd : ∀ d ∈ ws, d < Num.B64) (hN : Num.le Num.B64 ws = N) (hn : ws.length ≤ 1000000) (hi : i ≤ 8 * ws.length)
    (hz : ∀ j, j < i → byt ws (8 * ws.length - 1 - j) = 0) (he : i < 8 * ws.length → byt ws (8 * ws.length - 1 - i) ≠ 0) (hr : w'.rowIs w.heap.size 5 (8 * ws.length) (bd ws (8 * ws.length))) (hb : Kept w w') :
    RetDig w N (.returned (.slice (cutA (some ⟨w.heap.size, 0, none⟩) i (8 * ws.length)) (8 * ws.length - i) (8 * ws.length - i))) w' := by
  have hlen : (byts ws).reverse.length = 8 * ws.length := by rw [List.length_reverse, byts_len]
  have hs : Sl w' (some ⟨w.heap.size, 0, none⟩) (8 * ws.length) (by8 (byts ws).reverse) := by
    refine Sl_of_row hr (fun j u hu => ?_) (by rw [by8_len, hlen]; exact Nat.le_refl _) (by unfold maxLen; omega)
    have hj : j < (byts ws).reverse.length := by
      have := (List.getElem?_eq_some_iff.1 hu).1
      rwa [by8_len] at this
    rw [by8_get _ _ hj] at hu
    injection hu with hu
    rw [← hu, bd, if_pos (by omega)]
    have h1 := rev_byts ws j (by omega)
    rw [List.getD_eq_getElem?_getD, List.getElem?_eq_getElem hj, Option.getD_some] at h1
    rw [h1]
  have hdrop := hs.from_ i (by rw [by8_len, hlen]; exact hi)
  rw [← by8_drop] at hdrop
  have hw : (byts ws).reverse.dropWhile (· == 0) = (byts ws).reverse.drop i :=
    low_drop _ i (by omega) (fun j hj => by rw [rev_byts ws j (by omega)]; exact hz j hj) (fun h => by rw [rev_byts ws i (by omega)]; exact he (by omega))
  have hBE := BE.of_drop (byts ws).reverse (fun d h => by
    obtain ⟨j, _, rfl⟩ := List.mem_map.1 (List.mem_reverse.1 h)
    exact byt_lt ws j)
  rw [List.reverse_reverse, le_byts ws hd, hN, hw] at hBE
  have hl : ((byts ws).reverse.drop i).length = 8 * ws.length - i := by rw [List.length_drop, hlen]
  refine ⟨_, _, (byts ws).reverse.drop i, by rw [hl], hdrop, hBE, ?_, hb⟩
  intro b off e
  unfold cutA at e
  split at e
  · injection e with e; injection e with e1 e2; omega
  · simp [Addr.add] at e
    split at e <;> (injection e with e1 e2 e3; omega)
set_option maxRecDepth 100000 in
theorem Bytes_any (g : Nat) (z : Int) (hz : z.natAbs < Num.Cap) (w : World) (hg : BI w g z) :
    Calls Tryd.prog 17 #[.pointer (some ⟨g, 0, none⟩)] w (RetDig w z.natAbs) := by
  obtain ⟨A, c, ws, h1, h2, h3, h4⟩ := hg
  have hlen := h3.len hz
  have c1 : w.cell? ⟨g, 1, none⟩ = some (.slice A ws.length c) := h1.cell 1
  have hmk := run_make_row' (P := Tryd.prog) 22 5 (.int .u8 0) 1 Tryd.underlying22 info8 rfl .i64 .i64 (8 * ws.length) (by omega) (by omega) w
  have e8 : ((8 * ws.length : Nat) : Int) = (ws.length : Int) * 8 := by omega
  rw [e8] at hmk
  have hw64 : wrap64 ((ws.length : Int) * 8) = ((8 * ws.length : Nat) : Int) := by unfold wrap64; omega
  have hk0 := (Below.refl w.heap.size w).alloc (Nat.le_refl _) (.cells (madeCells #[Value.int .u8 0] (8 * ws.length)) 5)
  have hr0 : (w.alloc (.cells (madeCells #[Value.int .u8 0] (8 * ws.length)) 5)).rowIs w.heap.size 5 (8 * ws.length) (bd ws 0) :=
    (World.rowIs_made w (.int .u8 0) (8 * ws.length) 5).congr (fun j hj => by unfold bd; rw [if_neg (by omega)])
  have c2 : (w.alloc (.cells (madeCells #[Value.int .u8 0] (8 * ws.length)) 5)).cell? ⟨g, 1, none⟩ = some (.slice A ws.length c) := (hk0.cell (p := ⟨g, 1, none⟩) (Blk.lt h1)).trans c1
  have hnb := natBytes_any w.heap.size A c ws (by omega) h3.1.1 _ (h2.below hk0) hr0 (fun h0 b off e => by
    obtain ⟨b', off', e', hc'⟩ := h2.at_ (w64_ne h0)
    rw [e] at e'
    injection e' with e'
    injection e' with e1
    have := block_lt_of_cell (hc' 0 _ (w64_get ws 0 h0))
    simp only at this
    omega)
  have HNB := Lib.hid hnb
  have HR := Lib.hid h3
  clear hnb hr0 h1 h2 h3 h4
  go_enter Tryd.func17, Tryd.ntmps17
  go_wp2_with fail
  refine (HNB.out).mono ?_
  rintro e w1 ⟨i, rfl, hi, hz1, hz2, hr1, hg1⟩
  have hk1 : Kept w w1 := kept_of_only hk0 hg1 (Nat.le_refl _) (by simp)
  have hfin := RetDig.of (w := w) HR.out.1.1 HR.out.2 (by omega) hi hz1 hz2 hr1 hk1
  have hcut := run_from8 (some ⟨w.heap.size, 0, none⟩) (8 * ws.length) (8 * ws.length) i hi
  have HFIN := Lib.hid hfin
  clear hz1 hz2 hr1 hg1 hfin HR HNB
  go_wp2_with fail
  go_ret
  exact HFIN.out
def RetNew (w : World) (z : Int) (e : Ending) (w' : World) : Prop := ∃ g, e = .returned (.pointer (some ⟨g, 0, none⟩)) ∧ BIf w.heap.size w' g z ∧ w.heap.size ≤ g ∧ Kept w w'
theorem lw_one (n : Nat) (h0 : n ≠ 0) (h1 : n < Num.B64) : LW [n] n := by
  refine ⟨⟨?_, fun _ => h0⟩, by simp [Num.le]⟩
  intro d hd
  rw [List.mem_singleton.1 hd]
  exact h1
theorem new_two (w : World) (z x : Int) (b : Bool) (hz : z ≠ 0) (h64 : z.natAbs < Num.B64) (hb : decide (z < 0) = b) (hx : ((z.natAbs : Nat) : Int) = x) :
    RetNew w z (.returned (.pointer (some ⟨w.heap.size + 1, 0, none⟩))) ((w.alloc (.cells #[.int .u64 x] 70)).alloc (.cells #[.bool b, .slice (some ⟨w.heap.size, 0, none⟩) 1 1] 54)) := by
  subst hb hx
  have k2 := Blk.new (w.alloc (.cells #[.int .u64 ((z.natAbs : Nat) : Int)] 70)) 54 #[.bool (decide (z < 0)), .slice (some ⟨w.heap.size, 0, none⟩) 1 1]
  rw [World.size_alloc] at k2
  have k1 := (Blk.new w 70 #[.int .u64 ((z.natAbs : Nat) : Int)]).below ((Below.refl _ _).alloc (Nat.le_refl _) (.cells #[.bool (decide (z < 0)), .slice (some ⟨w.heap.size, 0, none⟩) 1 1] 54))
  refine ⟨_, rfl, ⟨_, _, [z.natAbs], k2, ⟨Nat.le_refl _, by unfold maxLen; omega, fun _ => ⟨_, _, rfl, fun j u hu => ?_⟩⟩, lw_one _ (by omega) h64, ?_⟩, by omega, ((Below.refl _ _).alloc (Nat.le_refl _) _).alloc (by simp) _⟩
  · cases j with
    | zero => injection hu with hu; subst hu; exact k1.cell 0
    | succ j => simp [w64] at hu
  · rintro b off e
    injection e with e
    injection e with e1
    omega
set_option maxRecDepth 100000 in
theorem NewInt_any (x : Int) (h1 : -2147483648 ≤ x) (h2 : x ≤ 2147483647) (w : World) :
    Calls Tryd.prog 26 #[.int .i64 x] w (RetNew w x) := by
  have hB : Num.B64 = 18446744073709551616 := rfl
  rcases Int.lt_trichotomy x 0 with h | h | h
  · have e0 : (x == 0) = false := by simp; omega
    have e1 : IntKind.u64.wrap x = x + 18446744073709551616 := by rw [IntKind.wrap_u64]; omega
    have e2 : IntKind.u64.wrap (-(x + 18446744073709551616)) = -x := by rw [IntKind.wrap_u64]; omega
    go_enter Tryd.func26, Tryd.ntmps26
    go_wp2_with fail
    go_ret
    exact new_two w x (-x) true (by omega) (by omega) (decide_eq_true h) (by omega)
  · subst h
    go_enter Tryd.func26, Tryd.ntmps26
    go_wp2_with fail
    go_ret
    refine ⟨_, rfl, ⟨none, 0, [], Blk.new w 54 #[.bool false, .slice none 0 0], Sl.nil _, ⟨Num.Can.nil _, rfl⟩, fun b off e => by cases e⟩, Nat.le_refl _, (Below.refl _ _).alloc (Nat.le_refl _) _⟩
  · have e0 : (x == 0) = false := by simp; omega
    have e1 : IntKind.u64.wrap x = x := by rw [IntKind.wrap_u64]; omega
    go_enter Tryd.func26, Tryd.ntmps26
    go_wp2_with fail
    go_ret
    exact new_two w x x _ (by omega) (by omega) rfl (by omega)
set_option maxRecDepth 100000 in
theorem BigInt_any (v : Value) (z : Int) (hz : z.natAbs < Num.Cap) (w : World) (hv : StI w v z) :
    Calls Tryd.prog 15 #[v] w (RetNew w z) := by
  rcases hv with ⟨rfl, hs⟩ | ⟨g, rfl, hb, hs⟩
  · have HR := Lib.hid (of_decide_eq_true hs)
    clear hs
    go_enter Tryd.func15, Tryd.ntmps15
    go_wp2_with fail
    refine (get_any z none _).mono ?_
    rintro e w1 ⟨rfl, hk⟩
    have hk1 := (alloc_kept hk).1
    go_wp2_with fail
    refine (NewInt_any z HR.out.1 HR.out.2 w1).mono ?_
    rintro e w2 ⟨g, rfl, hb2, hg2, hk2⟩
    have HB := Lib.hid hb2
    clear hb2
    go_wp2_with fail
    go_ret
    have := hk1.size
    exact ⟨g, rfl, HB.out.mono (by omega), by omega, hk1.trans hk2⟩
  · have HB := Lib.hid hb
    clear hb hs
    go_enter Tryd.func15, Tryd.ntmps15
    go_wp2_with fail
    refine (get_any 0 (some ⟨g, 0, none⟩) _).mono ?_
    rintro e w1 ⟨rfl, hk⟩
    have hk1 := (alloc_kept hk).1
    have hb1 := HB.out.below hk1
    have hlt := hb1.lt
    have h0 : BI0 (w1.alloc (.cells #[.bool false, .slice none 0 0] 54)) w1.heap.size := Blk.new w1 _ _
    have HS := Lib.hid (SetNew_any w1.heap.size g z _ (by omega) h0 (hb1.below ((Below.refl _ _).alloc (Nat.le_refl _) _)) hz)
    clear hb1 h0
    go_wp2_with fail
    refine (HS.out).mono ?_
    rintro e w2 ⟨rfl, hb2, ho2⟩
    have hB2 := Lib.hid hb2
    have hk2 : Kept w w2 := (kept_of_only (hk1.alloc hk1.size _) ho2 hk1.size (by simp only [World.size_alloc]; have := hk1.size; omega))
    have hz1 := hk1.size
    have hz2 : (w1.alloc (.cells #[.bool false, .slice none 0 0] 54)).heap.size = w1.heap.size + 1 := World.size_alloc _ _
    clear hb2 HS
    go_wp2_with fail
    go_ret
    exact ⟨w1.heap.size, rfl, hB2.out.mono (by omega), by omega, hk2⟩
set_option maxRecDepth 100000 in
theorem number_any (v : Value) (z : Int) (hz : z.natAbs < Num.Cap) (w : World) (hv : StI w v z) :
    Calls Tryd.prog 10 #[v] w (RetVI w z) := by
  obtain ⟨x, p, rfl⟩ : ∃ x p, v = .agg #[.int .i64 x, .pointer p] := by
    rcases hv with ⟨rfl, _⟩ | ⟨g, rfl, _⟩
    · exact ⟨_, _, rfl⟩
    · exact ⟨_, _, rfl⟩
  have hk0 := ((Below.refl w.heap.size w).alloc (Nat.le_refl _) (.cells #[.int .i64 x, .pointer p] 42)).alloc (by simp) (.cells #[.int .i64 0, .bool false, .slice none 0 0, .int .u64 0, .string ⟨#[]⟩, .slice none 0 0] 28)
  have hv0 := hv.below hk0
  have hb0 : Blk ((w.alloc (.cells #[.int .i64 x, .pointer p] 42)).alloc (.cells #[.int .i64 0, .bool false, .slice none 0 0, .int .u64 0, .string ⟨#[]⟩, .slice none 0 0] 28)) (w.heap.size + 1) 28 #[.int .i64 0, .bool false, .slice none 0 0, .int .u64 0, .string ⟨#[]⟩, .slice none 0 0] := by
    have := Blk.new (w.alloc (.cells #[.int .i64 x, .pointer p] 42)) 28 #[.int .i64 0, .bool false, .slice none 0 0, .int .u64 0, .string ⟨#[]⟩, .slice none 0 0]
    rwa [World.size_alloc] at this
  have hsz0 : ((w.alloc (.cells #[.int .i64 x, .pointer p] 42)).alloc (.cells #[.int .i64 0, .bool false, .slice none 0 0, .int .u64 0, .string ⟨#[]⟩, .slice none 0 0] 28)).heap.size = w.heap.size + 1 + 1 := by simp
  have HBI := Lib.hid (BigInt_any _ z hz _ hv0)
  have HB0 := Lib.hid hb0
  clear hv hv0 hb0
  go_enter Tryd.func10, Tryd.ntmps10
  go_wp2_with fail
  refine (HBI.out).mono ?_
  rintro e w1 ⟨g, rfl, hb1, hg1, hk1⟩
  have hkk1 := hk0.trans (hk1.mono hk0.size)
  have HB1 := Lib.hid hb1.toBI
  have HBlk1 := Lib.hid (HB0.out.below hk1)
  have hs1 := hk1.size
  clear hb1 HB0 HBI hk1 hk0
  go_wp2_with fail
  refine (bSign_any g z w1 HB1.out).mono ?_
  rintro e w2 ⟨rfl, rfl⟩
  go_wp2_with fail
  refine (Bytes_any g z hz w1 HB1.out).mono ?_
  rintro e w3 ⟨A, c, l, rfl, q1, q2, q3, hk3⟩
  have hBk := HBlk1.out.below hk3
  have hs3 := hk3.size
  have H := Lib.hid hBk
  have Q1 := Lib.hid q1
  have Q2 := Lib.hid q2
  have Q3 := Lib.hid q3
  have hkk3 := hkk1.trans (hk3.mono hkk1.size)
  clear q1 q2 q3 hBk HBlk1 hkk1 hk3
  go_wp2_with (refine wpList_store_row rfl 28 (.tmp 2) (.tmp 11) rfl (w.heap.size + 1) _ rfl rfl 28 _ H.out info_Val rfl (by simp [Value.oneCell']) ?_)
  refine bodyPost_blk (cs := #[.int .i64 2, .bool (decide (z < 0)), .slice A l.length c, .int .u64 0, .string ⟨#[]⟩, .slice none 0 0]) rfl rfl (setRow_heap _ _ _ _ _ _ H.out) Tryd.underlying28 rfl (by exact info_Val) rfl ?_
  refine ⟨_, rfl, ⟨A, c, l, rfl, Q1.out.setRow Q3.out (by omega) _, Q2.out, Q3.out.mono (by omega)⟩, below_setRow hkk3 (by omega) _⟩
set_option maxRecDepth 100000 in
set_option maxHeartbeats 1000000 in
/-- laws.is: true where both are one integer -/
theorem is_any (v x : Value) (z : Int) (w : World) (hv : VI w v z) (hx : SI w x z) :
    Calls Tryd.prog 5 #[v, x] w fun e w' => e = .returned (.bool true) ∧ Kept w w' := by
  obtain ⟨A, c, l, rfl, hs, hl⟩ := hv
  obtain ⟨A2, c2, l2, rfl, hs2, hl2⟩ := hx
  obtain rfl := hl.unique hl2
  have HS := Lib.hid hs
  have HS2 := Lib.hid hs2
  clear hs hs2 hl hl2
  generalize decide (z < 0) = b
  have hk0 := ((Below.refl w.heap.size w).alloc (Nat.le_refl _) (.cells #[.int .i64 2, .bool b, .slice A l.length c, .int .u64 0, .string ⟨#[]⟩, .slice none 0 0] 28)).alloc (by simp) (.cells #[.bool b, .slice A2 l.length c2] 24)
  have g1 : ((w.alloc (.cells #[.int .i64 2, .bool b, .slice A l.length c, .int .u64 0, .string ⟨#[]⟩, .slice none 0 0] 28)).alloc (.cells #[.bool b, .slice A2 l.length c2] 24)).cell? ⟨w.heap.size, 2, none⟩ = some (.slice A l.length c) :=
    ((Blk.new w 28 #[.int .i64 2, .bool b, .slice A l.length c, .int .u64 0, .string ⟨#[]⟩, .slice none 0 0]).below ((Below.refl _ _).alloc (Nat.le_refl _) _)).cell 2
  have g2 : ((w.alloc (.cells #[.int .i64 2, .bool b, .slice A l.length c, .int .u64 0, .string ⟨#[]⟩, .slice none 0 0] 28)).alloc (.cells #[.bool b, .slice A2 l.length c2] 24)).cell? ⟨w.heap.size + 1, 1, none⟩ = some (.slice A2 l.length c2) := by
    have := (Blk.new (w.alloc (.cells #[.int .i64 2, .bool b, .slice A l.length c, .int .u64 0, .string ⟨#[]⟩, .slice none 0 0] 28)) 24 #[.bool b, .slice A2 l.length c2]).cell 1
    rwa [World.size_alloc] at this
  go_enter Tryd.func5, Tryd.ntmps5
  go_wp2_with fail
  generalize ((w.alloc (.cells #[.int .i64 2, .bool b, .slice A l.length c, .int .u64 0, .string ⟨#[]⟩, .slice none 0 0] 28)).alloc (.cells #[.bool b, .slice A2 l.length c2] 24)) = W at *
  go_loopw [44] (fun iv wr => ∃ k : Nat, iv = .int .i64 k ∧ k ≤ l.length ∧ Kept W wr) (fun iv _ => l.length - (intOf iv).toNat)
  case atStart => exact ⟨0, rfl, Nat.zero_le _, Below.refl _ _⟩
  case round =>
    obtain ⟨k, rfl, hk, hbw⟩ := hrel
    have hkk := hk0.trans (hbw.mono hk0.size)
    by_cases hlt : k < l.length
    · obtain ⟨b1, off, rfl, hc⟩ := HS.out.at_ (by8_ne (by omega))
      obtain ⟨b2, off2, rfl, hc2⟩ := HS2.out.at_ (by8_ne (by omega))
      have q1 := hc k _ (by8_get l k hlt)
      have q2 := hc2 k _ (by8_get l k hlt)
      have r1 := (hkk.cell (p := ⟨b1, off + k, none⟩) (block_lt_of_cell q1)).trans q1
      have r2 := (hkk.cell (p := ⟨b2, off2 + k, none⟩) (block_lt_of_cell q2)).trans q2
      have r3 := (hbw.cell (p := ⟨w.heap.size, 2, none⟩) (block_lt_of_cell g1)).trans g1
      have r4 := (hbw.cell (p := ⟨w.heap.size + 1, 1, none⟩) (block_lt_of_cell g2)).trans g2
      have i1 : (0 : Int) ≤ (k : Int) := by omega
      have i2 : (k : Int) < (l.length : Int) := by omega
      generalize l[k]'hlt = d at *
      clear hc hc2 q1 q2 g1 g2
      go_wp2_with fail
      go_quiet (fail)
      go_wp2_with fail
      have hl63 : l.length ≤ maxLen := by have h1 := HS.out.cap; have h2 := HS.out.max; rw [by8_len] at h1; omega
      have hw64 : wrap64 ((k : Int) + 1) = ((k + 1 : Nat) : Int) := by unfold maxLen at hl63; unfold wrap64; omega
      rw [hw64]
      exact ⟨⟨k + 1, rfl, by omega, hbw.trans ⟨rfl, rfl, rfl, Nat.le_refl _, fun _ _ => rfl⟩⟩, by simp [intOf]; omega⟩
    · obtain rfl : k = l.length := by omega
      go_wp2_with fail
      go_ret
      exact ⟨rfl, hkk⟩
end Go.Proofs.YtikjdibngkcpkaaDoor
