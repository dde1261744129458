/- spec.Unquote walked over what quoting wrote. -/
import Derived.Test.YtmcemcpnhlmbhaaDoorBp
open Go.Lib
namespace Go.Proofs.YtmcemcpnhlmbhaaDoor
open Go.ChangeShapes Go.WideShapes Go.ChangeAt Go.RowKit
set_option linter.unusedVariables false
theorem rd_start (T : PrintTabs) (I s0 : ByteArray) (hI : bz I = Lib.quoteFrom T s0.size s0) : RdSt T ((bz I).drop 0) [] (bz s0) :=
  ⟨[], s0.size, s0, by rw [hI]; rfl, (by intro x hx; cases hx), Nat.le_refl _, rfl⟩
theorem own_nil (w : World) : Lib.OwnBuf w.heap.size 5 (.slice none 0 0) 0 [] w w := ⟨⟨rfl, .inl ⟨rfl, rfl⟩⟩, Below.refl _ _, Nat.le_refl _⟩
/-- a buffer's bytes as a text -/
theorem conv_own {B : Nat} {v : Value} {l : List Int} {W0 w : World} (h : Lib.OwnBuf B 5 v l.length (Lib.intCells l) W0 w) :
    (convert 26 9 v).run Tryd.prog w = .ok (.string (strOfNums l)) w := by
  rcases h.1.2 with ⟨hv, h0⟩ | ⟨g, cap, cur, fz, hv, _⟩
  · have hl : l = [] := List.eq_nil_of_length_eq_zero (by have := h.1.1; simp [Lib.intCells] at this; omega)
    subst hl hv
    rw [run_convert_bytes_nil w 26 5 Tryd.underlying26 Tryd.underlying5 0 0 9 Tryd.underlying9]
    rfl
  · have hc : ∀ i, i < l.length → w.cell? ⟨g, 0 + i, none⟩ = some (.int .u8 (l.getD i 0)) := fun i hi => by
      have := h.1.cells (g := g) (by rw [hv]; simp [Value.ownBlock]) i (.int .u8 (l.getD i 0)) (by simp [Lib.intCells, List.getD, List.getElem?_eq_getElem hi])
      by_cases hi0 : i = 0 <;> simpa [Addr.add, hi0] using this
    rw [hv]
    exact run_convert_bytes_arg w 26 5 Tryd.underlying26 Tryd.underlying5 g 0 _ cap l rfl hc 9 Tryd.underlying9
theorem wrap_pred (n : Nat) (h : n ≤ 21474836470) : wrap64 ((n : Int) + 2 - 1) = (n : Int) + 1 := by
  unfold wrap64
  omega
theorem wrap_place (p k n : Nat) (h : p + k ≤ n) (hn : n ≤ 21474836470) : wrap64 ((p : Int) + (k : Int)) = ((p + k : Nat) : Int) := by
  unfold wrap64
  omega
set_option maxHeartbeats 4000000 in
set_option maxRecDepth 1000000 in
theorem Unquote_any (T : PrintTabs) (s0 X : ByteArray) (hX : bz X = 98 :: 34 :: (Lib.quoteFrom T s0.size s0 ++ [34])) (hs0 : s0.size ≤ 2147483647) (w : World) :
    Calls Tryd.prog 4 #[.string X, .bool true] w fun e w' => e = .returned (.tuple #[.string s0, .bool true]) ∧ Kept w w' := by
  obtain ⟨i0, hinfo, hz0, hz1, hz2⟩ := info_parts (show (Tryd.prog.info? 5).map (fun i => (i.zero, i.size, i.bytes)) = some (some (.int .u8 0), 1, 1) by kernel_rfl)
  obtain ⟨n, hn⟩ : ∃ n, n = (Lib.quoteFrom T s0.size s0).length := ⟨_, rfl⟩
  have hXs : X.size = n + 3 := by rw [bz_size hX, hn]; simp
  obtain ⟨hx0, hx0v⟩ := bz_at hX 0 98 rfl
  obtain ⟨X1, hX1⟩ : ∃ X1, X1 = X.extract 1 X.size := ⟨_, rfl⟩
  have hb1 : bz X1 = 34 :: (Lib.quoteFrom T s0.size s0 ++ [34]) := by rw [hX1, bz_rest, hX]; rfl
  have hX1s : X1.size = n + 2 := by rw [bz_size hb1, hn]; simp
  obtain ⟨hy0, hy0v⟩ := bz_at hb1 0 34 rfl
  have hyl : ∃ h : n + 1 < X1.size, ((X1[n + 1]'h).toNat : Int) = 34 := bz_at hb1 (n + 1) 34 (by
    rw [List.getElem?_cons_succ, hn, List.getElem?_append_right (Nat.le_refl _)]
    simp)
  obtain ⟨hyl, hylv⟩ := hyl
  obtain ⟨I, hI⟩ : ∃ I, I = X1.extract 1 (n + 1) := ⟨_, rfl⟩
  have hbI : bz I = Lib.quoteFrom T s0.size s0 := by
    rw [hI, bz_extract, hb1, hn]
    simp
  have hIs : I.size = n := by rw [bz_size hbI, hn]
  have HR := Lib.hid (rd_start T I s0 hbI)
  have hn10 : n ≤ 10 * s0.size := by rw [hn]; exact Lib.quoteFrom_length_le T _ _
  have HN := Lib.hid hn10
  have e0 : X.extract 1 (n + 3) = X1 := by rw [hX1, hXs]
  have e1 : X1.extract 1 (n + 1) = I := hI.symm
  clear hX hX1 hb1 hI hbI hn hn10
  have hw := wrap_pred n (by have := HN.out; omega)
  have q0 : ¬ ((n : Int) + 3 = 0) := by omega
  have q2 : (1 : Int) ≤ (n : Int) + 1 := by omega
  have q1 : ¬ ((n : Int) + 2 < 2) := by omega
  go_enter Tryd.func4, Tryd.ntmps4
  go_wp2_with fail
  clear hw q0 q1 q2 e0 e1 hylv hyl hy0v hy0 hX1s hx0v hx0 hXs
  obtain ⟨B, hB⟩ : ∃ B, B = w.heap.size := ⟨_, rfl⟩
  have H0 : Hid (Lib.OwnBuf B 5 (.slice none 0 0) 0 [] w w) := Lib.hid (by rw [hB]; exact own_nil w)
  have HB : Hid (B = w.heap.size) := hB
  clear hB
  go_loopw [6, 7, 8, 9] (fun ov iv _ _ wr => ∃ (p : Nat) (o : List Int), iv = .int .i64 ((p : Nat) : Int) ∧ p ≤ n ∧ Hid (RdSt T ((bz I).drop p) o (bz s0)) ∧ Hid (Lib.OwnBuf B 5 ov o.length (Lib.intCells o) w wr)) (fun _ iv _ _ _ => n - (RowKit.intOf iv).toNat)
  case atStart => exact ⟨0, [], rfl, Nat.zero_le _, HR, H0⟩
  case round =>
    obtain ⟨p, o, rfl, hp, hrd, hown⟩ := hrel
    by_cases hlt : p < n
    · have hol : o.length ≤ 2147483647 := by
        have := rd_len hrd.out
        rw [bz_len] at this
        omega
      have hltI : (p : Int) < (n : Int) := by omega
      have hb := hown.out
      obtain ⟨cs, hcs⟩ : ∃ cs, cs = Lib.intCells o := ⟨_, rfl⟩
      obtain ⟨ol, hol2⟩ : ∃ ol, ol = o.length := ⟨_, rfl⟩
      rw [← hcs, ← hol2] at hb
      rw [← hol2] at hol
      have HCS := Lib.hid hcs
      have HOL := Lib.hid hol2
      clear hcs hol2
      rcases step_any T I p (by omega) o (bz s0) hrd.out with ⟨e, he, ⟨hi, hix⟩, hnx⟩ | ⟨ys, size, ⟨hi, hix⟩, hs0', hsz, hy4, hnx, hC⟩
      · have n34 : ¬ e = 34 := he.2.2.1
        have n10 : ¬ e = 10 := he.2.2.2.1
        have n13 : ¬ e = 13 := he.2.2.2.2.1
        have n92 : ¬ e = 92 := he.2.2.2.2.2
        have HNX := Lib.hid hnx
        have hwp : wrap64 ((p : Int) + 1) = ((p + 1 : Nat) : Int) := wrap_place p 1 n (by omega) (by have := HN.out; omega)
        clear hnx he
        go_big_wp2_with (at_builtin; refine Lib.wpList_append_byte rfl _ _ 26 rfl B 5 i0 Tryd.underlying26 hinfo hz0 hz1 hz2 _ _ _ rfl w _ _ (by assumption) rfl (by omega) ?_; intro _ _ hb)
        have hq : p + 1 ≤ n := by omega
        rw [hwp]
        clear hwp
        refine ⟨⟨p + 1, o ++ [e], rfl, hq, HNX, ?_⟩, by simp [RowKit.intOf]; omega⟩
        show Lib.OwnBuf B 5 _ _ _ w _
        have e1 : (o ++ [e]).length = ol + 1 := by rw [HOL.out]; simp
        have e2 : Lib.intCells (o ++ [e]) = cs ++ [.int .u8 e] := by rw [HCS.out]; simp [Lib.intCells]
        rw [e1, e2]
        exact hb
      · rw [hIs] at hC hsz
        have HNX := Lib.hid hnx
        have hs1 : ¬ ((size : Int) = 0) := by omega
        have hpn : (p : Int) ≤ (n : Int) := by omega
        have hw4 : ol + ys.length ≤ 140737488355328 := by omega
        have hwp := wrap_place p size n hsz (by have := HN.out; omega)
        have HC := Lib.hid hC
        have hown1 := hb
        clear hnx hC hb
        go_big_wp2_with fail
        refine (HC.out _).mono ?_
        rintro e w1 ⟨g, c, rfl, hcell, hk⟩
        have hb := buf_below hown1 hk
        have HK := Lib.hid hk
        clear hk hown1
        go_big_wp2_with (at_builtin; refine wpList_append_part rfl _ _ 26 rfl B 5 i0 Tryd.underlying26 hinfo hz0 hz1 hz2 _ _ _ rfl w (by assumption) g _ c ys rfl rfl hcell hw4 ?_; intro _ _ hb)
        rw [hwp]
        clear hwp
        refine ⟨⟨p + size, o ++ ys, rfl, hsz, HNX, ?_⟩, by simp [RowKit.intOf]; omega⟩
        show Lib.OwnBuf B 5 _ _ _ w _
        have e1 : (o ++ ys).length = ol + ys.length := by rw [HOL.out]; simp
        have e2 : Lib.intCells (o ++ ys) = cs ++ Lib.intCells ys := by rw [HCS.out]; simp [Lib.intCells]
        rw [e1, e2]
        exact hb
    · obtain rfl : p = n := by omega
      have ho : o = bz s0 := by
        have h1 := hrd.out
        rw [List.drop_of_length_le (by rw [bz_len]; omega)] at h1
        exact rd_end T o (bz s0) h1
      have HO := Lib.hid ho
      have hcv := conv_own hown.out
      have hk := hown.out.2.1
      rw [HB.out] at hk
      have HK := Lib.hid hk
      clear ho hk
      go_wp2_with fail
      go_returns
      exact ⟨by rw [HO.out, nums_bz]; rfl, HK.out⟩
end Go.Proofs.YtmcemcpnhlmbhaaDoor
