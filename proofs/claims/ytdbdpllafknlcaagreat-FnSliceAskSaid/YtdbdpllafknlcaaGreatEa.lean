/- The ends that three parts ask for; the reference's end; 32 bits -/
import Derived.Test.YtdbdpllafknlcaaGreatSe
import Derived.Laws.EntriesVeiled
namespace Go.Proofs.YtdbdpllafknlcaaGreat
open Go.ChangeShapes Go.WideShapes Go.ChangeAt Go.RowKit
set_option linter.unusedVariables false
/-- how many numbers a range has -/
def cnt (a b s : Int) : Int := if 0 < s ∧ a < b then (b - 1 - a) / s + 1 else if s < 0 ∧ b < a then (a - 1 - b) / (-s) + 1 else 0
theorem div_up (x s : Int) (hs : 0 < s) : (x + s) / s = x / s + 1 := by
  have := Int.add_mul_ediv_right x 1 (show s ≠ 0 by omega)
  rwa [Int.one_mul] at this
theorem div_bd (x s : Int) (hx : 0 ≤ x) (hs : 0 < s) : 0 ≤ x / s ∧ x / s ≤ x := ⟨Int.ediv_nonneg hx (by omega), Int.ediv_le_self s hx⟩
theorem ret_bool {a b : Bool} (h : a = b) : Ending.returned (.bool a) = .returned (.bool b) := by rw [h]
set_option maxRecDepth 100000 in
theorem Count_any (a b s : Int) (a1 : -2147483648 ≤ a) (a2 : a ≤ 2147483647) (b1 : -2147483648 ≤ b) (b2 : b ≤ 2147483647) (s1 : -2147483648 ≤ s) (s2 : s ≤ 2147483647) (w : World) :
    Calls Tryz.prog 8 #[.int .i64 a, .int .i64 b, .int .i64 s] w fun e w' => e = .returned (.int .i64 (cnt a b s)) ∧ w = w' := by
  by_cases hp : 0 < s ∧ a < b
  · obtain ⟨p1, p2⟩ := hp
    have hc : (b - a + s - 1) / s = cnt a b s := by
      unfold cnt; rw [if_pos ⟨p1, p2⟩, ← div_up _ _ p1]; congr 1; omega
    have HC := Lib.hid hc
    have hb := div_bd (b - a + s - 1) s (by omega) p1
    obtain ⟨d1, d2⟩ := hb
    clear hc
    go_enter Tryz.func8, Tryz.ntmps8
    go_wp2_with fail
    go_ret
    exact ⟨ret_i64 HC.out, rfl⟩
  · by_cases hn : s < 0 ∧ b < a
    · obtain ⟨p1, p2⟩ := hn
      obtain ⟨t, rfl⟩ : ∃ t, s = -t := ⟨-s, by omega⟩
      have t1 : 1 ≤ t := by omega
      have hc : (a - b + t - 1) / t = cnt a b (-t) := by
        unfold cnt; rw [if_neg hp, if_pos ⟨p1, p2⟩, Int.neg_neg, ← div_up _ _ (by omega)]; congr 1; omega
      have HC := Lib.hid hc
      have hb := div_bd (a - b + t - 1) t (by omega) (by omega)
      obtain ⟨d1, d2⟩ := hb
      clear hc hp
      go_enter Tryz.func8, Tryz.ntmps8
      go_wp2_with fail
      go_ret
      exact ⟨ret_i64 HC.out, rfl⟩
    · have hc : 0 = cnt a b s := by unfold cnt; rw [if_neg hp, if_neg hn]
      have HC := Lib.hid hc
      have hd : (s ≤ 0 ∨ (0 < s ∧ b ≤ a)) ∧ (0 ≤ s ∨ (s < 0 ∧ a ≤ b)) := by omega
      clear hc hp hn
      rcases hd with ⟨h1 | ⟨h1, h1'⟩, h2 | ⟨h2, h2'⟩⟩
      all_goals
        first
          | (exfalso; omega)
          | (go_enter Tryz.func8, Tryz.ntmps8
             go_wp2_with fail
             go_ret
             exact ⟨ret_i64 HC.out, rfl⟩)
theorem w32_in (n : Int) : -2147483648 ≤ wrap32 n ∧ wrap32 n ≤ 2147483647 := by unfold wrap32; omega
theorem w64_of (n : Int) (h1 : -2147483648 ≤ n) (h2 : n ≤ 2147483647) : wrap64 n = n := by unfold wrap64; omega
def InR (k : Int) : Prop := -2147483648 ≤ k ∧ k ≤ 2147483647
set_option maxRecDepth 100000 in
theorem errNew_any (s : ByteArray) (w : World) :
    Calls Tryz.prog 29 #[.string s] w fun e w' => (∃ u, e = .returned (.iface 103 u)) ∧ Kept w w' := by
  go_enter Tryz.func29, Tryz.ntmps29
  go_wp2_with fail
  go_ret
  exact ⟨⟨_, rfl⟩, by go_grown⟩
/-- what AsInt32 hands back -/
def RetI32 (w : World) (z : Int) (e : Ending) (w' : World) : Prop :=
  ((Sm z = true ∧ e = .returned (.tuple #[.int .i64 z, .nilIface])) ∨ (Sm z = false ∧ ∃ u, e = .returned (.tuple #[.int .i64 0, .iface 103 u]))) ∧ Kept w w'
set_option maxRecDepth 100000 in
theorem AsInt32_any (x : Int) (p : Option Addr) (z : Int) (w : World) (hv : StI w (.agg #[.int .i64 x, .pointer p]) z) :
    Calls Tryz.prog 30 #[.iface 76 (.agg #[.int .i64 x, .pointer p])] w (RetI32 w z) := by
  have hf : ∀ W : World, (Instr.typeAssert (.iface 76 (.agg #[.int .i64 x, .pointer p])) 48 76 true).run Tryz.prog W = .ok (.tuple #[.agg #[.int .i64 x, .pointer p], .bool true]) W := fun _ => by kernel_rfl
  have hk0 : Kept w (w.alloc (.cells #[.int .i64 x, .pointer p] 76)) := by go_grown
  rcases hv with ⟨e, hs⟩ | ⟨g, e, hb, hs⟩
  · injection e with e; injection e with e; injection e with e1 e2; injection e2 with e2 _; injection e1 with _ e1; injection e2 with e2; subst e1 e2
    go_enter Tryz.func30, Tryz.ntmps30
    go_wp2_with fail
    refine (get_any x none _).mono ?_
    rintro e w1 ⟨rfl, hk1⟩
    have hkk := (alloc_kept hk1).1
    go_wp2_with fail
    go_ret2
    exact ⟨.inl ⟨hs, rfl⟩, hkk⟩
  · injection e with e; injection e with e; injection e with e1 e2; injection e2 with e2 _; injection e1 with _ e1; injection e2 with e2; subst e1 e2
    clear hb
    go_enter Tryz.func30, Tryz.ntmps30
    go_wp2_with fail
    refine (get_any 0 (some ⟨g, 0, none⟩) _).mono ?_
    rintro e w1 ⟨rfl, hk1⟩
    have hkk := (alloc_kept hk1).1
    go_wp2_with fail
    refine (errNew_any _ _).mono ?_
    rintro e w2 ⟨⟨u, rfl⟩, hk2⟩
    go_wp2_with fail
    go_ret2
    exact ⟨.inr ⟨hs, u, rfl⟩, hkk.trans hk2⟩
/-! ### which slice three parts ask for, plainly: the reference's ends against the implementation's -/
/-- a part, counted from the end on below 0 -/
def idx (n : Int) (x : Option Int) (dflt : Int) : Int := match x with
  | none => dflt
  | some i => if i < 0 then i + n else i
/-- the reference's end: what lacks is the outer one -/
def endR (n : Int) (x : Option Int) (other s : Int) : Int := match x with
  | none => other
  | some _ => if 0 < s then max 0 (min (idx n x 0) n) else max (-1) (min (idx n x 0) (n - 1))
def clI (n x : Int) : Int := if x < 0 then 0 else if n < x then n else x
def aI (n s : Int) (lo hi : Option Int) : Int :=
  if 0 < s then clI n (idx n lo 0)
  else
    let a := if n ≤ idx n lo (n - 1) then n - 1 else idx n lo (n - 1)
    let b := if idx n hi (-1) < -1 then -1 else idx n hi (-1)
    if a < b then b else a
def bI (n s : Int) (lo hi : Option Int) : Int :=
  if 0 < s then (if clI n (idx n hi n) < clI n (idx n lo 0) then clI n (idx n lo 0) else clI n (idx n hi n))
  else if idx n hi (-1) < -1 then -1 else idx n hi (-1)
def fR (n s : Int) (lo : Option Int) : Int := endR n lo (if 0 < s then 0 else n - 1) s
def tR (n s : Int) (hi : Option Int) : Int := endR n hi (if 0 < s then n else -1) s
theorem ask_key (n s : Int) (lo hi : Option Int) (hn : 0 ≤ n) (hs : s ≠ 0) :
    (aI n s lo hi = fR n s lo ∧ bI n s lo hi = tR n s hi) ∨ (aI n s lo hi = bI n s lo hi ∧ (0 < s → ¬ fR n s lo < tR n s hi) ∧ (s < 0 → ¬ tR n s hi < fR n s lo)) := by
  rcases Int.lt_or_gt_of_ne hs with h | h
  · have h1 : ¬ 0 < s := by omega
    cases lo <;> cases hi <;> simp only [aI, bI, fR, tR, endR, idx, h, h1, if_false, false_imp_iff, true_imp_iff, true_and] <;> omega
  · have h1 : ¬ s < 0 := by omega
    cases lo <;> cases hi <;> simp only [aI, bI, fR, tR, endR, idx, clI, h, h1, if_true, false_imp_iff, true_imp_iff, and_true] <;> omega
theorem cnt_none {f t s : Int} (h1 : 0 < s → ¬ f < t) (h2 : s < 0 → ¬ t < f) : cnt f t s = 0 := by
  unfold cnt
  rw [if_neg (fun h => h1 h.1 h.2), if_neg (fun h => h2 h.1 h.2)]
theorem ask_count (n s : Int) (lo hi : Option Int) (hn : 0 ≤ n) (hs : s ≠ 0) : cnt (aI n s lo hi) (bI n s lo hi) s = cnt (fR n s lo) (tR n s hi) s := by
  rcases ask_key n s lo hi hn hs with ⟨h1, h2⟩ | ⟨h1, h2, h3⟩
  · rw [h1, h2]
  · rw [cnt_none h2 h3, h1]
    exact cnt_none (fun _ => by omega) (fun _ => by omega)
theorem ask_first (n s : Int) (lo hi : Option Int) (hn : 0 ≤ n) (hs : s ≠ 0) (h : 0 < cnt (fR n s lo) (tR n s hi) s) : aI n s lo hi = fR n s lo := by
  rcases ask_key n s lo hi hn hs with ⟨h1, _⟩ | ⟨_, h2, h3⟩
  · exact h1
  · rw [cnt_none h2 h3] at h
    omega
theorem ask_bounds (n s : Int) (lo hi : Option Int) (hn : 0 ≤ n) (hs : s ≠ 0) :
    (0 < s ∧ 0 ≤ aI n s lo hi ∧ aI n s lo hi ≤ bI n s lo hi ∧ bI n s lo hi ≤ n) ∨ (s < 0 ∧ -1 ≤ bI n s lo hi ∧ bI n s lo hi ≤ aI n s lo hi ∧ aI n s lo hi < max n 1) ∨ cnt (fR n s lo) (tR n s hi) s = 0 := by
  rcases Int.lt_or_gt_of_ne hs with h | h
  · right
    have h1 : ¬ 0 < s := by omega
    by_cases hc : tR n s hi < fR n s lo
    · left
      refine ⟨h, ?_⟩
      revert hc
      cases lo <;> cases hi <;> simp only [aI, bI, fR, tR, endR, idx, h1, if_false] <;> omega
    · right
      exact cnt_none (fun h2 => absurd h2 h1) (fun _ => hc)
  · left
    refine ⟨h, ?_⟩
    cases lo <;> cases hi <;> simp only [aI, bI, idx, clI, h, if_true] <;> omega
set_option maxRecDepth 100000 in
theorem end_any (n : Nat) (hn : n ≤ 2147483647) (b : Bool) (i other s : Int) (i1 : -2147483648 ≤ i) (i2 : i ≤ 2147483647) (w : World) :
    Calls Tryz.prog 14 #[.int .i64 n, .bool b, .int .i64 i, .int .i64 other, .int .i64 s] w fun e w' => e = .returned (.int .i64 (endR n (if b then none else some i) other s)) ∧ w = w' := by
  cases b
  · have hR : endR n (if false then none else some i) other s = if 0 < s then max 0 (min (if i < 0 then i + n else i) n) else max (-1) (min (if i < 0 then i + n else i) (n - 1)) := rfl
    rw [hR]
    clear hR
    by_cases hi : i < 0
    · by_cases hs : 0 < s
      · simp only [hi, hs, if_true]
        go_enter Tryz.func14, Tryz.ntmps14
        go_wp2_with fail
        go_ret
        exact ⟨rfl, rfl⟩
      · simp only [hi, hs, if_true, if_false]
        go_enter Tryz.func14, Tryz.ntmps14
        go_wp2_with fail
        go_ret
        exact ⟨rfl, rfl⟩
    · by_cases hs : 0 < s
      · simp only [hi, hs, if_true, if_false]
        go_enter Tryz.func14, Tryz.ntmps14
        go_wp2_with fail
        go_ret
        exact ⟨rfl, rfl⟩
      · simp only [hi, hs, if_false]
        go_enter Tryz.func14, Tryz.ntmps14
        go_wp2_with fail
        go_ret
        exact ⟨rfl, rfl⟩
  · go_enter Tryz.func14, Tryz.ntmps14
    go_wp2_with fail
    go_ret
    exact ⟨rfl, rfl⟩
end Go.Proofs.YtdbdpllafknlcaaGreat
