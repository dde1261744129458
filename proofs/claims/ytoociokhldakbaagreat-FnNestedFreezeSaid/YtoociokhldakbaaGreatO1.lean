/- Digits and carries. -/
import Derived.Test.YtoociokhldakbaaGreatNK
import Derived.Deep.RegionHeld3
namespace Go.Proofs.YtoociokhldakbaaGreat
open Go.ChangeShapes Go.WideShapes Go.ChangeAt Go.RowKit
set_option linter.unusedVariables false
namespace Num
/-- the i-th digit of N in base b, the lowest first -/
def dg (b N i : Nat) : Nat := N / b ^ i % b
theorem dg_lt {b : Nat} (hb : 0 < b) (N i : Nat) : dg b N i < b := Nat.mod_lt _ hb
theorem le_dg (b N : Nat) : ∀ n, le b ((List.range n).map (dg b N)) = N % b ^ n
  | 0 => by simp [le, Nat.mod_one]
  | n + 1 => by
    rw [List.range_succ, List.map_append, le_append, List.length_map, List.length_range, le_dg b N n, Nat.pow_succ, Nat.mod_mul]
    simp [le, dg]
theorem dg_le (b : Nat) : ∀ (l : List Nat) (i : Nat), (∀ d ∈ l, d < b) → dg b (le b l) i = l.getD i 0
  | [], i, _ => by simp [le, dg]
  | d :: t, 0, h => by
    have h1 := h d (List.mem_cons_self ..)
    simp [le, dg, Nat.mod_eq_of_lt h1]
  | d :: t, i + 1, h => by
    have h1 := h d (List.mem_cons_self ..)
    have ih := dg_le b t i (fun x hx => h x (List.mem_cons_of_mem _ hx))
    have hb : 0 < b := by omega
    have e : (d + b * le b t) / b = le b t := by rw [Nat.add_mul_div_left _ _ hb, Nat.div_eq_of_lt h1, Nat.zero_add]
    simp only [le, dg, List.getD_cons_succ] at ih ⊢
    rw [Nat.pow_succ, Nat.mul_comm (b ^ i) b, ← Nat.div_div_eq_div_mul, e]
    exact ih
/-- what is carried on to place i, where A and B are added -/
def cy (b A B i : Nat) : Nat := (A % b ^ i + B % b ^ i) / b ^ i
theorem cy_zero (b A B : Nat) : cy b A B 0 = 0 := by simp [cy, Nat.mod_one]
theorem cy_le {b : Nat} (hb : 0 < b) (A B i : Nat) : cy b A B i ≤ 1 := by
  have hP : 0 < b ^ i := Nat.pow_pos hb
  have h1 := Nat.mod_lt A hP
  have h2 := Nat.mod_lt B hP
  unfold cy
  have : (A % b ^ i + B % b ^ i) / b ^ i < 2 := Nat.div_lt_of_lt_mul (by omega)
  omega
theorem cy_last {b : Nat} (A B i : Nat) (h : A + B < b ^ i) : cy b A B i = 0 := by
  unfold cy
  rw [Nat.mod_eq_of_lt (by omega), Nat.mod_eq_of_lt (by omega)]
  exact Nat.div_eq_of_lt h
theorem cy_step {b : Nat} (hb : 0 < b) (A B i : Nat) : dg b (A + B) i + b * cy b A B (i + 1) = dg b A i + dg b B i + cy b A B i := by
  have hP : 0 < b ^ i := Nat.pow_pos hb
  have e1 : (A + B) / b ^ i = cy b A B i + (A / b ^ i + B / b ^ i) := by
    have e : A + B = (A % b ^ i + B % b ^ i) + b ^ i * (A / b ^ i + B / b ^ i) := by
      have h1 := Nat.div_add_mod A (b ^ i)
      have h2 := Nat.div_add_mod B (b ^ i)
      rw [Nat.mul_add]
      omega
    unfold cy
    conv => lhs; rw [e]
    rw [Nat.add_mul_div_left _ _ hP]
  have e2 : cy b A B (i + 1) = (dg b A i + dg b B i + cy b A B i) / b := by
    have e3 : (A % b ^ i + b ^ i * (A / b ^ i % b) + (B % b ^ i + b ^ i * (B / b ^ i % b))) / b ^ i = cy b A B i + (dg b A i + dg b B i) := by
      have e4 : A % b ^ i + b ^ i * (A / b ^ i % b) + (B % b ^ i + b ^ i * (B / b ^ i % b)) = A % b ^ i + B % b ^ i + b ^ i * (A / b ^ i % b + B / b ^ i % b) := by
        rw [Nat.mul_add]; omega
      rw [e4, Nat.add_mul_div_left _ _ hP]
      rfl
    conv => lhs; unfold cy
    rw [Nat.pow_succ, Nat.mod_mul, Nat.mod_mul, ← Nat.div_div_eq_div_mul, e3]
    congr 1
    omega
  have e5 : dg b (A + B) i = (dg b A i + dg b B i + cy b A B i) % b := by
    conv => lhs; unfold dg
    rw [e1]
    have e6 : ∀ x y c : Nat, (c + (x + y)) % b = (x % b + y % b + c) % b := fun x y c => by
      rw [Nat.add_comm (x % b + y % b) c, Nat.add_mod c (x % b + y % b), ← Nat.add_mod x y, ← Nat.add_mod]
    exact e6 _ _ _
  rw [e5, e2]
  exact Nat.mod_add_div _ _
/-- the digits of N, the highest first -/
def be (N n : Nat) : List Nat := ((List.range n).map (dg 256 N)).reverse
theorem be_len (N n : Nat) : (be N n).length = n := by simp [be]
theorem be_lt (N n : Nat) : ∀ d ∈ be N n, d < 256 := fun d hd => by
  simp only [be, List.mem_reverse, List.mem_map] at hd
  obtain ⟨i, _, rfl⟩ := hd
  exact dg_lt (by omega) _ _
theorem be_le (N n : Nat) (h : N < 256 ^ n) : le 256 (be N n).reverse = N := by
  rw [be, List.reverse_reverse, le_dg, Nat.mod_eq_of_lt h]
theorem be_get (N n j : Nat) (h : j < n) : (be N n)[j]? = some (dg 256 N (n - 1 - j)) := by
  unfold be
  rw [List.getElem?_reverse (by simpa using h)]
  simp only [List.length_map, List.length_range, List.getElem?_map]
  rw [List.getElem?_range (by omega)]
  rfl
end Num
/-- the number of digits in base 256, the highest first -/
def beN (l : List Nat) : Nat := Num.le 256 l.reverse
theorem beN_cons (d : Nat) (t : List Nat) : beN (d :: t) = beN t + 256 ^ t.length * d := by
  simp only [beN, List.reverse_cons, Num.le_append, List.length_reverse]
  simp [Num.le]
theorem beN_lt (l : List Nat) (h : ∀ d ∈ l, d < 256) : beN l < 256 ^ l.length := by
  have := Num.le_lt 256 (by omega) l.reverse (fun d hd => h d (by simpa using hd))
  rwa [List.length_reverse] at this
theorem BE.num {l : List Nat} {N : Nat} (h : BE l N) : beN l = N := h.2
theorem beN_cmp : ∀ (k : Nat) (l m : List Nat), l.length = m.length → (∀ d ∈ l, d < 256) → (hl : k < l.length) → (hm : k < m.length) → (∀ j (h : j < l.length) (h' : j < m.length), j < k → l[j] = m[j]) → l[k] < m[k] → beN l < beN m
  | k, [], _, _, _, hl, _, _, _ => by simp at hl
  | k, _ :: _, [], _, _, _, hm, _, _ => by simp at hm
  | 0, d :: t, e :: u, hlen, h, _, _, _, hk => by
    simp only [List.getElem_cons_zero] at hk
    have h1 := beN_lt t (fun x hx => h x (List.mem_cons_of_mem _ hx))
    have hlen' : t.length = u.length := by simpa using hlen
    rw [beN_cons, beN_cons, ← hlen']
    have := Nat.mul_le_mul_left (256 ^ t.length) (show d + 1 ≤ e from hk)
    rw [Nat.mul_add, Nat.mul_one] at this
    omega
  | k + 1, d :: t, e :: u, hlen, h, hl, hm, heq, hk => by
    have h0 := heq 0 (by simp) (by simp) (by omega)
    simp only [List.getElem_cons_zero] at h0
    subst h0
    have hlen' : t.length = u.length := by simpa using hlen
    have ih := beN_cmp k t u hlen' (fun x hx => h x (List.mem_cons_of_mem _ hx)) (by simpa using hl) (by simpa using hm)
      (fun j h1 h2 hj => by have := heq (j + 1) (by simpa using h1) (by simpa using h2) (by omega); simpa using this) (by simpa using hk)
    rw [beN_cons, beN_cons, hlen']
    omega
theorem BE.shorter {l m : List Nat} {A B : Nat} (ha : BE l A) (hb : BE m B) (h : l.length < m.length) : A < B := by
  have h1 := beN_lt l ha.lt
  rw [ha.num] at h1
  obtain ⟨d, t, rfl⟩ : ∃ d t, m = d :: t := by cases m with | nil => simp at h | cons d t => exact ⟨d, t, rfl⟩
  have h2 := hb.num
  rw [beN_cons] at h2
  have hd : d ≠ 0 := by
    have h3 : (d :: t).reverse ≠ [] := by simp
    have := hb.1.top h3
    simpa using this
  have h4 : 256 ^ l.length ≤ 256 ^ t.length := Nat.pow_le_pow_right (by omega) (by simpa using Nat.lt_succ_iff.1 h)
  have h5 := Nat.mul_le_mul_left (256 ^ t.length) (show 1 ≤ d by omega)
  omega
theorem BE.inj {l : List Nat} {A B : Nat} (ha : BE l A) (hb : BE l B) : A = B := ha.num.symm.trans hb.num
def ord (A B : Nat) : Int := if A < B then -1 else if A = B then 0 else 1
theorem ord_lt {A B : Nat} (h : A < B) : ord A B = -1 := if_pos h
theorem ord_eq {A B : Nat} (h : A = B) : ord A B = 0 := by unfold ord; rw [if_neg (by omega), if_pos h]
theorem ord_gt {A B : Nat} (h : B < A) : ord A B = 1 := by unfold ord; rw [if_neg (by omega), if_neg (by omega)]
theorem ret_i64 {a b : Int} (h : a = b) : Ending.returned (.int .i64 a) = .returned (.int .i64 b) := by rw [h]
theorem rdg (l : List Nat) (h : ∀ d ∈ l, d < 256) (i : Nat) (hi : i < l.length) : Num.dg 256 (beN l) i = l[l.length - 1 - i]'(by omega) := by
  unfold beN
  rw [Num.dg_le 256 l.reverse i (fun d hd => h d (by simpa using hd)), Num.rev_getD l i hi, List.getD_eq_getElem?_getD, List.getElem?_eq_getElem (by omega), Option.getD_some]
theorem rdg_big (l : List Nat) (h : ∀ d ∈ l, d < 256) (i : Nat) (hi : l.length ≤ i) : Num.dg 256 (beN l) i = 0 := by
  unfold beN
  rw [Num.dg_le 256 l.reverse i (fun d hd => h d (by simpa using hd)), List.getD_eq_getElem?_getD, List.getElem?_eq_none (by simpa using hi)]
  rfl
set_option maxRecDepth 100000 in
theorem digit_any (A : Option Addr) (c : Nat) (l : List Nat) (hd : ∀ d ∈ l, d < 256) (i : Nat) (hi : i ≤ 2147483647) (w : World) (hs : Sl w A c (by8 l)) :
    Calls Tryz.prog 78 #[.slice A l.length c, .int .i64 i] w fun e w' => e = .returned (.int .i64 ((Num.dg 256 (beN l) i : Nat) : Int)) ∧ w = w' := by
  have hcap := hs.cap
  have hmax := hs.max
  rw [by8_len] at hcap
  unfold maxLen at hmax
  by_cases hlt : i < l.length
  · have hdg := rdg l hd i hlt
    obtain ⟨b, off, rfl, hc⟩ := hs.at_ (by8_ne (by omega))
    have hck := hc (l.length - 1 - i) _ (by8_get l (l.length - 1 - i) (by omega))
    have hx := hd _ (List.getElem_mem (show l.length - 1 - i < l.length by omega))
    have hlt' : ¬ ((l.length : Int) ≤ (i : Int)) := by omega
    rw [hdg]
    clear hc hs hdg
    generalize l[l.length - 1 - i]'(by omega) = x at *
    have e1 : (l.length : Int) - 1 - (i : Int) = ((l.length - 1 - i : Nat) : Int) := by omega
    have e2 : ((l.length - 1 - i : Nat) : Int) < (l.length : Int) := by omega
    have e3 : (0 : Int) ≤ ((l.length - 1 - i : Nat) : Int) := by omega
    generalize l.length - 1 - i = k at *
    go_enter Tryz.func78, Tryz.ntmps78
    go_wp2
    go_ret
    exact ⟨rfl, rfl⟩
  · have hdg := rdg_big l hd i (by omega)
    rw [hdg]
    have hlt' : (l.length : Int) ≤ (i : Int) := by omega
    clear hdg
    go_enter Tryz.func78, Tryz.ntmps78
    go_wp2
    go_ret
    exact ⟨rfl, rfl⟩
set_option maxRecDepth 100000 in
set_option maxHeartbeats 1000000 in
theorem order_any (A B : Option Addr) (c k : Nat) (l m : List Nat) (X Y : Nat) (hl : BE l X) (hm : BE m Y) (w : World) (hs : Sl w A c (by8 l)) (ht : Sl w B k (by8 m)) :
    Calls Tryz.prog 63 #[.slice A l.length c, .slice B m.length k] w fun e w' => e = .returned (.int .i64 (ord X Y)) ∧ Kept w w' := by
  have hmx : l.length ≤ 9223372036854775807 := by have h1 := hs.cap; have h2 := hs.max; rw [by8_len] at h1; unfold maxLen at h2; omega
  have HS := Lib.hid hs
  have HT := Lib.hid ht
  have HL := Lib.hid hl
  have HM := Lib.hid hm
  clear hs ht hl hm
  by_cases hlen : l.length = m.length
  · have e1 : ((l.length : Int) != (m.length : Int)) = false := by simp [hlen]
    have hlenI : (l.length : Int) = (m.length : Int) := by omega
    have HLEN := Lib.hid hlen
    have hle : (l.length : Int) ≤ (m.length : Int) := by omega
    clear hlen hlenI
    go_enter Tryz.func63, Tryz.ntmps63
    go_wp2_with fail
    go_loopw [5] (fun iv wr => ∃ j : Nat, iv = .int .i64 j ∧ j ≤ l.length ∧ Kept w wr ∧ Hid (∀ q (h : q < l.length) (h' : q < m.length), q < j → l[q] = m[q])) (fun iv _ => l.length - (intOf iv).toNat)
    case atStart => exact ⟨0, rfl, Nat.zero_le _, Below.refl _ _, fun q _ _ h => absurd h (Nat.not_lt_zero _)⟩
    case round =>
      obtain ⟨j, rfl, hj, hbr, HQ⟩ := hrel
      by_cases hlt : j < l.length
      · have hltm : j < m.length := by have := HLEN.out; omega
        obtain ⟨b1, o1, rfl, hc1⟩ := HS.out.at_ (by8_ne (by omega))
        obtain ⟨b2, o2, rfl, hc2⟩ := HT.out.at_ (by8_ne (by omega))
        have q1 := hc1 j _ (by8_get l j hlt)
        have q2 := hc2 j _ (by8_get m j hltm)
        have r1 := (hbr.cell (p := ⟨b1, o1 + j, none⟩) (block_lt_of_cell q1)).trans q1
        have r2 := (hbr.cell (p := ⟨b2, o2 + j, none⟩) (block_lt_of_cell q2)).trans q2
        have i0 : (0 : Int) ≤ (j : Int) := by omega
        have i1 : (j : Int) < (l.length : Int) := by omega
        have i2 : (j : Int) < (m.length : Int) := by omega
        have HF1 : Hid (l[j] < m[j] → X < Y) := Lib.hid fun h => by
          have := beN_cmp j l m HLEN.out HL.out.lt hlt hltm (fun q a b h' => HQ.out q a b h') h
          rwa [HL.out.num, HM.out.num] at this
        have HF2 : Hid (m[j] < l[j] → Y < X) := Lib.hid fun h => by
          have := beN_cmp j m l HLEN.out.symm HM.out.lt hltm hlt (fun q a b h' => (HQ.out q b a h').symm) h
          rwa [HL.out.num, HM.out.num] at this
        have HE : Hid (l[j] = m[j] → ∀ q (h : q < l.length) (h' : q < m.length), q < j + 1 → l[q] = m[q]) := Lib.hid fun h q a b h' => by
          by_cases e : q = j
          · subst e; exact h
          · exact HQ.out q a b (by omega)
        clear hc1 hc2 q1 q2
        generalize l[j] = x at *
        generalize m[j] = y at *
        rcases Nat.lt_trichotomy x y with h | h | h
        · have HG := Lib.hid (HF1.out h)
          have n1 : (((x : Nat) : Int) != ((y : Nat) : Int)) = true := by simp; omega
          have n2 : ((x : Nat) : Int) < ((y : Nat) : Int) := by omega
          clear h
          go_wp2_with fail
          go_quiet (fail)
          go_wp2_with fail
          go_quiet (fail)
          go_wp2_with fail
          go_ret
          exact ⟨ret_i64 (ord_lt HG.out).symm, hbr.trans ⟨rfl, rfl, rfl, Nat.le_refl _, fun _ _ => rfl⟩⟩
        · subst h
          have HG := Lib.hid (HE.out rfl)
          have n1 : (((x : Nat) : Int) != ((x : Nat) : Int)) = false := by simp
          go_wp2_with fail
          go_quiet (fail)
          go_wp2_with fail
          have hw64 : wrap64 ((j : Int) + 1) = ((j + 1 : Nat) : Int) := by unfold wrap64; omega
          first
            | exact ⟨⟨j + 1, by go_num, by omega, hbr.trans ⟨rfl, rfl, rfl, Nat.le_refl _, fun _ _ => rfl⟩, HG⟩, by simp [intOf]; omega⟩
            | (rw [hw64]; exact ⟨⟨j + 1, rfl, by omega, hbr.trans ⟨rfl, rfl, rfl, Nat.le_refl _, fun _ _ => rfl⟩, HG⟩, by simp [intOf]; omega⟩)
        · have HG := Lib.hid (HF2.out h)
          have n1 : (((x : Nat) : Int) != ((y : Nat) : Int)) = true := by simp; omega
          have n2 : ¬ x < y := by omega
          have n3 : decide (x < y) = false := decide_eq_false n2
          clear h
          go_wp2_with fail
          go_quiet (fail)
          go_wp2_with fail
          go_quiet (fail)
          go_wp2_with fail
          go_ret
          exact ⟨ret_i64 (ord_gt HG.out).symm, hbr.trans ⟨rfl, rfl, rfl, Nat.le_refl _, fun _ _ => rfl⟩⟩
      · obtain rfl : j = l.length := by omega
        go_wp2_with fail
        go_ret
        have hml : l = m := List.ext_getElem HLEN.out (fun q h h' => HQ.out q h h' h)
        refine ⟨ret_i64 (ord_eq ?_).symm, hbr⟩
        have h1 := HL.out
        rw [hml] at h1
        exact h1.inj HM.out
  · rcases Nat.lt_or_gt_of_ne hlen with h | h
    · have HG := Lib.hid (HL.out.shorter HM.out h)
      have e1 : ((l.length : Int) != (m.length : Int)) = true := by simp; omega
      have e2 : (l.length : Int) < (m.length : Int) := by omega
      clear hlen h
      go_enter Tryz.func63, Tryz.ntmps63
      go_wp2_with fail
      go_ret
      exact ⟨ret_i64 (ord_lt HG.out).symm, Below.refl _ _⟩
    · have HG := Lib.hid (HM.out.shorter HL.out h)
      have e1 : ((l.length : Int) != (m.length : Int)) = true := by simp; omega
      have e2 : ¬ l.length < m.length := by omega
      have e3 : decide (l.length < m.length) = false := decide_eq_false e2
      clear hlen h
      go_enter Tryz.func63, Tryz.ntmps63
      go_wp2_with fail
      go_ret
      exact ⟨ret_i64 (ord_gt HG.out).symm, Below.refl _ _⟩
end Go.Proofs.YtoociokhldakbaaGreat
