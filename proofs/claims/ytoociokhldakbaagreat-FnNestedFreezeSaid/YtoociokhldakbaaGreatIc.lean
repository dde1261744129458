/- The package's integers: out of bytes, negated, copied, how many bits, as the language has them. -/
import Derived.Lib.ItoaNum
import Derived.Test.YtoociokhldakbaaGreatSh
import Derived.Deep.RegionHeld3
import Derived.Lib.Builder
import Derived.LaidEqlPtr
import Derived.Test.YtoociokhldakbaaGreatIb
namespace Go.Proofs.YtoociokhldakbaaGreat
open Go.ChangeShapes Go.WideShapes Go.ChangeAt Go.RowKit
set_option linter.unusedVariables false
namespace Num
theorem le_ge (b : Nat) (hb : 0 < b) : ∀ (l : List Nat), Can b l → l ≠ [] → b ^ (l.length - 1) ≤ le b l
  | [], _, h => absurd rfl h
  | [d], h, _ => by
    have := h.top (by simp)
    simp at this
    simp [le]; omega
  | d :: e :: t, h, _ => by
    have ih := le_ge b hb (e :: t) h.tail (by simp)
    have e1 : (d :: e :: t).length - 1 = ((e :: t).length - 1) + 1 := by simp
    rw [e1, Nat.pow_succ]
    have h2 : le b (d :: e :: t) = d + b * le b (e :: t) := rfl
    rw [h2, Nat.mul_comm (b ^ _)]
    have := Nat.mul_le_mul_left b ih
    omega
theorem len_lt (b : Nat) (hb : 1 < b) (l : List Nat) (h : Can b l) (k : Nat) (hk : le b l < b ^ k) : l.length ≤ k := by
  rcases Classical.em (l = []) with h0 | h0
  · subst h0; simp
  · have h1 := le_ge b (by omega) l h h0
    have h2 : b ^ (l.length - 1) < b ^ k := Nat.lt_of_le_of_lt h1 hk
    have h3 := (Nat.pow_lt_pow_iff_right hb).1 h2
    omega
/-- a bound that no number here comes to: as many bytes, as many words -/
def capK : Nat := 4096
def capW : Nat := 512
def Cap : Nat := 256 ^ capK
theorem Cap_eq : Cap = B64 ^ capW := by
  have h : capK = 8 * capW := rfl
  unfold Cap
  rw [B64_eq, ← Nat.pow_mul, h]
end Num
theorem LW.len {ws : List Nat} {N : Nat} (h : LW ws N) (hN : N < Num.Cap) : ws.length ≤ 512 :=
  Num.len_lt Num.B64 (by decide) ws h.1 Num.capW (by rw [h.2, ← Num.Cap_eq]; exact hN)
theorem BE.len {l : List Nat} {N : Nat} (h : BE l N) (hN : N < Num.Cap) : l.length ≤ 4096 := by
  have := Num.len_lt 256 (by decide) l.reverse h.1 Num.capK (by rw [h.2]; exact hN)
  rwa [List.length_reverse] at this
/-- the package's integer in block g is z -/
def BI (w : World) (g : Nat) (z : Int) : Prop :=
  ∃ A c ws, Blk w g 94 #[.bool (decide (z < 0)), .slice A ws.length c] ∧ Sl w A c (w64 ws) ∧ LW ws z.natAbs ∧ (∀ b off, A = some ⟨b, off, none⟩ → b ≠ g)
def BI0 (w : World) (g : Nat) : Prop := Blk w g 94 #[.bool false, .slice none 0 0]
def RetP (w : World) (g : Nat) (z : Int) (e : Ending) (w' : World) : Prop := e = .returned (.pointer (some ⟨g, 0, none⟩)) ∧ BI w' g z ∧ w.grownBy w' (some g)
theorem Blk.set {w : World} {g : Nat} {t : TypeId} {cs : Array Value} (h : Blk w g t cs) (i : Nat) (u : Value) : Blk (w.setCell ⟨g, i, none⟩ u) g t (cs.setIfInBounds i u) := heap_setCell_same w g i cs t u h
theorem Blk.far {w : World} {g : Nat} {t : TypeId} {cs : Array Value} (h : Blk w g t cs) {k i : Nat} (hk : g ≠ k) (u : Value) : Blk (w.setCell ⟨k, i, none⟩ u) g t cs := (heap_setCell_other w ⟨k, i, none⟩ g u hk).trans h
theorem only_of_kept {w w' : World} (h : Kept w w') (row : Option Nat) : w.grownBy w' row := ⟨h.os, h.tape, h.output, h.size, fun i hi _ => h.block i hi⟩
theorem only_set {w W : World} {g : Nat} (h : w.grownBy W (some g)) (i : Nat) (u : Value) : w.grownBy (W.setCell ⟨g, i, none⟩ u) (some g) :=
  ⟨h.os, h.tape, h.output, by simpa [World.setCell] using h.size, fun k hk hne => (Below.heap_setCell W ⟨g, i, none⟩ u k (fun e => hne (by rw [e]))).trans (h.block k hk hne)⟩
theorem kept_of_only {B : Nat} {w W w' : World} {g : Nat} (hb : Below B w W) (h : W.grownBy w' (some g)) (hB : B ≤ g) (hz : B ≤ W.heap.size) : Below B w w' :=
  hb.grown h hz (fun k hk => by injection hk with hk; omega)
theorem Sl.setFar {w : World} {A : Option Addr} {c : Nat} {xs : List Value} (h : Sl w A c xs) {g i : Nat} (hg : ∀ b off, A = some ⟨b, off, none⟩ → b ≠ g) (u : Value) : Sl (w.setCell ⟨g, i, none⟩ u) A c xs :=
  h.far hg (fun k _ hne => Below.heap_setCell w ⟨g, i, none⟩ u k hne)
theorem dec_nat (N : Nat) : decide (((N : Nat) : Int) < 0) = false := decide_eq_false (by omega)
set_option maxRecDepth 100000 in
theorem SetBytes_any (g : Nat) (A : Option Addr) (c : Nat) (l : List Nat) (hl : l.length ≤ 268435456) (hd : ∀ d ∈ l, d < 256) (w : World) (hs : Sl w A c (by8 l)) (hg : BI0 w g) :
    Calls Tryz.prog 33 #[.pointer (some ⟨g, 0, none⟩), .slice A l.length c] w (RetP w g (Num.le 256 l.reverse : Nat)) := by
  have c1 : w.cell? ⟨g, 1, none⟩ = some (.slice none 0 0) := hg.cell 1
  have hlt := Blk.lt hg
  go_enter Tryz.func33, Tryz.ntmps33
  go_wp2_with fail
  refine (setBytes_any A c l hl hd _ hs).mono ?_
  rintro e w1 ⟨A1, k1, ws, rfl, hs1, hf1, hlw, hb1⟩
  have hg1 : BI0 w1 g := Blk.below hg hb1
  have c2 : w1.cell? ⟨g, 1, none⟩ = some (.slice none 0 0) := hg1.cell 1
  have c3 : w1.cell? ⟨g, 0, none⟩ = some (.bool false) := hg1.cell 0
  have f2 := hg1.frozen 1
  have f3 := hg1.frozen 0
  have hne : ∀ b off, A1 = some ⟨b, off, none⟩ → b ≠ g := fun b off h => by have := (hf1 _ h).1; simp at this; omega
  have HN := Lib.hid hne
  clear hne c1
  go_wp2_with fail
  go_ret
  refine ⟨rfl, ⟨A1, k1, ws, ?_, ?_, by simpa using hlw, HN.out⟩, ?_⟩
  · have := (Blk.set (Blk.set hg1 1 (.slice A1 ws.length k1)) 0 (.bool false))
    rw [dec_nat]
    simpa using this
  · exact (hs1.setFar HN.out _).setFar HN.out _
  · exact only_set (only_set (only_of_kept hb1 _) _ _) _ _
theorem info_big : ∃ j, Tryz.prog.info? 94 = some j ∧ j.size ≠ 0 := by
  have h : (Tryz.prog.info? 94).map (·.size) = some 2 := by kernel_rfl
  cases hq : Tryz.prog.info? 94 with
  | none => rw [hq] at h; cases h
  | some j => rw [hq] at h; exact ⟨j, rfl, by have : j.size = 2 := by simpa using h
                                              omega⟩
theorem LW.nil_iff {ws : List Nat} {N : Nat} (h : LW ws N) : ws = [] ↔ N = 0 := by
  have := Num.Can.eq_nil Num.B64_pos h.1
  rw [h.2] at this
  rw [this]
theorem LW.len_pos {ws : List Nat} {N : Nat} (h : LW ws N) (h0 : N ≠ 0) : 0 < ws.length := by
  cases ws with
  | nil => exact absurd (h.nil_iff.1 rfl) h0
  | cons _ _ => simp
set_option maxRecDepth 100000 in
theorem SetSame_any (g : Nat) (w : World) :
    Calls Tryz.prog 40 #[.pointer (some ⟨g, 0, none⟩), .pointer (some ⟨g, 0, none⟩)] w fun e w' => e = .returned (.pointer (some ⟨g, 0, none⟩)) ∧ w = w' := by
  obtain ⟨j, hj, _⟩ := info_big
  have hne := fun W : World => Lib.run_neq_ptr_same (P := Tryz.prog) W ⟨g, 0, none⟩ Tryz.underlying71 hj
  clear hj
  go_enter Tryz.func40, Tryz.ntmps40
  go_wp2
  go_ret
  exact ⟨rfl, rfl⟩
set_option maxRecDepth 100000 in
theorem Neg_any (g : Nat) (z : Int) (w : World) (hg : BI w g z) :
    Calls Tryz.prog 34 #[.pointer (some ⟨g, 0, none⟩), .pointer (some ⟨g, 0, none⟩)] w (RetP w g (-z)) := by
  obtain ⟨A, c, ws, hb, hs, hlw, hne⟩ := hg
  have c1 : w.cell? ⟨g, 1, none⟩ = some (.slice A ws.length c) := hb.cell 1
  have c0 : w.cell? ⟨g, 0, none⟩ = some (.bool (decide (z < 0))) := hb.cell 0
  have f0 := hb.frozen 0
  have fin : ∀ b, b = decide (-z < 0) → RetP w g (-z) (.returned (.pointer (some ⟨g, 0, none⟩))) (w.setCell ⟨g, 0, none⟩ (.bool b)) := by
    rintro b rfl
    refine ⟨rfl, ⟨A, c, ws, ?_, hs.setFar hne _, by simpa using hlw, hne⟩, only_set (World.grownBy.refl w _) _ _⟩
    simpa using Blk.set hb 0 (.bool (decide (-z < 0)))
  have FIN := Lib.hid fin
  have HNE := Lib.hid hne
  clear fin hne
  by_cases h0 : z = 0
  · have hl : ws = [] := hlw.nil_iff.2 (by omega)
    subst hl
    subst h0
    go_enter Tryz.func34, Tryz.ntmps34
    go_wp2_with (go_at_call 40; refine (SetSame_any g _).mono ?_; rintro e w1 ⟨rfl, rfl⟩)
    go_ret
    exact FIN.out false rfl
  · have hp := hlw.len_pos (by omega)
    have hpI : (0 : Int) < (ws.length : Int) := by omega
    by_cases hz : z < 0
    · have e1 : decide (z < 0) = true := decide_eq_true hz
      have e2 : decide (-z < 0) = false := decide_eq_false (by omega)
      rw [e1] at c0
      go_enter Tryz.func34, Tryz.ntmps34
      go_wp2_with (go_at_call 40; refine (SetSame_any g _).mono ?_; rintro e w1 ⟨rfl, rfl⟩)
      go_ret
      exact FIN.out false e2.symm
    · have e1 : decide (z < 0) = false := decide_eq_false hz
      have e2 : decide (-z < 0) = true := decide_eq_true (by omega)
      rw [e1] at c0
      go_enter Tryz.func34, Tryz.ntmps34
      go_wp2_with (go_at_call 40; refine (SetSame_any g _).mono ?_; rintro e w1 ⟨rfl, rfl⟩)
      go_ret
      exact FIN.out true e2.symm
/-- a row of words of the call's own that reads as ws -/
def RetWs (w : World) (ws : List Nat) (e : Ending) (w' : World) : Prop :=
  ∃ A c, e = .returned (.slice A ws.length c) ∧ Sl w' A c (w64 ws) ∧ Fr w.heap.size A ∧ Kept w w'
theorem size_word : (Tryz.prog.info? 110).map (·.size) = some 1 := by kernel_rfl
theorem Sl_of_block {w : World} {g cap : Nat} {t : TypeId} {cur xs : List Value} (h : w.heap[g]? = some (.cells cur.toArray t (0, 0))) (hx : ∀ (j : Nat) (u : Value), xs[j]? = some u → cur[j]? = some u) (hl : xs.length ≤ cap) (hc : cap ≤ maxLen) : Sl w (some ⟨g, 0, none⟩) cap xs := by
  refine ⟨hl, hc, fun _ => ⟨g, 0, rfl, fun j u hu => ?_⟩⟩
  rw [Nat.zero_add, cell_of_row w g j _ t (0, 0) h]
  simpa using hx j u hu
theorem Sl.src {w : World} {A : Option Addr} {c : Nat} {xs : List Value} (h : Sl w A c xs) (h0 : 0 < xs.length) : ∃ ad, A = some ad ∧ ∀ j v, xs[j]? = some v → w.cell? (ad.add j) = some v := by
  obtain ⟨b, off, e, hc⟩ := h.at_ (fun e => by subst e; simp at h0)
  refine ⟨_, e, fun j v hv => ?_⟩
  have e2 : (⟨b, off, none⟩ : Addr).add j = ⟨b, off + j, none⟩ := by by_cases h0 : j = 0 <;> simp [Addr.add, h0]
  rw [e2]
  exact hc j v hv
set_option maxRecDepth 100000 in
theorem set_any (A : Option Addr) (c : Nat) (ws : List Nat) (hl : ws.length ≤ 268435456) (w : World) (hs : Sl w A c (w64 ws)) :
    Calls Tryz.prog 51 #[.slice none 0 0, .slice A ws.length c] w (RetWs w ws) := by
  have hwl := w64_len ws
  go_enter Tryz.func51, Tryz.ntmps51
  go_wp2_with fail
  refine (make_nil _ hl _).mono ?_
  rintro e w1 (⟨h0, rfl, rfl⟩ | ⟨h0, cap, hc1, hc2, rfl, hrow, hbw⟩)
  · have hn : ws = [] := List.eq_nil_of_length_eq_zero h0
    subst hn
    go_wp2_with (refine wpList_copy_nothing rfl (.tmp 9) (.tmp 10) _ _ rfl 110 Tryz.underlying92 size_word _ _ _ _ _ _ rfl rfl rfl ?_)
    go_ret
    exact ⟨none, 0, rfl, Sl.nil _, (fun a h => by cases h), Below.refl _ _⟩
  · have hs1 := hs.below hbw
    obtain ⟨cur, hcs, hcz, hcf⟩ := hrow
    have hcur : w1.heap[w.heap.size]? = some (.cells cur.toList.toArray 110 (0, 0)) := by simpa using hcs
    have HC := Lib.hid hcur
    have HL := Lib.hid hwl
    have hcz2 : cur.toList.length = cap := by simpa using hcz
    have HZ := Lib.hid hcz2
    clear hcur hwl hcs hcz hcf hcz2
    go_wp2_with (refine wpList_copy_splice rfl (.tmp 9) (.tmp 10) _ _ rfl 110 Tryz.underlying92 size_word _ _ _ _ _ _ rfl rfl w.heap.size 0 cur.toList 110 HC.out (w64 ws) (by rw [HL.out]; exact (Nat.min_self _).symm) (fun h => ⟨rfl, hs1.src h⟩) (by rw [HL.out, HZ.out]; omega) (w64_one _) w.heap.size w hbw (Nat.le_refl _) ?_; intro w2 hk2 hb2)
    go_ret
    refine ⟨_, _, rfl, ?_, ?_, hb2⟩
    · refine Sl_of_block hk2.out (fun j u hu => ?_) (by rw [HL.out]; exact hc1) (by simp only [maxLen]; omega)
      have hj := (List.getElem?_eq_some_iff.1 hu).1
      simp only [splice, List.take_zero, List.nil_append]
      rw [List.getElem?_append_left hj]
      exact hu
    · rintro a h
      injection h with h
      subst h
      exact ⟨Nat.le_refl _, rfl, rfl⟩
theorem run_neq_ptr_ne {P : Program} (w : World) {tp te : TypeId} {j : TypeInfo} {a b : Addr} {ca cb : Array Value} {ta tb : TypeId} (hp : P.underlying tp = some (.pointer te)) (hte : P.info? te = some j) (hsz : j.size ≠ 0)
    (hne : a ≠ b) (ha : w.heap[a.block]? = some (.cells ca ta (0, 0))) (hb : w.heap[b.block]? = some (.cells cb tb (0, 0))) :
    (binOp .neq tp (.pointer (some a)) (.pointer (some b))).run P w = .ok (.bool true) w := by
  have h : ∀ d : Nat, (Op.equalIn (d + 1) tp (.pointer (some a)) (.pointer (some b))).run P w = .ok false w := fun d => by
    simp [Op.equalIn, run_underlying hp, sizeOf, typeInfo, hte, hsz, run_sameAddr_other w hne ha hb]
  simp only [binOp]
  simp [Op.equal, Op.maxDepth, h 9999]
/-- as 'BI', the words in a block from B on -/
def BIf (B : Nat) (w : World) (g : Nat) (z : Int) : Prop :=
  ∃ A c ws, Blk w g 94 #[.bool (decide (z < 0)), .slice A ws.length c] ∧ Sl w A c (w64 ws) ∧ LW ws z.natAbs ∧ (∀ b off, A = some ⟨b, off, none⟩ → b ≠ g ∧ B ≤ b)
theorem BIf.toBI {B : Nat} {w : World} {g : Nat} {z : Int} (h : BIf B w g z) : BI w g z := by
  obtain ⟨A, c, ws, h1, h2, h3, h4⟩ := h
  exact ⟨A, c, ws, h1, h2, h3, fun b off e => (h4 b off e).1⟩
theorem BIf.below {B : Nat} {w w' : World} {g : Nat} {z : Int} (h : BIf B w g z) (hb : Kept w w') : BIf B w' g z := by
  obtain ⟨A, c, ws, h1, h2, h3, h4⟩ := h
  exact ⟨A, c, ws, Blk.below h1 hb, h2.below hb, h3, h4⟩
theorem BIf.setRow {B : Nat} {w : World} {g k : Nat} {z : Int} {cs : Array Value} (h : BIf B w g z) (hk : k < B) (hg : g ≠ k) : BIf B (w.setRow k cs) g z := by
  obtain ⟨A, c, ws, h1, h2, h3, h4⟩ := h
  exact ⟨A, c, ws, (setRow_other w k g cs hg).trans h1, h2.far (g := k) (fun b off e => by have := (h4 b off e).2; omega) (fun j _ hj => setRow_other w k j cs hj), h3, h4⟩
theorem BIf.mono {B B' : Nat} {w : World} {g : Nat} {z : Int} (h : BIf B w g z) (hB : B' ≤ B) : BIf B' w g z := by
  obtain ⟨A, c, ws, h1, h2, h3, h4⟩ := h
  exact ⟨A, c, ws, h1, h2, h3, fun b off e => ⟨(h4 b off e).1, Nat.le_trans hB (h4 b off e).2⟩⟩
def RetPF (w : World) (g : Nat) (z : Int) (e : Ending) (w' : World) : Prop := e = .returned (.pointer (some ⟨g, 0, none⟩)) ∧ BIf w.heap.size w' g z ∧ w.grownBy w' (some g)
theorem RetPF.of {w W : World} {g : Nat} {z : Int} {A : Option Addr} {c : Nat} {ws : List Nat} (hg : Blk W g 94 #[.bool (decide (z < 0)), .slice A ws.length c]) (hs : Sl W A c (w64 ws)) (hl : LW ws z.natAbs)
    (hne : ∀ b off, A = some ⟨b, off, none⟩ → b ≠ g ∧ w.heap.size ≤ b) (ho : w.grownBy W (some g)) : RetPF w g z (.returned (.pointer (some ⟨g, 0, none⟩))) W := ⟨rfl, ⟨A, c, ws, hg, hs, hl, hne⟩, ho⟩
set_option maxRecDepth 100000 in
theorem SetNew_any (g x : Nat) (z : Int) (w : World) (hgx : g ≠ x) (hg : BI0 w g) (hx : BI w x z) (hz : z.natAbs < Num.Cap) :
    Calls Tryz.prog 40 #[.pointer (some ⟨g, 0, none⟩), .pointer (some ⟨x, 0, none⟩)] w (RetPF w g z) := by
  obtain ⟨A, c, ws, hb, hs, hlw, hne⟩ := hx
  obtain ⟨j, hj, hj0⟩ := info_big
  have hlen : ws.length ≤ 268435456 := by have := hlw.len hz; omega
  have hneq := run_neq_ptr_ne (P := Tryz.prog) w Tryz.underlying71 hj hj0 (a := ⟨g, 0, none⟩) (b := ⟨x, 0, none⟩) (fun e => hgx (by injection e)) hg hb
  clear hj hj0
  have c1 : w.cell? ⟨g, 1, none⟩ = some (.slice none 0 0) := Blk.cell hg 1
  have c2 : w.cell? ⟨x, 1, none⟩ = some (.slice A ws.length c) := hb.cell 1
  have c0 : w.cell? ⟨x, 0, none⟩ = some (.bool (decide (z < 0))) := hb.cell 0
  go_enter Tryz.func40, Tryz.ntmps40
  go_wp2
  have hlg : g < w.heap.size := Blk.lt hg
  have hlx : x < w.heap.size := Blk.lt hb
  go_region_with (go_at_call 51; refine (set_any A c ws hlen _ (hs.below (Below.drew (Below.refl _ _)))).mono ?_; rintro e w' ⟨A1, k1, rfl, hs1, hf1, hb1⟩; have q1 : w'.cell? ⟨g, 1, none⟩ = some (.slice none 0 0) := (hb1.cell (p := ⟨g, 1, none⟩) hlg).trans c1; have q2 : w'.cell? ⟨x, 1, none⟩ = some (.slice A ws.length c) := (hb1.cell (p := ⟨x, 1, none⟩) hlx).trans c2; have q3 : w'.frozen? ⟨g, 1, none⟩ = false := (hb1.frozen (p := ⟨g, 1, none⟩) hlg).trans (Blk.frozen hg 1))
  all_goals
    have hg1 : BI0 w' g := (hb1.block g hlg).trans hg
    have hx1 : Blk w' x 94 #[.bool (decide (z < 0)), .slice A ws.length c] := (hb1.block x hlx).trans hb
    have hg2 := Blk.set hg1 1 (.slice A1 ws.length k1)
    have hx2 := Blk.far hx1 (k := g) (i := 1) (fun e => hgx e.symm) (.slice A1 ws.length k1)
    have k3 := hx2.cell 0
    have k4 := hg2.cell 0
    have k5 := hg2.frozen 0
    have hne1 : ∀ b off, A1 = some ⟨b, off, none⟩ → b ≠ g := fun b off h => by have := (hf1 _ h).1; simp at this; omega
    have hs2 := (hs1.setFar (i := 1) hne1 (.slice A1 ws.length k1)).setFar (i := 0) hne1 (.bool (decide (z < 0)))
    have ho2 := only_set (only_set (only_of_kept (show Kept w w' from ⟨hb1.os, hb1.tape, hb1.output, hb1.size, hb1.block⟩) (some g)) 1 (.slice A1 ws.length k1)) 0 (.bool (decide (z < 0)))
    have hg3 : Blk ((w'.setCell ⟨g, 1, none⟩ (.slice A1 ws.length k1)).setCell ⟨g, 0, none⟩ (.bool (decide (z < 0)))) g 94 #[.bool (decide (z < 0)), .slice A1 ws.length k1] := by simpa using Blk.set hg2 0 (.bool (decide (z < 0)))
    have FIN := Lib.hid (RetPF.of hg3 hs2 hlw (fun b off h => ⟨hne1 b off h, by have := (hf1 _ h).1; simpa using this⟩) ho2)
    clear hg1 hx1 hg2 hx2 hne1 hs2 ho2 hg3 hne q1 q2 q3 c1 c2 c0
    simp only [List.getElem?_toArray, List.setIfInBounds_toArray] at k3 k4
    go_wp2
    go_ret
    exact FIN.out
/-- n is how many bits N has -/
def IsLen (n N : Nat) : Prop := ∀ k, N < 2 ^ k ↔ n ≤ k
theorem IsLen.zero : IsLen 0 0 := fun k => by simp [Nat.two_pow_pos]
theorem IsLen.or (n x y : Nat) (h : y ≤ x) : IsLen n (x ||| y) ↔ IsLen n x := by
  have e : ∀ k, x ||| y < 2 ^ k ↔ x < 2 ^ k := fun k =>
    ⟨fun h1 => Nat.lt_of_le_of_lt Nat.left_le_or h1, fun h1 => Nat.or_lt_two_pow h1 (by omega)⟩
  unfold IsLen
  simp only [e]
theorem IsLen.of_bitLen (x : Nat) (hx : x < 2 ^ 64) (h0 : x ≠ 0) : IsLen (Lib.bitLen x) x := by
  obtain ⟨h1, h2, h3⟩ := Lib.bitLenAux_bounds 64 x hx h0
  intro k
  constructor
  · intro h
    rcases Nat.lt_or_ge k (Lib.bitLen x) with h4 | h4
    · have h5 : k ≤ Lib.bitLenAux 64 x - 1 := by unfold Lib.bitLen at h4; omega
      have := Nat.pow_le_pow_right (show 0 < 2 by omega) h5
      omega
    · exact h4
  · intro h
    exact Nat.lt_of_lt_of_le h3 (Nat.pow_le_pow_right (by omega) h)
theorem IsLen.unique {n m N : Nat} (h : IsLen n N) (h' : IsLen m N) : n = m := by
  have h1 := (h' n).1 ((h n).2 (Nat.le_refl _))
  have h2 := (h m).1 ((h' m).2 (Nat.le_refl _))
  omega
def smr (k x : Int) : Int := bits .or .u64 x (x / k)
theorem smr_nat (x k : Nat) (hx : x < 18446744073709551616) : ∃ y : Nat, smr k x = (y : Int) ∧ y < 18446744073709551616 ∧ x ≤ y ∧ ∀ n, IsLen n y ↔ IsLen n x := by
  have h1 : x / k ≤ x := Nat.div_le_self _ _
  refine ⟨x ||| x / k, ?_, Nat.or_lt_two_pow (n := 64) hx (by omega), Nat.left_le_or, fun n => IsLen.or n x _ h1⟩
  unfold smr
  have e : (x : Int) / (k : Int) = ((x / k : Nat) : Int) := by simp
  rw [e, u64_or_nat _ _ hx (by omega)]
theorem smear (x : Nat) (hx : x < 18446744073709551616) : ∃ y : Nat, smr 4294967296 (smr 65536 (smr 256 (smr 16 (smr 4 (smr 2 x))))) = (y : Int) ∧ y < 18446744073709551616 ∧ x ≤ y ∧ ∀ n, IsLen n y ↔ IsLen n x := by
  obtain ⟨y1, e1, l1, g1, i1⟩ := smr_nat x 2 hx
  obtain ⟨y2, e2, l2, g2, i2⟩ := smr_nat y1 4 l1
  obtain ⟨y3, e3, l3, g3, i3⟩ := smr_nat y2 16 l2
  obtain ⟨y4, e4, l4, g4, i4⟩ := smr_nat y3 256 l3
  obtain ⟨y5, e5, l5, g5, i5⟩ := smr_nat y4 65536 l4
  obtain ⟨y6, e6, l6, g6, i6⟩ := smr_nat y5 4294967296 l5
  have e1' : smr 2 (x : Int) = y1 := e1
  have e2' : smr 4 (y1 : Int) = y2 := e2
  have e3' : smr 16 (y2 : Int) = y3 := e3
  have e4' : smr 256 (y3 : Int) = y4 := e4
  have e5' : smr 65536 (y4 : Int) = y5 := e5
  have e6' : smr 4294967296 (y5 : Int) = y6 := e6
  refine ⟨y6, by rw [e1', e2', e3', e4', e5', e6'], l6, by omega, fun n => ?_⟩
  rw [i6, i5, i4, i3, i2, i1]
/-- how many bits the words have, out of the top one's -/
theorem IsLen.words {ws : List Nat} {t N : Nat} (h : LW (ws ++ [t]) N) (n : Nat) (hn : IsLen n t) : IsLen (ws.length * 64 + n) N := by
  have hN := h.2
  rw [Num.le_append] at hN
  have hlt := Num.le_lt Num.B64 Num.B64_pos ws (fun d hd => h.1.dig d (by simp [hd]))
  have ht : t ≠ 0 := by
    have := h.1.top (by simp)
    simpa using this
  have hp : Num.B64 ^ ws.length = 2 ^ (64 * ws.length) := by
    have : Num.B64 = 2 ^ 64 := by decide
    rw [this, ← Nat.pow_mul]
  have hN2 : N = Num.le Num.B64 ws + 2 ^ (64 * ws.length) * t := by rw [← hN, hp]; simp [Num.le]
  rw [hp] at hlt
  intro k
  have hn0 : 0 < n := by
    rcases Nat.eq_zero_or_pos n with h0 | h0
    · subst h0
      have := (hn 0).2 (Nat.le_refl _)
      simp at this
      omega
    · exact h0
  have hlo : 2 ^ (n - 1) ≤ t := by
    rcases Nat.lt_or_ge t (2 ^ (n - 1)) with h1 | h1
    · have := (hn (n - 1)).1 h1; omega
    · exact h1
  have hhi : t < 2 ^ n := (hn n).2 (Nat.le_refl _)
  constructor
  · intro hk
    rcases Nat.lt_or_ge k (ws.length * 64 + n) with h1 | h1
    · have h2 : 2 ^ k ≤ 2 ^ (64 * ws.length) * 2 ^ (n - 1) := by
        rw [← Nat.pow_add]; exact Nat.pow_le_pow_right (by omega) (by omega)
      have h3 := Nat.mul_le_mul_left (2 ^ (64 * ws.length)) hlo
      omega
    · exact h1
  · intro hk
    have h2 : 2 ^ (64 * ws.length) * 2 ^ n ≤ 2 ^ k := by
      rw [← Nat.pow_add]; exact Nat.pow_le_pow_right (by omega) (by omega)
    have h3 : 2 ^ (64 * ws.length) * (t + 1) ≤ 2 ^ (64 * ws.length) * 2 ^ n := Nat.mul_le_mul_left _ hhi
    rw [Nat.mul_add, Nat.mul_one] at h3
    omega
def LenP (w : World) (N : Nat) (e : Ending) (w' : World) : Prop := ∃ n : Nat, e = .returned (.int .i64 (n : Int)) ∧ IsLen n N ∧ n ≤ 65536 ∧ w = w'
set_option maxRecDepth 100000 in
theorem bitLen_any (A : Option Addr) (c : Nat) (ws : List Nat) (N : Nat) (hlw : LW ws N) (hN : N < Num.Cap) (w : World) (hs : Sl w A c (w64 ws)) :
    Calls Tryz.prog 61 #[.slice A ws.length c] w (LenP w N) := by
  have hlen := hlw.len hN
  by_cases h0 : ws = []
  · subst h0
    have hN0 := hlw.nil_iff.1 rfl
    subst hN0
    go_enter Tryz.func61, Tryz.ntmps61
    go_wp2
    go_ret
    exact ⟨0, rfl, IsLen.zero, by omega, rfl⟩
  · obtain ⟨us, x, rfl⟩ : ∃ us x, ws = us ++ [x] := ⟨ws.dropLast, ws.getLast h0, (List.dropLast_concat_getLast h0).symm⟩
    obtain ⟨b, off, e, hc⟩ := hs.at_ (w64_ne (by simp))
    subst e
    have hl : (us ++ [x]).length = us.length + 1 := by simp
    have hx : x < 18446744073709551616 := hlw.1.dig x (by simp)
    have hx0 : x ≠ 0 := by have := hlw.1.top (by simp); simpa using this
    have hck := hc us.length (.int .u64 (x : Int)) (by simp [w64])
    obtain ⟨y, ey, ly, gy, iy⟩ := smear x hx
    have hyl := IsLen.of_bitLen y ly (by omega)
    have hfin := IsLen.words hlw _ ((iy _).1 hyl)
    have hb64 := Lib.bitLen_le y 64 (by omega) ly
    have hq : (y : Int).toNat = y := by omega
    simp only [smr] at ey
    have hdiv : ∀ v : Int, v / 65536 / 65536 = v / 4294967296 := fun v => by omega
    rw [hl] at hlen ⊢
    have EY := Lib.hid ey
    have DV := Lib.hid hdiv
    have HB := Lib.hid hb64
    have HF := Lib.hid hfin
    have e1 : (us.length : Int) + 1 - 1 = (us.length : Int) := by omega
    have hlI : (us.length : Int) ≤ 511 := by omega
    have hxI : (x : Int) < 18446744073709551616 := by omega
    have hblI : (Lib.bitLen y : Int) ≤ 64 := by omega
    clear ey hdiv hb64 hfin hc hl hx hx0 iy gy h0 hyl hlw hs hN
    go_enter Tryz.func61, Tryz.ntmps61
    go_wp2_with fail
    rw [DV.out, EY.out]
    refine (Tryz.bits_Len _ _ (by omega) (by omega)).mono ?_
    rintro e w1 ⟨rfl, rfl⟩
    rw [hq]
    go_wp2_with fail
    go_ret
    refine ⟨us.length * 64 + Lib.bitLen y, ?_, HF.out, by have := HB.out; omega, rfl⟩
    show Ending.returned (.int .i64 ((us.length : Int) * 64 + (Lib.bitLen y : Int))) = _
    rw [Int.natCast_add, Int.natCast_mul]
    rfl
theorem low64_any (A : Option Addr) (c : Nat) (ws : List Nat) (N : Nat) (hlw : LW ws N) (hl : ws.length ≤ 268435456) (w : World) (hs : Sl w A c (w64 ws)) :
    Calls Tryz.prog 53 #[.slice A ws.length c] w fun e w' => e = .returned (.int .u64 ((N % 18446744073709551616 : Nat) : Int)) ∧ w = w' := by
  cases ws with
  | nil =>
    have hN := hlw.nil_iff.1 rfl
    subst hN
    go_enter Tryz.func53, Tryz.ntmps53
    go_wp2
    go_ret
    exact ⟨rfl, rfl⟩
  | cons d t =>
    obtain ⟨b, off, e, hc⟩ := hs.at_ (w64_ne (by simp))
    subst e
    have hck : w.cell? ⟨b, off, none⟩ = some (.int .u64 (d : Int)) := hc 0 (.int .u64 (d : Int)) (by simp [w64])
    have hd : d < 18446744073709551616 := hlw.1.dig d (by simp)
    have hN : N % 18446744073709551616 = d := by
      have := hlw.2
      simp only [Num.le] at this
      have e2 : (d + 18446744073709551616 * Num.le Num.B64 t) = N := this
      omega
    rw [hN]
    have hp : (0 : Int) < ((d :: t).length : Int) := by simp only [List.length_cons]; omega
    have h0 : (((d :: t).length : Int) == 0) = false := by simp only [List.length_cons, beq_eq_false_iff_ne]; omega
    generalize (d :: t).length = n at *
    clear hc hlw hN hs
    go_enter Tryz.func53, Tryz.ntmps53
    go_wp2
    go_ret
    exact ⟨rfl, rfl⟩
set_option maxRecDepth 100000 in
/-- of a number below 2^63 -/
theorem Int64_any (g : Nat) (z : Int) (hz : z.natAbs < 9223372036854775808) (w : World) (hg : BI w g z) :
    Calls Tryz.prog 43 #[.pointer (some ⟨g, 0, none⟩)] w fun e w' => e = .returned (.int .i64 z) ∧ w = w' := by
  obtain ⟨A, c, ws, hb, hs, hlw, hne⟩ := hg
  have c1 : w.cell? ⟨g, 1, none⟩ = some (.slice A ws.length c) := hb.cell 1
  have c0 : w.cell? ⟨g, 0, none⟩ = some (.bool (decide (z < 0))) := hb.cell 0
  have hl : ws.length ≤ 268435456 := by
    have := Num.len_lt Num.B64 (by decide) ws hlw.1 1 (by rw [hlw.2]; unfold Num.B64; omega)
    omega
  have hlo := low64_any A c ws z.natAbs hlw hl w hs
  have hmod : z.natAbs % 18446744073709551616 = z.natAbs := by omega
  rw [hmod] at hlo
  have HL := Lib.hid hlo
  clear hlo hmod hlw hne hb hs
  by_cases h : z < 0
  · obtain ⟨q, hq⟩ : ∃ q : Nat, z.natAbs = q := ⟨_, rfl⟩
    have hz2 : z = -(q : Int) := by omega
    rw [hq] at HL hz
    have e1 : decide (z < 0) = true := decide_eq_true h
    rw [e1] at c0
    subst hz2
    have hq2 : (q : Int) < 9223372036854775808 := by omega
    clear e1 hz hq
    go_enter Tryz.func43, Tryz.ntmps43
    go_wp2_with (go_at_call 53; refine (HL.out).mono ?_; rintro e w1 ⟨rfl, rfl⟩)
    go_ret
    exact ⟨rfl, rfl⟩
  · obtain ⟨q, hq⟩ : ∃ q : Nat, z.natAbs = q := ⟨_, rfl⟩
    have hz2 : z = (q : Int) := by omega
    rw [hq] at HL hz
    have e1 : decide (z < 0) = false := decide_eq_false h
    rw [e1] at c0
    subst hz2
    have hq2 : (q : Int) < 9223372036854775808 := by omega
    clear e1 hz hq
    go_enter Tryz.func43, Tryz.ntmps43
    go_wp2_with (go_at_call 53; refine (HL.out).mono ?_; rintro e w1 ⟨rfl, rfl⟩)
    go_ret
    exact ⟨rfl, rfl⟩
theorem BitLen_any (g : Nat) (z : Int) (hz : z.natAbs < Num.Cap) (w : World) (hg : BI w g z) :
    Calls Tryz.prog 52 #[.pointer (some ⟨g, 0, none⟩)] w (LenP w z.natAbs) := by
  obtain ⟨A, c, ws, hb, hs, hlw, hne⟩ := hg
  have c1 : w.cell? ⟨g, 1, none⟩ = some (.slice A ws.length c) := hb.cell 1
  have HL := Lib.hid (bitLen_any A c ws z.natAbs hlw hz w hs)
  clear hne hb hs hz
  go_enter Tryz.func52, Tryz.ntmps52
  go_wp2_with (go_at_call 61; refine (HL.out).mono ?_; rintro e w1 ⟨n, rfl, h1, h2, rfl⟩)
  go_ret
  exact ⟨n, rfl, h1, h2, rfl⟩
/-- fits an int32 -/
def Sm (z : Int) : Bool := decide (-2147483648 ≤ z ∧ z ≤ 2147483647)
set_option maxRecDepth 100000 in
theorem isSmall_any (g : Nat) (z : Int) (hz : z.natAbs < Num.Cap) (w : World) (hg : BI w g z) :
    Calls Tryz.prog 41 #[.pointer (some ⟨g, 0, none⟩)] w fun e w' => e = .returned (.bool (Sm z)) ∧ w = w' := by
  have HB := Lib.hid (BitLen_any g z hz w hg)
  go_enter Tryz.func41, Tryz.ntmps41
  go_wp2_with fail
  refine (HB.out).mono ?_
  rintro e w1 ⟨n, rfl, hn, hn2, rfl⟩
  have h31 : z.natAbs < 2147483648 ↔ n ≤ 31 := hn 31
  have h32 : z.natAbs < 4294967296 ↔ n ≤ 32 := hn 32
  clear hn hz
  by_cases h1 : n ≤ 31
  · have hS : Sm z = true := decide_eq_true (by omega)
    have hI : (n : Int) < 32 := by omega
    have HS := Lib.hid hS
    clear h31 h32 hS
    go_wp2_with fail
    go_ret
    exact ⟨by rw [HS.out]; rfl, rfl⟩
  · by_cases h2 : n = 32
    · subst h2
      have h64 := Int64_any g z (by omega) w hg
      have hS : Sm z = (z == -2147483648) := by
        rw [Bool.eq_iff_iff]; simp only [Sm, decide_eq_true_eq, beq_iff_eq]; omega
      have HS := Lib.hid hS
      have H64 := Lib.hid h64
      clear h31 h32 hS h64 h1 hg
      go_wp2_with (go_at_call 43; refine (H64.out).mono ?_; rintro e w1 ⟨rfl, rfl⟩)
      go_ret
      exact ⟨by rw [HS.out]; rfl, rfl⟩
    · have hS : Sm z = false := decide_eq_false (by omega)
      have hI : decide ((n : Int) < 32) = false := decide_eq_false (by omega)
      have hJ : ((n : Int) == 32) = false := by simp; omega
      have HS := Lib.hid hS
      clear h31 h32 hS h1 h2
      go_wp2_with fail
      go_ret
      exact ⟨by rw [HS.out]; rfl, rfl⟩
/-- an integer of the language -/
def StI (w : World) (v : Value) (z : Int) : Prop :=
  (v = .agg #[.int .i64 z, .pointer none] ∧ Sm z = true) ∨ (∃ g, v = .agg #[.int .i64 0, .pointer (some ⟨g, 0, none⟩)] ∧ BI w g z ∧ Sm z = false)
theorem BI.below {w w' : World} {g : Nat} {z : Int} (h : BI w g z) (hb : Kept w w') : BI w' g z := by
  obtain ⟨A, c, ws, h1, h2, h3, h4⟩ := h
  exact ⟨A, c, ws, Blk.below h1 hb, h2.below hb, h3, h4⟩
theorem block_lt {w : World} {g : Nat} {o : Obj} (h : w.heap[g]? = some o) : g < w.heap.size := (Array.getElem?_eq_some_iff.1 h).1
theorem BI.lt {w : World} {g : Nat} {z : Int} (h : BI w g z) : g < w.heap.size := by
  obtain ⟨A, c, ws, h1, _⟩ := h
  exact Blk.lt h1
theorem StI.below {w w' : World} {v : Value} {z : Int} (h : StI w v z) (hb : Kept w w') : StI w' v z := by
  rcases h with h | ⟨g, h1, h2, h3⟩
  · exact .inl h
  · exact .inr ⟨g, h1, h2.below hb, h3⟩
/-- as 'StI', all of it in blocks from B on -/
def StIf (B : Nat) (w : World) (v : Value) (z : Int) : Prop :=
  (v = .agg #[.int .i64 z, .pointer none] ∧ Sm z = true) ∨ (∃ g, v = .agg #[.int .i64 0, .pointer (some ⟨g, 0, none⟩)] ∧ B ≤ g ∧ BIf B w g z ∧ Sm z = false)
theorem StIf.toStI {B : Nat} {w : World} {v : Value} {z : Int} (h : StIf B w v z) : StI w v z := by
  rcases h with h | ⟨g, h1, h2, h3, h4⟩
  · exact .inl h
  · exact .inr ⟨g, h1, h3.toBI, h4⟩
theorem StIf.setRow {B : Nat} {w : World} {v : Value} {z : Int} {k : Nat} {cs : Array Value} (h : StIf B w v z) (hk : k < B) : StIf B (w.setRow k cs) v z := by
  rcases h with h | ⟨g, h1, h2, h3, h4⟩
  · exact .inl h
  · exact .inr ⟨g, h1, h2, h3.setRow hk (by omega), h4⟩
theorem StIf.mono {B B' : Nat} {w : World} {v : Value} {z : Int} (h : StIf B w v z) (hB : B' ≤ B) : StIf B' w v z := by
  rcases h with h | ⟨g, h1, h2, h3, h4⟩
  · exact .inl h
  · exact .inr ⟨g, h1, Nat.le_trans hB h2, h3.mono hB, h4⟩
theorem StIf.two {B : Nat} {w : World} {v : Value} {z : Int} (h : StIf B w v z) : ∃ x p, v = .agg #[.int .i64 x, .pointer p] := by
  rcases h with ⟨h, _⟩ | ⟨g, h1, _⟩
  · exact ⟨_, _, h⟩
  · exact ⟨_, _, h1⟩
def RetStI (w : World) (z : Int) (e : Ending) (w' : World) : Prop := ∃ v, e = .returned v ∧ StIf w.heap.size w' v z ∧ Kept w w'
theorem info_stI : (Tryz.prog.info? 75).map (·.size) = some 2 := by kernel_rfl
set_option maxRecDepth 100000 in
theorem makeSmall_any (z : Int) (w : World) :
    Calls Tryz.prog 42 #[.int .i64 z] w fun e w' => e = .returned (.agg #[.int .i64 z, .pointer none]) ∧ Kept w w' := by
  go_enter Tryz.func42, Tryz.ntmps42
  go_wp2
  go_returns
  exact ⟨rfl, by go_grown⟩
set_option maxRecDepth 100000 in
theorem makeBig_any (a : Option Addr) (w : World) :
    Calls Tryz.prog 44 #[.pointer a] w fun e w' => e = .returned (.agg #[.int .i64 0, .pointer a]) ∧ Kept w w' := by
  go_enter Tryz.func44, Tryz.ntmps44
  go_wp2
  go_returns
  exact ⟨rfl, by go_grown⟩
set_option maxRecDepth 100000 in
theorem MakeBigInt_any (g : Nat) (z : Int) (hz : z.natAbs < Num.Cap) (w : World) (hg : BI w g z) :
    Calls Tryz.prog 35 #[.pointer (some ⟨g, 0, none⟩)] w (RetStI w z) := by
  have hlt := hg.lt
  have hg1 := hg.below ((Below.refl _ w).alloc (Nat.le_refl _) (.cells #[.int .i64 0, .pointer none] 75))
  have HS := Lib.hid (isSmall_any g z hz _ hg1)
  go_enter Tryz.func35, Tryz.ntmps35
  go_wp2_with fail
  refine (HS.out).mono ?_
  rintro e w1 ⟨rfl, rfl⟩
  cases hS : Sm z
  · have hW := (Below.refl w.heap.size w).alloc (Nat.le_refl _) (.cells #[.int .i64 0, .pointer none] 75)
    have hg2 : BI ((w.alloc (.cells #[.int .i64 0, .pointer none] 75)).alloc (.cells #[.bool false, .slice none 0 0] 94)) g z := hg1.below ((Below.refl _ _).alloc (Nat.le_refl _) _)
    have h0 : BI0 ((w.alloc (.cells #[.int .i64 0, .pointer none] 75)).alloc (.cells #[.bool false, .slice none 0 0] 94)) (w.heap.size + 1) := by
      have := Blk.new (w.alloc (.cells #[.int .i64 0, .pointer none] 75)) 94 #[.bool false, .slice none 0 0]
      rwa [World.size_alloc] at this
    have hset := SetNew_any (w.heap.size + 1) g z _ (by omega) h0 hg2 hz
    have HT := Lib.hid hset
    clear hset hg2 h0
    go_wp2_with fail
    refine (HT.out).mono ?_
    rintro e w1 ⟨rfl, hb1, ho1⟩
    go_wp2_with fail
    refine (makeBig_any _ _).mono ?_
    rintro e w2 ⟨rfl, hb2⟩
    have k1 : w1.heap[w.heap.size]? = some (.cells #[.int .i64 0, .pointer none] 75 (0, 0)) :=
      (ho1.block w.heap.size (by simp; omega) (by simp)).trans (heap_alloc2_old w _ _)
    have H := Lib.hid ((hb2.block w.heap.size (block_lt k1)).trans k1)
    have hw1 : Kept w w1 := kept_of_only (hW.alloc (by simp) (.cells #[.bool false, .slice none 0 0] 94)) ho1 (by omega) (by simp; omega)
    have hw2 := Kept.trans hw1 hb2
    have hb3 := hb1.below hb2
    clear k1
    go_wp2_with (refine wpList_store_row rfl 75 (.tmp 2) (.tmp 13) rfl w.heap.size _ rfl rfl 75 _ H.out info_stI rfl (by simp [Value.oneCell']) ?_)
    refine bodyPost_blk (cs := #[.int .i64 0, .pointer (some ⟨w.heap.size + 1, 0, none⟩)]) rfl rfl (setRow_heap _ _ _ _ _ _ H.out) Tryz.underlying75 rfl (by exact info_stI) rfl ?_
    exact ⟨_, rfl, .inr ⟨_, rfl, by omega, (hb3.setRow (k := w.heap.size) (by simp; omega) (by omega)).mono (by simp; omega), hS⟩, below_setRow hw2 (Nat.le_refl _) _⟩
  · have hzb : z.natAbs < 9223372036854775808 := by simp [Sm] at hS; omega
    have H64 := Lib.hid (Int64_any g z hzb _ hg1)
    clear hzb
    go_wp2_with fail
    refine (H64.out).mono ?_
    rintro e w1 ⟨rfl, rfl⟩
    go_wp2_with fail
    refine (makeSmall_any z _).mono ?_
    rintro e w1 ⟨rfl, hb1⟩
    have H := Lib.hid (blk_after hb1)
    obtain ⟨hw1, hz1⟩ := alloc_kept hb1
    go_wp2_with (refine wpList_store_row rfl 75 (.tmp 2) (.tmp 8) rfl w.heap.size _ rfl rfl 75 _ H.out info_stI rfl (by simp [Value.oneCell']) ?_)
    refine bodyPost_blk (cs := #[.int .i64 z, .pointer none]) rfl rfl (setRow_heap _ _ _ _ _ _ H.out) Tryz.underlying75 rfl (by exact info_stI) rfl ?_
    exact ⟨_, rfl, .inl ⟨rfl, hS⟩, below_setRow hw1 (Nat.le_refl _) _⟩
/-- an integer as the thin package takes it -/
def VI (w : World) (v : Value) (z : Int) : Prop :=
  ∃ A c l, v = .agg #[.int .i64 2, .bool (decide (z < 0)), .slice A l.length c, .int .u64 0, .string ⟨#[]⟩, .slice none 0 0] ∧ Sl w A c (by8 l) ∧ BE l z.natAbs
theorem VI.below {w w' : World} {v : Value} {z : Int} (h : VI w v z) (hb : Kept w w') : VI w' v z := by
  obtain ⟨A, c, l, e, hs, hl⟩ := h
  exact ⟨A, c, l, e, hs.below hb, hl⟩
set_option maxRecDepth 100000 in
set_option maxHeartbeats 1000000 in
theorem whole_any (v : Value) (z : Int) (hz : z.natAbs < Num.Cap) (w : World) (hv : VI w v z) :
    Calls Tryz.prog 26 #[v] w (RetStI w z) := by
  obtain ⟨A, c, l, rfl, hs, hl⟩ := hv
  have hlen := hl.len hz
  have W1 := (Below.refl w.heap.size w).alloc (Nat.le_refl _) (.cells #[.int .i64 2, .bool (decide (z < 0)), .slice A l.length c, .int .u64 0, .string ⟨#[]⟩, .slice none 0 0] 33)
  have W2 := W1.alloc (by simp) (.cells #[.int .i64 0, .pointer none] 75)
  have W3 := W2.alloc (by simp only [World.size_alloc]; omega) (.cells #[.bool false, .slice none 0 0] 94)
  have b1 : Blk (((w.alloc (.cells #[.int .i64 2, .bool (decide (z < 0)), .slice A l.length c, .int .u64 0, .string ⟨#[]⟩, .slice none 0 0] 33)).alloc (.cells #[.int .i64 0, .pointer none] 75)).alloc (.cells #[.bool false, .slice none 0 0] 94)) w.heap.size 33 #[.int .i64 2, .bool (decide (z < 0)), .slice A l.length c, .int .u64 0, .string ⟨#[]⟩, .slice none 0 0] :=
    ((Blk.new w _ _).below ((Below.refl _ _).alloc (Nat.le_refl _) _)).below ((Below.refl _ _).alloc (Nat.le_refl _) _)
  have b2 : Blk (((w.alloc (.cells #[.int .i64 2, .bool (decide (z < 0)), .slice A l.length c, .int .u64 0, .string ⟨#[]⟩, .slice none 0 0] 33)).alloc (.cells #[.int .i64 0, .pointer none] 75)).alloc (.cells #[.bool false, .slice none 0 0] 94)) (w.heap.size + 1) 75 #[.int .i64 0, .pointer none] := by
    have := (Blk.new (w.alloc (.cells #[.int .i64 2, .bool (decide (z < 0)), .slice A l.length c, .int .u64 0, .string ⟨#[]⟩, .slice none 0 0] 33)) 75 #[.int .i64 0, .pointer none]).below ((Below.refl _ _).alloc (Nat.le_refl _) (.cells #[.bool false, .slice none 0 0] 94))
    rwa [World.size_alloc] at this
  have b3 : BI0 (((w.alloc (.cells #[.int .i64 2, .bool (decide (z < 0)), .slice A l.length c, .int .u64 0, .string ⟨#[]⟩, .slice none 0 0] 33)).alloc (.cells #[.int .i64 0, .pointer none] 75)).alloc (.cells #[.bool false, .slice none 0 0] 94)) (w.heap.size + 1 + 1) := by
    have := Blk.new ((w.alloc (.cells #[.int .i64 2, .bool (decide (z < 0)), .slice A l.length c, .int .u64 0, .string ⟨#[]⟩, .slice none 0 0] 33)).alloc (.cells #[.int .i64 0, .pointer none] 75)) 94 #[.bool false, .slice none 0 0]
    rwa [World.size_alloc, World.size_alloc] at this
  have hsb := SetBytes_any (w.heap.size + 1 + 1) A c l (by omega) hl.lt _ (hs.below W3) b3
  rw [hl.2] at hsb
  have HSB := Lib.hid hsb
  have B1 := Lib.hid b1
  have B2 := Lib.hid b2
  have HSZ : w.heap.size + 1 + 1 < (((w.alloc (.cells #[.int .i64 2, .bool (decide (z < 0)), .slice A l.length c, .int .u64 0, .string ⟨#[]⟩, .slice none 0 0] 33)).alloc (.cells #[.int .i64 0, .pointer none] 75)).alloc (.cells #[.bool false, .slice none 0 0] 94)).heap.size := by simp only [World.size_alloc]; omega
  clear hsb b1 b2 b3 W1 W2 hs hl hlen
  go_enter Tryz.func26, Tryz.ntmps26
  go_wp2_with fail
  generalize (((w.alloc (.cells #[.int .i64 2, .bool (decide (z < 0)), .slice A l.length c, .int .u64 0, .string ⟨#[]⟩, .slice none 0 0] 33)).alloc (.cells #[.int .i64 0, .pointer none] 75)).alloc (.cells #[.bool false, .slice none 0 0] 94)) = W at *
  refine (HSB.out).mono ?_
  rintro e w1 ⟨rfl, hb1, ho1⟩
  have hz1 := ho1.size
  have k1 : Blk w1 w.heap.size 33 #[.int .i64 2, .bool (decide (z < 0)), .slice A l.length c, .int .u64 0, .string ⟨#[]⟩, .slice none 0 0] := (ho1.block w.heap.size (by omega) (by simp; omega)).trans B1.out
  have k2 : Blk w1 (w.heap.size + 1) 75 #[.int .i64 0, .pointer none] := (ho1.block (w.heap.size + 1) (by omega) (by simp)).trans B2.out
  have hw1 : Below w.heap.size w w1 := kept_of_only W3 ho1 (by omega) (by omega)
  have hneg : w1.cell? ⟨w.heap.size, 1, none⟩ = some (.bool (decide (z < 0))) := k1.cell 1
  have K2 := Lib.hid k2
  clear k1 k2 HSB B1 B2 W3
  have fin : ∀ w2 w3 v, Below w.heap.size w w2 → w.heap.size + 1 < w2.heap.size → Blk w2 (w.heap.size + 1) 75 #[.int .i64 0, .pointer none] → StIf w2.heap.size w3 v z → Kept w2 w3 → ∃ x p, v = .agg #[.int .i64 x, .pointer p] ∧ Hid (w3.heap[w.heap.size + 1]? = some (.cells #[.int .i64 0, .pointer none] 75 (0, 0))) ∧ RetStI w z (.returned v) (w3.setRow (w.heap.size + 1) #[.int .i64 x, .pointer p]) := by
    intro w2 w3 v h1 h2 h3 h4 h5
    obtain ⟨x, p, rfl⟩ := h4.two
    exact ⟨x, p, rfl, (h5.block _ h2).trans h3, _, rfl, (h4.setRow h2).mono (by have := h1.size; omega), below_setRow (h1.trans (h5.mono h1.size)) (by omega) _⟩
  have FIN := Lib.hid fin
  clear fin
  by_cases hzn : z < 0
  · have e1 : decide (z < 0) = true := decide_eq_true hzn
    have HZ := Lib.hid hzn
    rw [e1] at hneg
    clear e1 hzn
    go_wp2_with fail
    refine (Neg_any (w.heap.size + 1 + 1) _ w1 hb1).mono ?_
    rintro e w2 ⟨rfl, hb2, ho2⟩
    have hz2 : -((z.natAbs : Nat) : Int) = z := by have := HZ.out; omega
    rw [hz2] at hb2
    have HM := Lib.hid (MakeBigInt_any (w.heap.size + 1 + 1) z hz w2 hb2)
    have hk2 : Blk w2 (w.heap.size + 1) 75 #[.int .i64 0, .pointer none] := (ho2.block (w.heap.size + 1) (by omega) (by simp)).trans K2.out
    have hw2 : Below w.heap.size w w2 := kept_of_only hw1 ho2 (by omega) (by omega)
    have hs2 := ho2.size
    clear hz2 hneg
    go_wp2_with fail
    refine (HM.out).mono ?_
    rintro e w3 ⟨v, rfl, h4, h5⟩
    obtain ⟨x, p, rfl, H, hfin⟩ := FIN.out w2 w3 v hw2 (by omega) hk2 h4 h5
    go_wp2_with (refine wpList_store_row rfl 75 (.tmp 2) (.tmp 14) rfl (w.heap.size + 1) _ rfl rfl 75 _ H.out info_stI rfl (by simp [Value.oneCell']) ?_)
    refine bodyPost_blk (cs := #[.int .i64 x, .pointer p]) rfl rfl (setRow_heap _ _ _ _ _ _ H.out) Tryz.underlying75 rfl (by exact info_stI) rfl ?_
    exact hfin
  · have e1 : decide (z < 0) = false := decide_eq_false hzn
    have hz2 : ((z.natAbs : Nat) : Int) = z := by omega
    rw [hz2] at hb1
    rw [e1] at hneg
    have HM := Lib.hid (MakeBigInt_any (w.heap.size + 1 + 1) z hz w1 hb1)
    clear e1 hzn hz2
    go_wp2_with fail
    refine (HM.out).mono ?_
    rintro e w3 ⟨v, rfl, h4, h5⟩
    obtain ⟨x, p, rfl, H, hfin⟩ := FIN.out w1 w3 v hw1 (by omega) K2.out h4 h5
    go_wp2_with (refine wpList_store_row rfl 75 (.tmp 2) (.tmp 14) rfl (w.heap.size + 1) _ rfl rfl 75 _ H.out info_stI rfl (by simp [Value.oneCell']) ?_)
    refine bodyPost_blk (cs := #[.int .i64 x, .pointer p]) rfl rfl (setRow_heap _ _ _ _ _ _ H.out) Tryz.underlying75 rfl (by exact info_stI) rfl ?_
    exact hfin
end Go.Proofs.YtoociokhldakbaaGreat
