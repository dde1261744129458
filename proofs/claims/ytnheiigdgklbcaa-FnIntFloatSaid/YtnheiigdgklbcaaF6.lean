/- What a big float is rounded to. -/
import Derived.Test.YtnheiigdgklbcaaF5
import Derived.Deep.RegionHeld3
import Derived.Laws.BitsAllLaws
namespace Go.Proofs.Ytnheiigdgklbcaa
open Go.ChangeShapes Go.WideShapes Go.ChangeAt Go.RowKit
set_option linter.unusedVariables false
section
variable {P : Program}
/-- two cells of different blocks, one of them of the call's own -/
theorem run_sameAddr_cells {w : World} {a b : Addr} {ca : Array Value} {ta : TypeId} {v : Value} (hne : a.block ≠ b.block) (ha : w.heap[a.block]? = some (.cells ca ta (0, 0))) (hca : 0 < ca.size) (hb : w.cell? b = some v) :
    (sameAddr a b).run P w = .ok false w := by
  obtain ⟨cb, tb, fr, hb2⟩ : ∃ cb tb fr, w.heap[b.block]? = some (.cells cb tb fr) := by
    unfold World.cell? at hb
    split at hb
    · rename_i c t f h; exact ⟨c, t, f, h⟩
    · cases hb
  have h0 : ca.size ≠ 0 := by omega
  have hcb : 0 < cb.size := by
    unfold World.cell? at hb
    rw [hb2] at hb
    simp only at hb
    split at hb
    · cases hb
    · have := (Array.getElem?_eq_some_iff.1 hb).1; omega
  obtain ⟨n, hn⟩ : ∃ n, cb.size = n + 1 := ⟨cb.size - 1, by omega⟩
  simp [sameAddr, hne, World.frozen?, ha, hb2, noView, viewAt, World.shape?, mayBeOne, stringish, h0, hn]
theorem run_neq_cells {w : World} {tp te : TypeId} {j : TypeInfo} {a b : Addr} {ca : Array Value} {ta : TypeId} {v : Value} (hp : P.underlying tp = some (.pointer te)) (hte : P.info? te = some j) (hsz : j.size ≠ 0)
    (hne : a.block ≠ b.block) (ha : w.heap[a.block]? = some (.cells ca ta (0, 0))) (hca : 0 < ca.size) (hb : w.cell? b = some v) :
    (binOp .neq tp (.pointer (some a)) (.pointer (some b))).run P w = .ok (.bool true) w := by
  have h : ∀ d : Nat, (Op.equalIn (d + 1) tp (.pointer (some a)) (.pointer (some b))).run P w = .ok false w := fun d => by
    simp [Op.equalIn, run_underlying hp, sizeOf, typeInfo, hte, hsz, run_sameAddr_cells hne ha hca hb]
  simp only [binOp]
  simp [Op.equal, Op.maxDepth, h 9999]
theorem row_copied {w : World} {g N off m : Nat} {t : TypeId} {f vs : Nat → Value} {cur : Array Value} (hN : cur.size = N) (hf : ∀ i, i < N → cur[i]? = some (f i)) (hfit : off + m ≤ N) (hg : w.heap[g]? = some (.cells cur t (0, 0))) :
    (w.setRow g (cur.toList.take off ++ (((List.range m).map vs) ++ cur.toList.drop (off + m))).toArray).rowIs g t N (fun j => if off ≤ j ∧ j < off + m then vs (j - off) else f j) := by
  have hsz : (cur.toList.take off ++ (((List.range m).map vs) ++ cur.toList.drop (off + m))).length = N := by
    simp only [List.length_append, List.length_take, List.length_map, List.length_range, List.length_drop, Array.length_toList]
    omega
  refine ⟨(cur.toList.take off ++ (((List.range m).map vs) ++ cur.toList.drop (off + m))).toArray, setRow_heap w g _ _ t _ hg, by rw [List.size_toArray]; exact hsz, fun i hi => ?_⟩
  rw [List.getElem?_toArray]
  have hcl : ∀ k : Nat, cur.toList[k]? = cur[k]? := fun k => by rw [Array.getElem?_toList]
  have hlt : (cur.toList.take off).length = off := by rw [List.length_take, Array.length_toList]; omega
  have hlm : ((List.range m).map vs).length = m := by rw [List.length_map, List.length_range]
  show _ = some (if off ≤ i ∧ i < off + m then vs (i - off) else f i)
  by_cases h1 : i < off
  · rw [List.getElem?_append_left (by rw [hlt]; exact h1), List.getElem?_take, if_pos h1, hcl, hf i hi, if_neg (by omega)]
  · rw [List.getElem?_append_right (by rw [hlt]; omega), hlt]
    by_cases h2 : i < off + m
    · rw [List.getElem?_append_left (by rw [hlm]; omega), List.getElem?_map, List.getElem?_range (by omega), if_pos ⟨by omega, h2⟩]
      rfl
    · rw [List.getElem?_append_right (by rw [hlm]; omega), List.getElem?_drop, hcl, if_neg (by omega), hlm]
      have : off + m + (i - off - m) = i := by omega
      rw [this]
      exact hf i hi
theorem wp_copy_row {w : World} {o : Oper} {a : Act} {K : Act → World → Prop} {Q : Exit → Act → World → Prop} (d s : Operand) (dT sT : TypeId)
    (ho : o.op = .call { callee := .builtin .copy, args := #[d, s], argTypes := #[dT, sT] }) (elem : TypeId) (hu : P.underlying dT = some (.slice elem)) (hsz : (P.info? elem).map (·.size) = some 1)
    (dp sp : Option Addr) (dLen dCap sLen sCap : Nat) (hd : a.eval d = .slice dp dLen dCap) (hs : a.eval s = .slice sp sLen sCap)
    (g off m N : Nat) (t : TypeId) (f vs : Nat → Value) (hr : w.rowIs g t N f) (hm : m = Nat.min sLen dLen)
    (hpos : 0 < m → dp = some ⟨g, off, none⟩ ∧ ∃ sb so, sp = some ⟨sb, so, none⟩ ∧ ∀ j, j < m → w.cell? ⟨sb, so + j, none⟩ = some (vs j))
    (hfit : off + m ≤ N) (h1 : ∀ j, j < m → (vs j).oneCell' = true)
    (h : ∀ w', w'.rowIs g t N (fun j => if off ≤ j ∧ j < off + m then vs (j - off) else f j) → w.grownBy w' (some g) → K (a.put o.dst (goInt m)) w') : o.wp P a w K Q := by
  by_cases h0 : m = 0
  · subst h0
    have hrun := run_copy_none (P := P) w dT sT o.type elem dp sp dLen dCap sLen sCap hu hsz hm.symm
    unfold Oper.wp
    simp [execOp, ho, resolve, invoke, builtin, hd, hs, hrun, Result.andThen]
    refine h w (hr.congr fun i _ => ?_) (World.grownBy.refl w _)
    rw [if_neg (by omega)]
  · obtain ⟨rfl, sb, so, rfl, hsrc⟩ := hpos (by omega)
    obtain ⟨cur, hg, hN, hf⟩ := hr
    have hrun := run_copy_row (P := P) w dT sT o.type elem g off dLen dCap ⟨sb, so, none⟩ sLen sCap cur t ((List.range m).map vs) hu hsz hg (by simpa using hm) (fun j v hv => by
      have hj : j < m := by
        have := (List.getElem?_eq_some_iff.1 hv).1
        simpa using this
      rw [List.getElem?_map, List.getElem?_range hj] at hv
      injection hv with hv
      subst hv
      have e2 : (⟨sb, so, none⟩ : Addr).add j = ⟨sb, so + j, none⟩ := by by_cases h0 : j = 0 <;> simp [Addr.add, h0]
      rw [e2]
      exact hsrc j hj) (by simp; omega) (fun v hv => by
      obtain ⟨j, hj, rfl⟩ := List.mem_map.1 hv
      exact h1 j (by simpa using hj))
    have hlen : ((List.range m).map vs).length = m := by simp
    rw [hlen] at hrun
    have hrow := row_copied (m := m) (off := off) (vs := vs) hN hf hfit hg
    rw [← List.append_assoc] at hrow
    unfold Oper.wp
    simp only [execOp, ho, resolve, invoke, builtin, Sem.run_bind, Sem.run_pure, Result.andThen_ok, List.map_toArray, List.map_cons, List.map_nil, hd, hs, hrun]
    refine h _ hrow ⟨rfl, rfl, rfl, by simp [World.setRow], fun k hk hne => setRow_other w g k _ (fun e => hne (by rw [e]))⟩
theorem step_copy_row {w : World} {ops : Array Oper} {o : Oper} {a : Act} {K : Act → World → Prop} {Q : Exit → Act → World → Prop} {E : Prop} (hgd : o.guard = none) (d s : Operand) (dT sT : TypeId)
    (ho : o.op = .call { callee := .builtin .copy, args := #[d, s], argTypes := #[dT, sT] }) (elem : TypeId) (hu : P.underlying dT = some (.slice elem)) (hsz : (P.info? elem).map (·.size) = some 1)
    (dp sp : Option Addr) (dLen dCap sLen sCap : Nat) (hd : a.eval d = .slice dp dLen dCap) (hs : a.eval s = .slice sp sLen sCap)
    (g off m N : Nat) (t : TypeId) (f vs : Nat → Value) (hr : w.rowIs g t N f) (hm : m = Nat.min sLen dLen)
    (hpos : 0 < m → dp = some ⟨g, off, none⟩ ∧ ∃ sb so, sp = some ⟨sb, so, none⟩ ∧ ∀ j, j < m → w.cell? ⟨sb, so + j, none⟩ = some (vs j))
    (hfit : off + m ≤ N) (h1 : ∀ j, j < m → (vs j).oneCell' = true)
    (h : ∀ w', w'.rowIs g t N (fun j => if off ≤ j ∧ j < off + m then vs (j - off) else f j) → w.grownBy w' (some g) → K (a.put o.dst (goInt m)) w') :
    if Region.wanted o (yielded ops a.tmps) = true then Oper.wp P o a w K Q else E := by
  have hw : Region.wanted o (yielded ops a.tmps) = true := by simp [Region.wanted, hgd]
  rw [if_pos hw]
  exact wp_copy_row d s dT sT ho elem hu hsz dp sp dLen dCap sLen sCap hd hs g off m N t f vs hr hm hpos hfit h1 h
theorem wpList_copy_row {w : World} {ops : Array Oper} {rest : List Oper} {o : Oper} {a : Act} {Q : Exit → Act → World → Prop} (hgd : o.guard = none) (d s : Operand) (dT sT : TypeId)
    (ho : o.op = .call { callee := .builtin .copy, args := #[d, s], argTypes := #[dT, sT] }) (elem : TypeId) (hu : P.underlying dT = some (.slice elem)) (hsz : (P.info? elem).map (·.size) = some 1)
    (dp sp : Option Addr) (dLen dCap sLen sCap : Nat) (hd : a.eval d = .slice dp dLen dCap) (hs : a.eval s = .slice sp sLen sCap)
    (g off m N : Nat) (t : TypeId) (f vs : Nat → Value) (hr : w.rowIs g t N f) (hm : m = Nat.min sLen dLen)
    (hpos : 0 < m → dp = some ⟨g, off, none⟩ ∧ ∃ sb so, sp = some ⟨sb, so, none⟩ ∧ ∀ j, j < m → w.cell? ⟨sb, so + j, none⟩ = some (vs j))
    (hfit : off + m ≤ N) (h1 : ∀ j, j < m → (vs j).oneCell' = true)
    (h : ∀ w', w'.rowIs g t N (fun j => if off ≤ j ∧ j < off + m then vs (j - off) else f j) → w.grownBy w' (some g) → wpList P ops Q rest (a.put o.dst (goInt m)) w') : wpList P ops Q (o :: rest) a w :=
  wpList_plain hgd fun _ hK => wp_copy_row d s dT sT ho elem hu hsz dp sp dLen dCap sLen sCap hd hs g off m N t f vs hr hm hpos hfit h1 fun w' h2 h3 => hK _ _ (h w' h2 h3)
end
theorem and_2048 (t : Nat) (ht : t < 18446744073709551616) : bits .and .u64 (t : Int) 2048 = ((t / 2048 % 2 * 2048 : Nat) : Int) := by
  have h := u64_and_nat t 2048 ht (by omega)
  rw [show (2048 : Int) = ((2048 : Nat) : Int) by rfl, h]
  congr 1
  apply Nat.eq_of_testBit_eq
  intro i
  rw [show 2048 = 2 ^ 11 by decide, Nat.testBit_and, Nat.testBit_two_pow, Nat.testBit_mul_two_pow, ← Nat.pow_one 2, Nat.testBit_mod_two_pow, Nat.pow_one, Nat.testBit_div_two_pow]
  by_cases h1 : 11 = i
  · subst h1
    simp
  · by_cases h2 : 11 ≤ i
    · simp [h1, show ¬ (i - 11 < 1) by omega]
    · simp [h1, h2]
theorem andNot_2047 (t : Nat) (ht : t < 18446744073709551616) : bits .andNot .u64 (t : Int) 2047 = ((t / 2048 * 2048 : Nat) : Int) := by
  have h := andNot_high t 11 ht (by omega)
  rw [show (2 : Nat) ^ 11 - 1 = 2047 by decide, show (2 : Nat) ^ 11 = 2048 by decide] at h
  exact h
theorem or_top (x : Nat) (hx : x < 9223372036854775808) : bits .or .u64 (x : Int) 9223372036854775808 = ((9223372036854775808 + x : Nat) : Int) := by
  have h := u64_or_nat x 9223372036854775808 (by omega) (by omega)
  rw [show (9223372036854775808 : Int) = ((9223372036854775808 : Nat) : Int) by rfl, h]
  have e := Nat.two_pow_add_eq_or_of_lt (i := 63) (b := x) (by rw [show 2 ^ 63 = 9223372036854775808 by decide]; exact hx) 1
  rw [Nat.mul_one, show 2 ^ 63 = 9223372036854775808 by decide] at e
  rw [e, Nat.or_comm]
theorem run_hi_u32 (A : Option Addr) (n c k : Nat) (hk : k ≤ c) (wx : World) :
    (Instr.slice 57 (.slice A n c) none (some (.int .u32 (k : Int))) none).run Try.prog wx = .ok (.slice A k c) wx := by
  have h1 : (k : Int) ≤ (c : Int) := by omega
  have h2 : (0 : Int) ≤ (k : Int) := by omega
  by_cases hc : c = 0
  · subst hc
    obtain rfl : k = 0 := by omega
    simp [go_sem, Try.underlying57]
  · simp [go_sem, Try.underlying57, h1, h2]
theorem run_from_u32 (b n c k : Nat) (hk : k ≤ n) (hc : c ≠ k) (h0 : 0 < k) (wx : World) :
    (Instr.slice 57 (.slice (some ⟨b, 0, none⟩) n c) (some (.int .u32 (k : Int))) none none).run Try.prog wx = .ok (.slice (some ⟨b, k, none⟩) (n - k) (c - k)) wx := by
  have h1 : (k : Int) ≤ (n : Int) := by omega
  have h2 : k ≠ 0 := by omega
  simp [go_sem, Try.underlying57, h1, hc, Addr.add, h2]
set_option maxRecDepth 100000 in
theorem makeAcc_ex (b : Bool) (w : World) : Calls Try.prog 69 #[.bool b] w fun e w' => (∃ a : Int, e = .returned (.int .i8 a)) ∧ w = w' :=
  (makeAcc_any b w).mono fun e w' ⟨h, hw⟩ => ⟨⟨_, h⟩, hw⟩
/-- rounded to K, of 53 bits -/
def RndP (w : World) (g gr cap K : Nat) (ng : Bool) (ex : Int) (e : Ending) (w' : World) : Prop :=
  e = .returned (.tuple #[]) ∧ (∃ ac, FB w' g 53 ac 1 ng (.slice (some ⟨gr, 0, none⟩) 1 cap) (if K = 9007199254740992 then ex + 1 else ex)) ∧
    w'.cell? ⟨gr, 0, none⟩ = some (.int .u64 ((if K = 9007199254740992 then 9223372036854775808 else K * 2048 : Nat) : Int)) ∧ Two g gr w w'
theorem RndP.of {w V : World} {g gr cap K x : Nat} {ng : Bool} {ex ex2 ac : Int} {f : Nat → Value} (hf : FB V g 53 ac 1 ng (.slice (some ⟨gr, 0, none⟩) 1 cap) ex2) (hcap : 1 ≤ cap) (hrow : V.rowIs gr 100 cap f) (ht : Two g gr w V) (hne : g ≠ gr)
    (hx : x = if K = 9007199254740992 then 9223372036854775808 else K * 2048) (he : ex2 = if K = 9007199254740992 then ex + 1 else ex) :
    RndP w g gr cap K ng ex (.returned (.tuple #[])) (V.setCell ⟨gr, 0, none⟩ (.int .u64 (x : Int))) := by
  subst hx he
  refine ⟨rfl, ⟨ac, hf.far (set_grown _ gr 0 _) hne⟩, ?_, ht.set2 0 _⟩
  exact (hrow.set 0 _).cell (i := 0) (by omega)
end Go.Proofs.Ytnheiigdgklbcaa
