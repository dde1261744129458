/- What a list of texts takes: made, filled, read -/
import Derived.Test.YtcamjefacbaniaaGreatDoorLb
namespace Go.Proofs.YtcamjefacbaniaaGreatDoor
open Go.ChangeShapes Go.WideShapes Go.ChangeAt Go.RowKit
set_option linter.unusedVariables false
theorem asStr (S : ByteArray) (w : World) : (Instr.typeAssert (.iface 52 (.string S)) 40 52 true).run Tryz.prog w = .ok (.tuple #[.string S, .bool true]) w := by kernel_rfl
theorem recv_str (T : ByteArray) (w : World) : (Instr.typeAssert (.iface 52 (.string T)) 40 52 false).run Tryz.prog w = .ok (.string T) w := by kernel_rfl
set_option maxRecDepth 100000 in
/-- the text ends in the part -/
theorem suffix_any (T P : ByteArray) (k : Nat) (hk : T.size = k + P.size) (hT : T.size ≤ 60) (w : World) :
    Calls Tryz.prog 60 #[.string T, .string P] w fun e w' => e = .returned (.bool (oc T P k)) ∧ w = w' := by
  have h1 : (P.size : Int) ≤ (T.size : Int) := by omega
  have h2 : (T.size : Int) - (P.size : Int) = (k : Int) := by omega
  have hb : ((T.extract k T.size).toList == P.toList) = oc T P k := by rw [hk]; rfl
  have h3 : (T.size : Int) ≤ 60 := by omega
  have h4 : (k : Int) ≤ (T.size : Int) := by omega
  have hb' := hb
  clear hb hk
  cases hq : oc T P k
  all_goals
    rw [hq] at hb'
    clear hq
    go_enter Tryz.func60, Tryz.ntmps60
    go_wp2_with fail
    go_ret
    exact ⟨rfl, rfl⟩
set_option maxRecDepth 100000 in
theorem suffix_nl (T : ByteArray) (k : Nat) (hk : T.size = k + 1) (hT : T.size ≤ 60) (w : World) :
    Calls Tryz.prog 47 #[.string T, .string ⟨#[10]⟩] w fun e w' => e = .returned (.bool (nl T k)) ∧ w = w' := by
  have HC := Lib.hid (suffix_any T ⟨#[10]⟩ k hk hT w)
  rw [nl_at T k (by omega)] at HC
  clear hk hT
  go_enter Tryz.func47, Tryz.ntmps47
  go_wp2_with fail
  refine (HC.out).mono ?_
  rintro e w1 ⟨rfl, rfl⟩
  go_wp2_with fail
  go_ret
  exact ⟨rfl, rfl⟩
set_option maxRecDepth 100000 in
set_option maxHeartbeats 1000000 in
theorem unpackBool_any (b old : Bool) (g : Nat) (w : World) (hg : Blk w g 4 #[.bool old]) :
    Calls Tryz.prog 56 #[.iface 45 (.bool b), .iface 86 (.pointer (some ⟨g, 0, none⟩))] w fun e w' => e = .returned .nilIface ∧ w' = w.setCell ⟨g, 0, none⟩ (.bool b) := by
  have c0 : w.cell? ⟨g, 0, none⟩ = some (.bool old) := hg.cell 0
  have f0 : w.frozen? ⟨g, 0, none⟩ = false := hg.frozen 0
  have t1 : ∀ (a : Option Addr) (w : World), (Instr.typeAssert (.iface 86 (.pointer a)) 20 113 true).run Tryz.prog w = .ok (.tuple #[.pointer none, .bool false]) w := fun _ _ => by kernel_rfl
  have t2 : ∀ (a : Option Addr) (w : World), (Instr.typeAssert (.iface 86 (.pointer a)) 20 114 true).run Tryz.prog w = .ok (.tuple #[.pointer none, .bool false]) w := fun _ _ => by kernel_rfl
  have t3 : ∀ (a : Option Addr) (w : World), (Instr.typeAssert (.iface 86 (.pointer a)) 20 86 true).run Tryz.prog w = .ok (.tuple #[.pointer a, .bool true]) w := fun _ _ => by kernel_rfl
  have t4 : ∀ (w : World), (Instr.typeAssert (.iface 45 (.bool b)) 40 45 true).run Tryz.prog w = .ok (.tuple #[.bool b, .bool true]) w := fun _ => by cases b <;> kernel_rfl
  clear hg
  go_enter Tryz.func56, Tryz.ntmps56
  go_wp2_with fail
  go_ret
  exact ⟨rfl, rfl⟩
/-- one argument at most, one variable -/
theorem unpack1b_any (nm : ByteArray) (b old : Bool) (g ga gv ca cv : Nat) (w : World) (hg : Blk w g 4 #[.bool old]) (ha : w.cell? ⟨ga, 0, none⟩ = some (.iface 45 (.bool b))) (hv : w.cell? ⟨gv, 0, none⟩ = some (.iface 86 (.pointer (some ⟨g, 0, none⟩)))) :
    Calls Tryz.prog 42 #[.string nm, .slice (some ⟨ga, 0, none⟩) 1 ca, .slice none 0 0, .int .i64 0, .slice (some ⟨gv, 0, none⟩) 1 cv] w fun e w' => e = .returned .nilIface ∧ w' = w.setCell ⟨g, 0, none⟩ (.bool b) := by
  have HC := Lib.hid (check_any nm (some ⟨ga, 0, none⟩) 1 ca 0 1 (Nat.zero_le _) (Nat.le_refl _) (by omega) w)
  have HU := Lib.hid (unpackBool_any b old g w hg)
  clear hg
  go_enter Tryz.func42, Tryz.ntmps42
  go_wp2_with fail
  refine (HC.out).mono ?_
  rintro e w1 ⟨rfl, rfl⟩
  go_wp2_with fail
  go_loopw [27] (fun iv wr => (iv = .int .i64 0 ∧ wr = w) ∨ (iv = .int .i64 1 ∧ wr = w.setCell ⟨g, 0, none⟩ (.bool b))) (fun iv _ => 2 - (intOf iv).toNat)
  case atStart => exact .inl ⟨rfl, rfl⟩
  case round =>
    rcases hrel with ⟨rfl, rfl⟩ | ⟨rfl, rfl⟩
    · go_wp2_with fail
      refine (HU.out).mono ?_
      rintro e w1 ⟨rfl, hw1⟩
      go_wp2_with fail
      exact ⟨.inr ⟨rfl, trivial⟩, by simp [intOf]⟩
    · go_wp2_with fail
      go_ret
      exact ⟨rfl, rfl⟩
set_option maxRecDepth 100000 in
theorem newList_any (A : Option Addr) (n c : Nat) (w : World) :
    Calls Tryz.prog 48 #[.slice A n c] w fun e w' => e = .returned (.pointer (some ⟨w.heap.size, 0, none⟩)) ∧ w' = w.alloc (.cells #[.slice A n c, .bool false, .int .u32 0] 78) := by
  go_enter Tryz.func48, Tryz.ntmps48
  go_wp2_with fail
  go_ret
  exact ⟨rfl, rfl⟩
theorem infoVal : (Tryz.prog.info? 40).map (fun i => (i.zero, i.size, i.bytes)) = some (some .nilIface, 1, 16) := by kernel_rfl
theorem make_list (n : Nat) (hn : n ≤ 1000) (w : World) : (Instr.makeSlice 55 (.int .i64 (n : Int)) (.int .i64 (n : Int))).run Tryz.prog w = .ok (.slice (some ⟨w.heap.size, 0, none⟩) n n) (w.alloc (.cells (madeCells #[.nilIface] n) 40)) := by
  obtain ⟨i0, hi0, hz0, hz1, hz2⟩ := info_parts infoVal
  have := run_make w 55 40 i0 .nilIface Tryz.underlying55 hi0 hz0 .i64 .i64 (n : Int) (n : Int) (by omega) (by omega) (by rw [hz2]; omega) (by omega)
  rw [this, hz1]
  simp [Value.cells]
/-- a list's row of its own, filled as far as k -/
def LR (w : World) (g n : Nat) (l : List ByteArray) (k : Nat) : Prop := ∃ cs : Array Value, w.heap[g]? = some (.cells cs 40 (0, 0)) ∧ cs.size = n ∧ ∀ (j : Nat) (h : j < l.length), j < k → cs[j]? = some (.iface 52 (.string (l[j]'h)))
theorem LR.start (w : World) (n : Nat) (l : List ByteArray) : LR (w.alloc (.cells (madeCells #[.nilIface] n) 40)) w.heap.size n l 0 :=
  ⟨_, heap_alloc_new _ _, size_madeCells _ _, fun _ _ h => absurd h (Nat.not_lt_zero _)⟩
theorem LR.cell {w : World} {g n k : Nat} {l : List ByteArray} (h : LR w g n l k) {j : Nat} (hj : j < n) : ∃ u, w.cell? ⟨g, j, none⟩ = some u := by
  obtain ⟨cs, h1, h2, _⟩ := h
  refine ⟨cs[j]'(by omega), ?_⟩
  simp only [World.cell?, h1]
  show cs[j]? = _
  exact Array.getElem?_eq_getElem _
theorem LR.free {w : World} {g n k : Nat} {l : List ByteArray} (h : LR w g n l k) (j : Nat) : w.frozen? ⟨g, j, none⟩ = false := by
  obtain ⟨cs, h1, h2, _⟩ := h
  simp [World.frozen?, h1]
theorem LR.set {w : World} {g n k : Nat} {l : List ByteArray} (h : LR w g n l k) (hk : k < l.length) (hn : k < n) : LR (w.setCell ⟨g, k, none⟩ (.iface 52 (.string (l[k]'hk)))) g n l (k + 1) := by
  obtain ⟨cs, h1, h2, h3⟩ := h
  refine ⟨cs.setIfInBounds k (.iface 52 (.string (l[k]'hk))), ?_, by simpa using h2, fun j hj hjk => ?_⟩
  · simp [World.setCell, Array.getElem?_modify, h1]
  · rw [Array.getElem?_setIfInBounds]
    by_cases e : k = j
    · subst e
      have : k < cs.size := by omega
      simp [this]
    · simp only [e, if_false]
      exact h3 j hj (by omega)
theorem LR.sl {w : World} {g : Nat} {l : List ByteArray} (h : LR w g l.length l l.length) (hl : l.length ≤ 1000) : Sl w (some ⟨g, 0, none⟩) l.length (svs l) := by
  obtain ⟨cs, h1, h2, h3⟩ := h
  refine ⟨by rw [svs_len]; exact Nat.le_refl _, by unfold maxLen; omega, fun _ => ⟨g, 0, rfl, fun j u hu => ?_⟩⟩
  have hj : j < l.length := by
    have := (List.getElem?_eq_some_iff.1 hu).1
    rwa [svs_len] at this
  rw [svs_get l j hj] at hu
  rw [← Option.some.inj hu, Nat.zero_add]
  simp only [World.cell?, h1]
  exact h3 j hj hj
set_option maxRecDepth 100000 in
theorem listLen_any (A : Option Addr) (n c g : Nat) (w : World) (hb : Blk w g 78 #[.slice A n c, .bool false, .int .u32 0]) :
    Calls Tryz.prog 21 #[.pointer (some ⟨g, 0, none⟩)] w fun e w' => e = .returned (.int .i64 n) ∧ w = w' := by
  have c0 : w.cell? ⟨g, 0, none⟩ = some (.slice A n c) := hb.cell 0
  clear hb
  go_enter Tryz.func21, Tryz.ntmps21
  go_wp2_with fail
  go_ret
  exact ⟨rfl, rfl⟩
set_option maxRecDepth 100000 in
theorem listIndex_any (b off n c g k : Nat) (v : Value) (w : World) (hb : Blk w g 78 #[.slice (some ⟨b, off, none⟩) n c, .bool false, .int .u32 0]) (hk : k < n) (hn : n ≤ 1000) (hv : w.cell? ⟨b, off + k, none⟩ = some v) :
    Calls Tryz.prog 22 #[.pointer (some ⟨g, 0, none⟩), .int .i64 k] w fun e w' => e = .returned v ∧ w = w' := by
  have c0 : w.cell? ⟨g, 0, none⟩ = some (.slice (some ⟨b, off, none⟩) n c) := hb.cell 0
  clear hb
  go_enter Tryz.func22, Tryz.ntmps22
  go_wp2_with fail
  go_ret
  exact ⟨rfl, rfl⟩
end Go.Proofs.YtcamjefacbaniaaGreatDoor
