/- The walks of FnBytesIndex: the i-th byte of bytes, as bytes of one. -/
import Derived.Test.YtccbhddfngdlfaaRows
import Derived.WalkKit
import Derived.ProofKit
import Derived.Outline
import Derived.Handy
import Derived.WalkLawsBesides
import Derived.WalkSpells
import Derived.Deep.QuietTactic
import Derived.Deep.RegionWith
import Derived.BigQuiet
import Derived.Lib.Hide
import Derived.Laws.CopyOwn
namespace Go.Proofs.Ytccbhddfngdlfaa.fnBytesIndex
open Go.ChangeShapes Go.WideShapes Go.ChangeAt Go.RowKit
set_option linter.unusedVariables false

theorem blk_after {w w2 : World} {o : Obj} (hb : Below (w.alloc o).heap.size (w.alloc o) w2) : w2.heap[w.heap.size]? = some o :=
  (hb.block w.heap.size (by simp)).trans (heap_alloc_new w o)
theorem bodyPost_blk {P : Program} {fn : Func} {R : Ending → World → Prop} {a : Act} {w : World} {p : Tmp} {ty : TypeId} {g : Nat} {t : TypeId} {cs : Array Value} {fr : Nat × Nat} {d : TypeDesc} (h : fn.results = #[.cell p ty])
    (hp : a.tmps.getD p undef = .pointer (some ⟨g, 0, none⟩)) (hg : w.heap[g]? = some (.cells cs t fr)) (hu : P.underlying ty = some d) (hd : (match d with | .struct _ | .array _ _ => true | _ => false) = true) (hi : (P.info? ty).map (·.size) = some cs.size)
    (hdf : a.defers = []) (hR : R (.returned (.agg cs)) w) : bodyPost P fn R .ret a w :=
  bodyPost_ret (results_cell_row h _ w g t cs fr d hp hg hu hd hi) hdf hR
theorem info37 : (Try.prog.info? 37).map (·.size) = some 6 := by kernel_rfl
@[go_sem] theorem ta83 (v : Value) (w : World) : (Instr.typeAssert (.iface 70 v) 69 83 true).run Try.prog w = .ok (.tuple #[.int .u8 0, .bool false]) w := by kernel_rfl
@[go_sem] theorem ta51 (v : Value) (w : World) : (Instr.typeAssert (.iface 70 v) 69 51 true).run Try.prog w = .ok (.tuple #[.bool false, .bool false]) w := by kernel_rfl
@[go_sem] theorem ta88 (v : Value) (w : World) : (Instr.typeAssert (.iface 70 v) 69 88 true).run Try.prog w = .ok (.tuple #[.agg #[.int .i64 0, .pointer none], .bool false]) w := by kernel_rfl
@[go_sem] theorem ta90 (v : Value) (w : World) : (Instr.typeAssert (.iface 70 v) 69 90 true).run Try.prog w = .ok (.tuple #[.float .f64 0, .bool false]) w := by kernel_rfl
@[go_sem] theorem ta92 (v : Value) (w : World) : (Instr.typeAssert (.iface 70 v) 69 92 true).run Try.prog w = .ok (.tuple #[.string ByteArray.empty, .bool false]) w := by kernel_rfl
@[go_sem] theorem ta70 (v : Value) (w : World) : (Instr.typeAssert (.iface 70 v) 69 70 true).run Try.prog w = .ok (.tuple #[v, .bool true]) w := by kernel_rfl
theorem index_any (s : ByteArray) (k : Nat) (hk : k < s.size) (hs : s.size ≤ 2147483647) (w : World) :
    Calls Try.prog 35 #[.string s, .int .i64 k] w fun e w' => e = .returned (.iface 70 (.string (s.extract k (k + 1)))) ∧ w = w' := by
  go_enter Try.func35, Try.ntmps35
  go_wp2
  go_ret
  exact ⟨rfl, rfl⟩
def bv (s : ByteArray) : Value := .agg #[.int .i64 5, .bool false, .slice none 0 0, .int .u64 0, .string s, .slice none 0 0]
set_option maxRecDepth 100000 in
theorem tell_any (s : ByteArray) (w : World) :
    Calls Try.prog 34 #[.iface 70 (.string s)] w fun e w' => e = .returned (bv s) ∧ Below w.heap.size w w' := by
  go_enter Try.func34, Try.ntmps34
  go_wp2
  go_returns
  exact ⟨rfl, by go_grown⟩
set_option maxRecDepth 100000 in
theorem same_any (s : ByteArray) (w : World) :
    Calls Try.prog 15 #[bv s, bv s] w fun e w' => e = .returned (.bool true) ∧ Below w.heap.size w w' := by
  simp only [bv]
  go_enter Try.func15, Try.ntmps15
  go_wp2
  go_rounds 1
  go_ret
  exact ⟨rfl, by go_grown⟩

set_option maxRecDepth 100000 in
theorem bytesIndex_any (s : ByteArray) (k : Nat) (hk : k < s.size) (hs : s.size ≤ 2147483647) (w : World) :
    Calls Try.prog 16 #[.string s, .int .i64 k] w fun e w' => e = .returned (bv (s.extract k (k + 1))) ∧ Below w.heap.size w w' ∧ w.heap.size < w'.heap.size := by
  go_enter Try.func16, Try.ntmps16
  go_wp2_with fail
  refine (index_any s k hk hs _).mono ?_
  rintro e w1 ⟨rfl, rfl⟩
  go_wp2_with fail
  refine (tell_any _ _).mono ?_
  rintro e w2 ⟨rfl, hb⟩
  simp only [bv]
  have hb2 : Below w.heap.size w w2 := Below.trans (by go_grown) (hb.mono (by simp))
  have hz := hb.size
  simp only [World.size_alloc] at hz
  have hk := blk_after hb
  have H := Lib.hid hk
  clear hk
  go_wp2_with (refine wpList_store_row rfl 37 (.tmp 4) (.tmp 17) rfl w.heap.size _ rfl rfl 37 _ H.out info37 rfl (by simp [Value.oneCell']) ?_)
  refine bodyPost_blk (cs := #[.int .i64 5, .bool false, .slice none 0 0, .int .u64 0, .string (s.extract k (k + 1)), .slice none 0 0]) rfl rfl (setRow_heap _ _ _ _ _ _ H.out) Try.underlying37 rfl (by exact info37) rfl ?_
  exact ⟨rfl, below_setRow hb2 (Nat.le_refl _) _, by simp; omega⟩
set_option maxRecDepth 100000 in
theorem law (s : ByteArray) (k : Nat) (i : Int) (hk : k < s.size) (hs : s.size ≤ 2147483647) (w : World) (he : s.toList.isEmpty = false) (hi : (i.tmod s.size + s.size).tmod s.size = k)
    (i0 : -9223372036854775808 ≤ i) (i1 : i ≤ 9223372036854775807) :
    Calls Try.prog 5 #[.string s, .int .i64 i] w fun e w' => e = .returned (.bool true) ∧ Below w.heap.size w w' := by
  have hp : (1 : Int) ≤ s.size := by omega
  have b1 : -(s.size : Int) < i.tmod s.size := by
    have := Int.tmod_lt_of_pos (-i) (b := (s.size : Int)) (by omega)
    rw [Int.neg_tmod] at this
    omega
  have b2 : i.tmod s.size < s.size := Int.tmod_lt_of_pos i (by omega)
  go_enter Try.func5, Try.ntmps5
  go_wp2
  clear hi b1 b2 he i0 i1
  have e1 : IntKind.i64.wrap ((k : Int) + 1) = (k : Int) + 1 := IntWalk.i64_in _ (by omega)
  have e2 : (0 : Int) ≤ (k : Int) + 1 := by omega
  have e3 : ((k : Int) + 1).toNat = k + 1 := by omega
  have e4 : k ≤ s.size := by omega
  have e5 : k + 1 ≤ s.size := by omega
  go_region_with (first
    | (go_at_call 16; refine (bytesIndex_any s k hk hs _).mono ?_; rintro e w1 ⟨rfl, hb1, hz1⟩)
    | (go_at_call 15; refine (same_any (s.extract k (k + 1)) _).mono ?_; rintro e w2 ⟨rfl, hb2⟩))
  all_goals
    go_wp2
    go_ret
    exact ⟨rfl, (Below.drew (Below.refl _ w)).trans ((show Below w.heap.size w.drew w1 from hb1).trans (hb2.mono (by simp at hz1; omega)))⟩
def xs : ByteArray := ⟨#[120]⟩
set_option maxRecDepth 100000 in
theorem law_empty (i : Int) (w : World) (i0 : -9223372036854775808 ≤ i) (i1 : i ≤ 9223372036854775807) :
    Calls Try.prog 5 #[.string ByteArray.empty, .int .i64 i] w fun e w' => e = .returned (.bool true) ∧ Below w.heap.size w w' := by
  have f1 : i.tmod 1 = 0 := by simp
  go_enter Try.func5, Try.ntmps5
  go_wp2
  clear f1 i0 i1
  go_region_with (first
    | (go_at_call 16; refine (bytesIndex_any ⟨#[120]⟩ 0 (by decide) (by decide) _).mono ?_; rintro e w1 ⟨rfl, hb1, hz1⟩)
    | (go_at_call 15; refine (same_any ((⟨#[120]⟩ : ByteArray).extract 0 1) _).mono ?_; rintro e w2 ⟨rfl, hb2⟩))
  all_goals
    go_wp2
    go_ret
    exact ⟨rfl, (Below.drew (Below.refl _ w)).trans ((show Below w.heap.size w.drew w1 from hb1).trans (hb2.mono (by simp at hz1; omega)))⟩
set_option maxRecDepth 100000 in
theorem law_long (s : ByteArray) (i : Int) (w : World) (hs : 2147483647 < s.size)  :
    Calls Try.prog 5 #[.string s, .int .i64 i] w fun e w' => e = .returned (.bool true) ∧ Below w.heap.size w w' := by
  go_enter Try.func5, Try.ntmps5
  go_wp2
  go_ret
  exact ⟨rfl, Below.refl _ _⟩
theorem walk (a0 : ByteArray) (a1 : Int) (w0 : a0.size ≤ maxLen) (w1 : (Lit.int .i64 a1).wf = true) (w : World) :
    Calls Try.prog 5 #[.string a0, .int .i64 a1] w fun e w' => e = .returned (.bool true) ∧ Below w.heap.size w w' := by
  have hb : -9223372036854775808 ≤ a1 ∧ a1 ≤ 9223372036854775807 := by simpa [Lit.wf, IntKind.min, IntKind.max, IntKind.signed, IntKind.bits] using w1
  by_cases hl : 2147483647 < a0.size
  · exact law_long a0 a1 w hl
  · by_cases he : a0.size = 0
    · obtain rfl : a0 = ByteArray.empty := by
        obtain ⟨d⟩ := a0
        obtain rfl : d = #[] := Array.eq_empty_of_size_eq_zero he
        rfl
      exact law_empty a1 w hb.1 hb.2
    · have h1 := Int.tmod_nonneg (a := a1.tmod a0.size + a0.size) (a0.size : Int) (by
        have := Int.tmod_lt_of_pos (-a1) (b := (a0.size : Int)) (by omega)
        rw [Int.neg_tmod] at this
        omega)
      have h2 := Int.tmod_lt_of_pos (a1.tmod a0.size + a0.size) (b := (a0.size : Int)) (by omega)
      refine law a0 ((a1.tmod a0.size + a0.size).tmod a0.size).toNat a1 (by omega) (by omega) w ?_ (by omega) hb.1 hb.2
      obtain ⟨⟨l⟩⟩ := a0
      cases l with
      | nil => exact absurd rfl he
      | cons x l => simp [ByteArray.toList_mk] <;> rfl
end Go.Proofs.Ytccbhddfngdlfaa.fnBytesIndex
