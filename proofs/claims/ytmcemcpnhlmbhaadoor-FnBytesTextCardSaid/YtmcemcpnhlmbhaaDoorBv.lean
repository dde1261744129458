/- The law FnBytesText returns true for every text, and leaves it as it was; a card over the six tables of the standard library that its row lists. -/
import Derived.Test.YtmcemcpnhlmbhaaDoorBs
import Derived.Test.YtmcemcpnhlmbhaaDoorRows
import Derived.Test.YtmcemcpnhlmbhaaDoorCards
import Derived.Test.YtmcemcpnhlmbhaaDoorTie
import Derived.WalkKit
import Derived.ProofKit
import Derived.OpenShut
import Derived.ShutString
import Derived.Below
import Derived.RowKit
import Derived.ChangeVars
import Derived.LaidLaws
import Derived.LaidSub
import Derived.Lib.LaidTab
import Derived.Lib.LaidIn
import Derived.Lib.LaidU8
import Derived.Lib.LaidPrint
import Derived.Great.LaidInts
import Derived.SevenTiedAt
namespace Go.Proofs.YtmcemcpnhlmbhaaDoor.fnBytesText
open Go.ChangeShapes Go.WideShapes Go.ChangeAt Go.RowKit Go.Great
open Go.ChangeMaps (open_string shut_string)
set_option linter.unusedVariables false

theorem own : ownKnob Tryd.prog.godebug = none := by kernel_rfl
def litOf : DataW Unit → Value
  | .lit l => l.value
  | _ => undef
def litsOf : DataW Unit → List Value
  | .lit l => [l.value]
  | .agg ds => ds.map litOf
  | _ => []
def cellsOf : DataW Unit → Array Value
  | .agg ds => (ds.flatMap litsOf).toArray
  | _ => #[]
def tabs : Lib.PrintTabs := ⟨Go.Pinned.isPrint16Z, Go.Pinned.isNotPrint16Z, Go.Pinned.isPrint32Z, Go.Pinned.isNotPrint32Z⟩
def z1 : List Int := Go.Pinned.isNotPrint16Z.map fun (x : Nat) => (x : Int)
def z3 : List Int := Go.Pinned.isNotPrint32Z.map fun (x : Nat) => (x : Int)
def z0 : List Int := Go.Pinned.isPrint16Z.map fun (x : Nat) => (x : Int)
def z2 : List Int := Go.Pinned.isPrint32Z.map fun (x : Nat) => (x : Int)
/-- the settled world with four blocks more, the six tables holding what their initialisers lay: the witness -/
noncomputable def laidWorld (os : Os) : World :=
  let N := (World.settled Tryd.prog os).heap.size
  let w0 := World.holding Tryd.prog os ⟨#[.cells (z1.map (Value.int .u16)).toArray 42, .cells (z3.map (Value.int .u16)).toArray 42, .cells (z0.map (Value.int .u16)).toArray 42, .cells (z2.map (Value.int .u32)).toArray 41], #[], []⟩
  let put (h : Array Obj) (g : Nat) (cs : Array Value) : Array Obj := h.modify g fun
    | .cells _ t frozen => .cells cs t frozen
    | o => o
  let h0 := put (put w0.heap 5 (cellsOf Rows.laid_unicode_utf8_acceptRanges)) 4 (cellsOf Rows.laid_unicode_utf8_first)
  let h1 := put h0 1 #[.slice (some ⟨N + 0, 0, none⟩) z1.length z1.length]
  let h2 := put h1 3 #[.slice (some ⟨N + 1, 0, none⟩) z3.length z3.length]
  let h3 := put h2 0 #[.slice (some ⟨N + 2, 0, none⟩) z0.length z0.length]
  let h4 := put h3 2 #[.slice (some ⟨N + 3, 0, none⟩) z2.length z2.length]
  { w0 with heap := h4 }
noncomputable abbrev N0 : Nat := (World.settled Tryd.prog default).heap.size
theorem fits (k : IntKind) (zs : List Int) (h : zs.all (fun n => (Lit.int k n).wf) = true) : ∀ n ∈ zs, (Lit.int k n).wf = true := List.all_eq_true.1 h
set_option maxRecDepth 1000000 in
theorem pieceA (os : Os) (args : Array Value) : LaidIn Tryd.prog ((laidWorld os).forCall (fun _ _ => 0) ⟨#[], args, []⟩).memory [("unicode/utf8.acceptRanges", Rows.laid_unicode_utf8_acceptRanges)] [5] :=
  LaidIn.of_run [5] 10 (by kernel_rfl) (by kernel_rfl) (by kernel_rfl) (by kernel_rfl)
set_option maxRecDepth 1000000 in
theorem pieceF (os : Os) (args : Array Value) : LaidIn Tryd.prog ((laidWorld os).forCall (fun _ _ => 0) ⟨#[], args, []⟩).memory [("unicode/utf8.first", Rows.laid_unicode_utf8_first)] [4] :=
  LaidIn.of_run [4] 10 (by kernel_rfl) (by kernel_rfl) (by kernel_rfl) (by kernel_rfl)
theorem d1 : Rows.laid_strconv_isNotPrint16 = .slice (z1.map fun n => .lit (.int .u16 n)) [] := by kernel_rfl
theorem l1 : Rows.laid_strconv_isNotPrint16 = Lib.sliceData .u16 Go.Pinned.isNotPrint16Z := by kernel_rfl
set_option maxRecDepth 1000000 in
theorem piece1 (os : Os) (args : Array Value) : LaidIn Tryd.prog ((laidWorld os).forCall (fun _ _ => 0) ⟨#[], args, []⟩).memory [("strconv.isNotPrint16", Rows.laid_strconv_isNotPrint16)] [1, N0 + 0] := by
  rw [d1]
  exact laidIn_ints (name := "strconv.isNotPrint16") (g := 1) (R := N0 + 0) (t := 43) (e := 42) (tg := 43) (k := .u16) (zs := z1) (by kernel_rfl) (by kernel_rfl) (by kernel_rfl) (by kernel_rfl) (by kernel_rfl) (Nat.le_of_ble_eq_true (by kernel_rfl)) (fits _ _ (by kernel_rfl)) (by kernel_rfl) (by kernel_rfl) (Nat.ne_of_beq_eq_false (by kernel_rfl))
theorem d3 : Rows.laid_strconv_isNotPrint32 = .slice (z3.map fun n => .lit (.int .u16 n)) [] := by kernel_rfl
theorem l3 : Rows.laid_strconv_isNotPrint32 = Lib.sliceData .u16 Go.Pinned.isNotPrint32Z := by kernel_rfl
set_option maxRecDepth 1000000 in
theorem piece3 (os : Os) (args : Array Value) : LaidIn Tryd.prog ((laidWorld os).forCall (fun _ _ => 0) ⟨#[], args, []⟩).memory [("strconv.isNotPrint32", Rows.laid_strconv_isNotPrint32)] [3, N0 + 1] := by
  rw [d3]
  exact laidIn_ints (name := "strconv.isNotPrint32") (g := 3) (R := N0 + 1) (t := 43) (e := 42) (tg := 43) (k := .u16) (zs := z3) (by kernel_rfl) (by kernel_rfl) (by kernel_rfl) (by kernel_rfl) (by kernel_rfl) (Nat.le_of_ble_eq_true (by kernel_rfl)) (fits _ _ (by kernel_rfl)) (by kernel_rfl) (by kernel_rfl) (Nat.ne_of_beq_eq_false (by kernel_rfl))
theorem d0 : Rows.laid_strconv_isPrint16 = .slice (z0.map fun n => .lit (.int .u16 n)) [] := by kernel_rfl
theorem l0 : Rows.laid_strconv_isPrint16 = Lib.sliceData .u16 Go.Pinned.isPrint16Z := by kernel_rfl
set_option maxRecDepth 1000000 in
theorem piece0 (os : Os) (args : Array Value) : LaidIn Tryd.prog ((laidWorld os).forCall (fun _ _ => 0) ⟨#[], args, []⟩).memory [("strconv.isPrint16", Rows.laid_strconv_isPrint16)] [0, N0 + 2] := by
  rw [d0]
  exact laidIn_ints (name := "strconv.isPrint16") (g := 0) (R := N0 + 2) (t := 43) (e := 42) (tg := 43) (k := .u16) (zs := z0) (by kernel_rfl) (by kernel_rfl) (by kernel_rfl) (by kernel_rfl) (by kernel_rfl) (Nat.le_of_ble_eq_true (by kernel_rfl)) (fits _ _ (by kernel_rfl)) (by kernel_rfl) (by kernel_rfl) (Nat.ne_of_beq_eq_false (by kernel_rfl))
theorem d2 : Rows.laid_strconv_isPrint32 = .slice (z2.map fun n => .lit (.int .u32 n)) [] := by kernel_rfl
theorem l2 : Rows.laid_strconv_isPrint32 = Lib.sliceData .u32 Go.Pinned.isPrint32Z := by kernel_rfl
set_option maxRecDepth 1000000 in
theorem piece2 (os : Os) (args : Array Value) : LaidIn Tryd.prog ((laidWorld os).forCall (fun _ _ => 0) ⟨#[], args, []⟩).memory [("strconv.isPrint32", Rows.laid_strconv_isPrint32)] [2, N0 + 3] := by
  rw [d2]
  exact laidIn_ints (name := "strconv.isPrint32") (g := 2) (R := N0 + 3) (t := 46) (e := 41) (tg := 46) (k := .u32) (zs := z2) (by kernel_rfl) (by kernel_rfl) (by kernel_rfl) (by kernel_rfl) (by kernel_rfl) (Nat.le_of_ble_eq_true (by kernel_rfl)) (fits _ _ (by kernel_rfl)) (by kernel_rfl) (by kernel_rfl) (Nat.ne_of_beq_eq_false (by kernel_rfl))
theorem laid_met (os : Os) (args : Array Value) : laidMet Tryd.prog Rows.fnBytesTextRow.laid ((laidWorld os).forCall (fun _ _ => 0) ⟨#[], args, []⟩).memory :=
  ((pieceA os args).append ((piece1 os args).append ((piece3 os args).append ((piece0 os args).append ((piece2 os args).append (pieceF os args) (by kernel_rfl)) (by kernel_rfl)) (by kernel_rfl)) (by kernel_rfl)) (by kernel_rfl)).met
theorem eF : Rows.laid_unicode_utf8_first = Lib.firstData := by kernel_rfl
theorem eA : (Rows.laid_unicode_utf8_acceptRanges : DataW Unit) = Lib.acceptData := by kernel_rfl

set_option maxRecDepth 100000 in
theorem lifted (os : Os) (started : os.Started) (H : Type) (enc : TypeId × Value → H) :
    ReturnsInHanded {} Tryd.checked os 3 .any (fun w args => (Rows.fnBytesTextSpec.pre enc Tryd.prog Tryd.f3 Rows.fnBytesTextRow.domain false w args ∧ laidMet Tryd.prog Rows.fnBytesTextRow.laid w) ∧ sizedMet enc Tryd.prog Tryd.f3 (OpenSpec.ofChange Rows.fnBytesTextSpec) false w args) (Rows.fnBytesTextSpec.post enc Tryd.prog Tryd.f3 false true false false) := by
  refine returnsInHanded_of_change_and (C := Tryd.checked) (X := fun w _ => laidMet Tryd.prog Rows.fnBytesTextRow.laid w) (fun _ _ _ hh h => h.of_heap hh) own started (by kernel_rfl) Tryd.func3
    (ChangeSpec.witness_shaped (enc := enc) (C := Tryd.checked) (os := os) (X := fun w _ => laidMet Tryd.prog Rows.fnBytesTextRow.laid w) false (laidWorld os) #[.string ByteArray.empty] 8 rfl (World.shaped_of_RefB (by kernel_rfl) (by kernel_rfl)) (by kernel_rfl) (by kernel_rfl) (by kernel_rfl)
      (laid_met os _)) ?_
  intro W base args ds gs before hval0 hW hcnd _ hL _
  have hval : ∀ (j : Nat) t v, Tryd.f3.params[j]? = some t → args[j]? = some v → Value.okWide Tryd.prog W .any base t v := hval0
  have hW' := hW
  obtain ⟨p, q, hA0, hV, rfl, hfz, hnd⟩ := hW
  have hA : DataW.TrodAll enc Tryd.prog W 0 (fun _ => true) true Tryd.f3.params.toList args.toList ds p := hA0
  rw [Tryd.params3] at hA hval
  obtain ⟨v0, vs0, d0', ds0, p0, q0, hargs, rfl, rfl, h0, r0⟩ := trodAll_cons hA
  obtain ⟨rfl, rfl, rfl⟩ := trodAll_nil r0
  obtain rfl : args = #[v0] := by cases args; simp_all
  obtain ⟨rfl, rfl⟩ := trodVars_none hV
  obtain ⟨a0, rfl, rfl, rfl, w0⟩ := open_string Tryd.underlying9 (hval 0 9 v0 rfl rfl) h0
  clear hA0 hval0
  simp only [List.append_nil] at hW'
  have hU : Lib.Utf8Tabs 4 5 W :=
    utf8Tabs_of_reads (ρ := Tryd.lays260_ren) { Tryd.lays260 with } ⟨by kernel_rfl, by kernel_rfl, by kernel_rfl, by kernel_rfl, by kernel_rfl, by kernel_rfl, by kernel_rfl⟩
      (by rw [← eF]; exact Lib.laidMet.reads hL (by simp [Rows.fnBytesTextRow])) (by rw [← eA]; exact Lib.laidMet.reads hL (by simp [Rows.fnBytesTextRow]))
  have hT : Lib.PrintTabsAt 0 1 2 3 tabs W :=
    ⟨Lib.tabSlice_of_reads (name := "strconv.isPrint16") (g := 0) (t := 43) (e := 42) (by kernel_rfl) (by kernel_rfl) (by kernel_rfl) (by kernel_rfl) (by kernel_rfl) (by decide) (show Lib.VarReads Tryd.prog W "strconv.isPrint16" (Lib.sliceData .u16 Go.Pinned.isPrint16Z) by rw [← l0]; exact Lib.laidMet.reads hL (by simp [Rows.fnBytesTextRow])),
     Lib.tabSlice_of_reads (name := "strconv.isNotPrint16") (g := 1) (t := 43) (e := 42) (by kernel_rfl) (by kernel_rfl) (by kernel_rfl) (by kernel_rfl) (by kernel_rfl) (by decide) (show Lib.VarReads Tryd.prog W "strconv.isNotPrint16" (Lib.sliceData .u16 Go.Pinned.isNotPrint16Z) by rw [← l1]; exact Lib.laidMet.reads hL (by simp [Rows.fnBytesTextRow])),
     Lib.tabSlice_of_reads (name := "strconv.isPrint32") (g := 2) (t := 46) (e := 41) (by kernel_rfl) (by kernel_rfl) (by kernel_rfl) (by kernel_rfl) (by kernel_rfl) (by decide) (show Lib.VarReads Tryd.prog W "strconv.isPrint32" (Lib.sliceData .u32 Go.Pinned.isPrint32Z) by rw [← l2]; exact Lib.laidMet.reads hL (by simp [Rows.fnBytesTextRow])),
     Lib.tabSlice_of_reads (name := "strconv.isNotPrint32") (g := 3) (t := 43) (e := 42) (by kernel_rfl) (by kernel_rfl) (by kernel_rfl) (by kernel_rfl) (by kernel_rfl) (by decide) (show Lib.VarReads Tryd.prog W "strconv.isNotPrint32" (Lib.sliceData .u16 Go.Pinned.isNotPrint32Z) by rw [← l3]; exact Lib.laidMet.reads hL (by simp [Rows.fnBytesTextRow])), by decide, by decide, by decide⟩
  refine (FnBytesText_any tabs a0 W hT hU).mono fun e W' ⟨he, bel⟩ => ?_
  subst he
  exact ⟨_, rfl, _, _, _, [], [], [], hW', trodAll_mk1 (shut_bool Tryd.underlying4 _), (trodAll_cons_mk (shut_string Tryd.underlying9 w0) trodAll_mk0), rfl, bel.frame _, fun h => by cases h⟩

theorem over : Rows.fnBytesTextRow.holds Tryd.pinned (OpenSpec.ofChange Rows.fnBytesTextSpec) :=
  OpenClaim.holds_of_wide 3 Tryd.f3 rfl rfl rfl rfl rfl rfl rfl ⟨rfl, rfl, rfl, rfl, rfl⟩ rfl rfl rfl rfl rfl (by kernel_rfl) Tryd.func3 (by kernel_rfl)
    (of_decide_eq_true (by kernel_rfl)) (by unfold Func.isWrapper; first | (rw [if_pos (by decide +kernel)]; kernel_rfl) | (rw [if_neg (by decide +kernel)]; exact ⟨rfl, rfl⟩))
    (fun os started H enc _ => lifted os started H enc)

/-- ████ THE STATEMENT ████ -/
theorem proved : Rows.FnBytesTextCardSaid :=
  Claim7.holds_tied_plain_at .later [] [.data, .pinned, .pinned, .pinned, .pinned, .pinned] true (true, "ce292ceddbcb7c69262e5cbda143a2646ec00a15d336c8291f0835b31366f2e7") false
    over (fun _ h => by cases h) (by kernel_rfl) (fun _ h => by cases h) fnBytesText_row_tie rfl ⟨rfl, rfl⟩ (by kernel_rfl) rfl
    (fun f fn hf hfn => by
      obtain rfl : f = 3 := Option.some.inj ((show Tryd.prog.funcNamed "given.example/pub-larkspur/laws.FnBytesText" = some 3 by kernel_rfl).symm.trans hf) |>.symm
      obtain rfl : fn = Tryd.f3 := (Option.some.inj (Tryd.func3.symm.trans hfn)).symm
      exact ⟨by kernel_rfl, fun j t ht => by
        rw [Tryd.params3] at ht
        have h3 : t = 9 := by
          rcases j with _ | j
          · simpa using ht.symm
          · simp at ht
        subst h3
        exact (show Tryd.prog.wantsStandIn 9 = false by kernel_rfl)⟩)
    (by kernel_rfl)
#print axioms proved
end Go.Proofs.YtmcemcpnhlmbhaaDoor.fnBytesText
