/- The law FnIntMul returns true for every two signs and rows of bytes, and leaves its arguments as they were; a card that ties the three thresholds of the package to the text. (The card speaks of the pruned copy.) -/
import Derived.Test.YtikjdibngkcpkaaDoorMA
import Derived.Test.YtikjdibngkcpkaaDoorRows
import Derived.WalkKit
import Derived.ProofKit
import Derived.OpenShut
import Derived.ShutString
import Derived.ChangeOld
import Derived.Below
import Derived.Test.YtikjdibngkcpkaaDoorCards
import Derived.Test.YtikjdibngkcpkaaDoorTie
import Derived.LaidLaws
import Derived.SevenTiedAt
import Derived.LaidSub
import Derived.ChangeVars
import Derived.RowKit
namespace Go.Proofs.YtikjdibngkcpkaaDoor.fnIntMul
open Go.ChangeShapes Go.WideShapes Go.ChangeAt Go.RowKit
open Go.ChangeMaps (open_string shut_string)
set_option linter.unusedVariables false

theorem own : ownKnob Tryd.prog.godebug = none := by kernel_rfl
theorem laidOut : laidOutB Tryd.prog = true := by kernel_rfl

/-- WHAT THE WALK IS TOLD OF A SLICE OF INTEGERS THAT CAME IN: it is nil; or it leads to a row of 'cap' cells, the numbers 'zs' (the first 'len' are its elements, the rest its spare room), each fitting its kind. -/
def IsRow (k : IntKind) (w : World) (a : Option Addr) (len cap : Nat) (zs : List Int) : Prop :=
  (a = none ∧ len = 0 ∧ cap = 0 ∧ zs = []) ∨
  ∃ x, a = some x ∧ len ≤ cap ∧ cap ≤ maxLen ∧ zs.length = cap ∧ (∀ i, i < zs.length → w.cell? (x.add i) = some (.int k (zs.getD i 0))) ∧ ∀ n ∈ zs, (Lit.int k n).wf = true

theorem int_trod {H : Type} {enc : TypeId × Value → H} {P : Program} {w : World} {base : Nat} {sp : Nat → Bool} {held : Bool} {fuel : Nat} {t : TypeId} {k : IntKind} {v : Int} {cs : List Value} {p : List MemPlace}
    (ht : P.underlying t = some (.int k)) (h : DataW.trod enc P w base sp held fuel t cs = some (.lit (.int k v), p)) : cs = [.int k v] := by
  cases fuel with
  | zero => simp [DataW.trod] at h
  | succ fuel =>
    match cs, h with
    | [], h => simp [DataW.trod, ht] at h
    | c :: d :: r, h => simp [DataW.trod, ht] at h
    | [c], h =>
      cases c <;> simp [DataW.trod, ht] at h
      obtain ⟨⟨rfl, _⟩, ⟨rfl, _⟩⟩ := h
      rfl
theorem lit_cell {P : Program} {W : World} {n : String} {g : Nat} {t : TypeId} {k : IntKind} {v : Int} (h : laidMet P [(n, .lit (.int k v))] W) (hg : P.globalNamed n = some g) (ht : (P.globals[g]?).map (·.type) = some t) (hu : P.underlying t = some (.int k)) :
    W.var? P n = some #[.int k v] := by
  obtain ⟨ps, ⟨g', t', cs, fuel, p, q, hg', ht', hvar, hd, _, _⟩, _⟩ := h
  obtain rfl := Option.some.inj (hg.symm.trans hg')
  obtain rfl := Option.some.inj (ht.symm.trans ht')
  have h1 := int_trod hu hd
  rw [hvar]
  congr 1
  exact Array.toList_inj.1 (by simpa using h1)
theorem vars_below {H : Type} {enc : TypeId × Value → H} {P : Program} {W W' : World} {sp sp' : Nat → Bool} (hb : Below W.heap.size W W') : ∀ {ns : List String} {gs : List (DataW H)} {q : List MemPlace},
    (∀ n ∈ ns, ∃ (g : Nat) (t : TypeId) (k : IntKind) (v : Int), P.globalNamed n = some g ∧ (P.globals[g]?).map (·.type) = some t ∧ P.underlying t = some (.int k) ∧ W.var? P n = some #[.int k v]) →
    DataW.TrodVars enc P W sp ns gs q → DataW.TrodVars enc P W' sp' ns gs q
  | [], [], q, _, h => h
  | [], _ :: _, q, _, h => by simp [DataW.TrodVars] at h
  | _ :: _, [], q, _, h => by simp [DataW.TrodVars] at h
  | n :: ns, d :: ds, q, hn, h => by
    obtain ⟨g, t, cs, fuel, p, q', hg, ht, hv, hd, hr, rfl⟩ := h
    obtain ⟨g2, t2, k, v, hg2, ht2, hu, hv2⟩ := hn n (List.mem_cons_self ..)
    obtain rfl := Option.some.inj (hg.symm.trans hg2)
    obtain rfl := Option.some.inj (ht.symm.trans ht2)
    obtain rfl := Option.some.inj (hv.symm.trans hv2)
    refine ⟨g, t, _, fuel, p, q', hg, ht, ?_, ?_, vars_below hb (fun m hm => hn m (List.mem_cons_of_mem _ hm)) hr, rfl⟩
    · have h0 := hv
      simp only [World.var?, hg, Option.bind_some] at h0 ⊢
      have hlt : g < W.heap.size := by
        rcases Nat.lt_or_ge g W.heap.size with h1 | h1
        · exact h1
        · rw [Array.getElem?_eq_none h1] at h0; cases h0
      rw [hb.block g hlt]
      exact h0
    · cases fuel with
      | zero => simp [DataW.trod] at hd
      | succ fuel => simpa [DataW.trod, hu] using hd
theorem vars_len {H : Type} {enc : TypeId × Value → H} {P : Program} {W : World} {sp : Nat → Bool} : ∀ {ns : List String} {gs : List (DataW H)} {q : List MemPlace}, DataW.TrodVars enc P W sp ns gs q → gs.length = ns.length
  | [], [], _, _ => rfl
  | [], _ :: _, _, h => by simp [DataW.TrodVars] at h
  | _ :: _, [], _, h => by simp [DataW.TrodVars] at h
  | n :: ns, d :: ds, _, h => by
    obtain ⟨g, t, cs, fuel, p, q', _, _, _, _, hr, _⟩ := h
    simp [vars_len hr]
theorem gn0 : Tryd.prog.globalNamed "given.example/pub-larkspur/pub/bigall.basicSqrThreshold" = some 0 := by kernel_rfl
theorem gt0 : (Tryd.prog.globals[0]?).map (·.type) = some 3 := by kernel_rfl
theorem gn1 : Tryd.prog.globalNamed "given.example/pub-larkspur/pub/bigall.karatsubaSqrThreshold" = some 1 := by kernel_rfl
theorem gt1 : (Tryd.prog.globals[1]?).map (·.type) = some 3 := by kernel_rfl
theorem gn2 : Tryd.prog.globalNamed "given.example/pub-larkspur/pub/bigall.karatsubaThreshold" = some 2 := by kernel_rfl
theorem gt2 : (Tryd.prog.globals[2]?).map (·.type) = some 3 := by kernel_rfl
theorem only0 : Rows.fnIntMulRow.laid.filter (fun x => x.1 == "given.example/pub-larkspur/pub/bigall.basicSqrThreshold") = [("given.example/pub-larkspur/pub/bigall.basicSqrThreshold", .lit (.int .i64 12))] := by kernel_rfl
theorem only1 : Rows.fnIntMulRow.laid.filter (fun x => x.1 == "given.example/pub-larkspur/pub/bigall.karatsubaSqrThreshold") = [("given.example/pub-larkspur/pub/bigall.karatsubaSqrThreshold", .lit (.int .i64 80))] := by kernel_rfl
theorem only2 : Rows.fnIntMulRow.laid.filter (fun x => x.1 == "given.example/pub-larkspur/pub/bigall.karatsubaThreshold") = [("given.example/pub-larkspur/pub/bigall.karatsubaThreshold", .lit (.int .i64 40))] := by kernel_rfl
def lay (k : IntKind) (v : Int) : Obj → Obj
  | .cells _ t fr => .cells #[.int k v] t fr
  | o => o
/-- the settled world, the variables holding what their initialisers lay: the witness -/
noncomputable def laidWorld (os : Os) : World :=
  { World.holding Tryd.prog os ⟨#[], #[], []⟩ with heap := ((((World.holding Tryd.prog os ⟨#[], #[], []⟩).heap.modify 0 (lay .i64 12)).modify 1 (lay .i64 80)).modify 2 (lay .i64 40)) }
theorem laid_met (os : Os) (args : Array Value) : laidMet Tryd.prog Rows.fnIntMulRow.laid ((laidWorld os).forCall (fun _ _ => 0) ⟨#[], args, []⟩).memory :=
  laidMet_of_run' 8 (by kernel_rfl) (by kernel_rfl)

/-! the walk -/
theorem walk (a0 : Bool) (a1 : Option Addr) (len1 cap1 : Nat) (z1 : List Int) (a2 : Bool) (a3 : Option Addr) (len3 cap3 : Nat) (z3 : List Int) (w : World) (w1 : IsRow .u8 w a1 len1 cap1 z1) (w3 : IsRow .u8 w a3 len3 cap3 z3) (hgl_0 : w.cell? ⟨0, 0, none⟩ = some (.int .i64 (12))) (hgl_1 : w.cell? ⟨1, 0, none⟩ = some (.int .i64 (80))) (hgl_2 : w.cell? ⟨2, 0, none⟩ = some (.int .i64 (40))) :
    Calls Tryd.prog 3 #[.bool a0, .slice a1 len1 cap1, .bool a2, .slice a3 len3 cap3] w fun e w' => e = .returned (.bool true) ∧ Below w.heap.size w w' := by
  obtain ⟨l1, rfl, s1, d1⟩ := row_sl w1
  obtain ⟨l3, rfl, s3, d3⟩ := row_sl w3
  exact FnIntMul_any a0 a1 cap1 l1 d1 a2 a3 cap3 l3 d3 w s1 s3 hgl_2

/-! ### THE ROW's STEP: WRITTEN OUT: LEAVE IT -/
set_option maxRecDepth 100000 in
theorem lifted (os : Os) (started : os.Started) (H : Type) (enc : TypeId × Value → H) :
    ReturnsInHanded {} Tryd.checked os 3 .any (fun w args => (Rows.fnIntMulSpec.pre enc Tryd.prog Tryd.f3 Rows.fnIntMulRow.domain false w args ∧ laidMet Tryd.prog Rows.fnIntMulRow.laid w) ∧ sizedMet enc Tryd.prog Tryd.f3 (OpenSpec.ofChange Rows.fnIntMulSpec) false w args) (Rows.fnIntMulSpec.post enc Tryd.prog Tryd.f3 false true false false) := by
  refine returnsInHanded_of_change_and (C := Tryd.checked) (X := fun w _ => laidMet Tryd.prog Rows.fnIntMulRow.laid w) (fun _ _ _ hh h => h.of_heap hh) own started (by kernel_rfl) Tryd.func3
    (ChangeSpec.witness_at (enc := enc) (C := Tryd.checked) (os := os) (X := fun w _ => laidMet Tryd.prog Rows.fnIntMulRow.laid w) false (laidWorld os) #[.bool false, .slice none 0 0, .bool false, .slice none 0 0] 8 rfl (by kernel_rfl) (by kernel_rfl) (by kernel_rfl) (by kernel_rfl) (by kernel_rfl)
      (laid_met os _)) ?_
  intro W base args ds gs before hval0 hW hcnd _ hL _
  have hval : ∀ (j : Nat) t v, Tryd.f3.params[j]? = some t → args[j]? = some v → Value.okWide Tryd.prog W .any base t v := hval0
  have hW' := hW
  obtain ⟨p, q, hA0, hV, rfl, hfz, hnd⟩ := hW
  have hA : DataW.TrodAll enc Tryd.prog W 0 (fun _ => true) true Tryd.f3.params.toList args.toList ds p := hA0
  rw [Tryd.params3] at hA hval
  obtain ⟨v0, vs0, d0, ds0, p0, q0, hargs, rfl, rfl, h0, r0⟩ := trodAll_cons hA
  obtain ⟨v1, vs1, d1, ds1, p1, q1, rfl, rfl, rfl, h1, r1⟩ := trodAll_cons r0
  obtain ⟨v2, vs2, d2, ds2, p2, q2, rfl, rfl, rfl, h2, r2⟩ := trodAll_cons r1
  obtain ⟨v3, vs3, d3, ds3, p3, q3, rfl, rfl, rfl, h3, r3⟩ := trodAll_cons r2
  obtain ⟨rfl, rfl, rfl⟩ := trodAll_nil r3
  obtain rfl : args = #[v0, v1, v2, v3] := by cases args; simp_all
  have hV0 : DataW.TrodVars enc Tryd.prog W (fun _ => true) ["given.example/pub-larkspur/pub/bigall.basicSqrThreshold", "given.example/pub-larkspur/pub/bigall.karatsubaSqrThreshold", "given.example/pub-larkspur/pub/bigall.karatsubaThreshold"] gs q := hV
  have hL0 := hL.filter (fun x => x.1 == "given.example/pub-larkspur/pub/bigall.basicSqrThreshold")
  rw [only0] at hL0
  have hv0 := lit_cell hL0 gn0 gt0 Tryd.underlying3
  have hgl_0 := World.var?_cell gn0 hv0 0
  simp only [List.getElem?_toArray, List.getElem?_cons_zero] at hgl_0
  have hL1 := hL.filter (fun x => x.1 == "given.example/pub-larkspur/pub/bigall.karatsubaSqrThreshold")
  rw [only1] at hL1
  have hv1 := lit_cell hL1 gn1 gt1 Tryd.underlying3
  have hgl_1 := World.var?_cell gn1 hv1 0
  simp only [List.getElem?_toArray, List.getElem?_cons_zero] at hgl_1
  have hL2 := hL.filter (fun x => x.1 == "given.example/pub-larkspur/pub/bigall.karatsubaThreshold")
  rw [only2] at hL2
  have hv2 := lit_cell hL2 gn2 gt2 Tryd.underlying3
  have hgl_2 := World.var?_cell gn2 hv2 0
  simp only [List.getElem?_toArray, List.getElem?_cons_zero] at hgl_2
  obtain ⟨g0, g1, g2, rfl⟩ : ∃ g0 g1 g2, gs = [g0, g1, g2] := by
    match gs, vars_len hV0 with
    | [g0, g1, g2], _ => exact ⟨g0, g1, g2, rfl⟩
  obtain ⟨a0, rfl, rfl, rfl⟩ := open_bool Tryd.underlying4 (hval 0 4 v0 rfl rfl) h0
  obtain ⟨a1, len1, cap1, rfl⟩ := okWide_slice Tryd.underlying22 (hval 1 22 v1 rfl rfl)
  have k1 := h1
  have lt1 : ∀ x ∈ p1, x.block < W.heap.size := by obtain ⟨m, hm⟩ := k1; exact DataW.trod_lt m _ _ _ hm
  obtain ⟨z1, w1⟩ : ∃ zs, IsRow .u8 W a1 len1 cap1 zs := by
    obtain ⟨fuel, hf⟩ := h1
    rcases open_ints Tryd.underlying22 Tryd.underlying5 (by kernel_rfl) hf with ⟨hcs, _⟩ | ⟨x, l, c, zs, hcs, _, hl, hm, hz, _, hcell, hwz⟩
    · simp [Value.cells] at hcs
      obtain ⟨rfl, rfl, rfl⟩ := hcs
      exact ⟨[], .inl ⟨rfl, rfl, rfl, rfl⟩⟩
    · simp [Value.cells] at hcs
      obtain ⟨rfl, rfl, rfl⟩ := hcs
      exact ⟨zs, .inr ⟨_, rfl, hl, hm, by simpa using hz, hcell, hwz⟩⟩
  obtain ⟨a2, rfl, rfl, rfl⟩ := open_bool Tryd.underlying4 (hval 2 4 v2 rfl rfl) h2
  obtain ⟨a3, len3, cap3, rfl⟩ := okWide_slice Tryd.underlying22 (hval 3 22 v3 rfl rfl)
  have k3 := h3
  have lt3 : ∀ x ∈ p3, x.block < W.heap.size := by obtain ⟨m, hm⟩ := k3; exact DataW.trod_lt m _ _ _ hm
  obtain ⟨z3, w3⟩ : ∃ zs, IsRow .u8 W a3 len3 cap3 zs := by
    obtain ⟨fuel, hf⟩ := h3
    rcases open_ints Tryd.underlying22 Tryd.underlying5 (by kernel_rfl) hf with ⟨hcs, _⟩ | ⟨x, l, c, zs, hcs, _, hl, hm, hz, _, hcell, hwz⟩
    · simp [Value.cells] at hcs
      obtain ⟨rfl, rfl, rfl⟩ := hcs
      exact ⟨[], .inl ⟨rfl, rfl, rfl, rfl⟩⟩
    · simp [Value.cells] at hcs
      obtain ⟨rfl, rfl, rfl⟩ := hcs
      exact ⟨zs, .inr ⟨_, rfl, hl, hm, by simpa using hz, hcell, hwz⟩⟩
  clear hA0 hval0
  refine (walk a0 a1 len1 cap1 z1 a2 a3 len3 cap3 z3 W w1 w3 hgl_0 hgl_1 hgl_2).mono fun e W' ⟨he, bel⟩ => ?_
  subst he
  have hvars : DataW.TrodVars enc Tryd.prog W' (fun b => decide (b < W.heap.size)) ["given.example/pub-larkspur/pub/bigall.basicSqrThreshold", "given.example/pub-larkspur/pub/bigall.karatsubaSqrThreshold", "given.example/pub-larkspur/pub/bigall.karatsubaThreshold"] [g0, g1, g2] q := vars_below bel (fun n hn => by
    simp only [List.mem_cons, List.not_mem_nil, or_false] at hn
    rcases hn with rfl | rfl | rfl
    · exact ⟨_, _, _, _, gn0, gt0, Tryd.underlying3, hv0⟩
    · exact ⟨_, _, _, _, gn1, gt1, Tryd.underlying3, hv1⟩
    · exact ⟨_, _, _, _, gn2, gt2, Tryd.underlying3, hv2⟩) hV0
  exact ⟨_, rfl, _, _, _, [], _, _, hW', trodAll_mk1 (shut_bool Tryd.underlying4 _), (trodAll_cons_mk (shut_bool Tryd.underlying4 _) (trodAll_cons_mk (Below.trod laidOut (by kernel_rfl) (of_decide_eq_true (by kernel_rfl)) k1 bel lt1) (trodAll_cons_mk (shut_bool Tryd.underlying4 _) (trodAll_cons_mk (Below.trod laidOut (by kernel_rfl) (of_decide_eq_true (by kernel_rfl)) k3 bel lt3) trodAll_mk0)))), hvars, bel.frame _, fun h => by cases h⟩

theorem over : Rows.fnIntMulRow.holds Tryd.pinned (OpenSpec.ofChange Rows.fnIntMulSpec) :=
  OpenClaim.holds_of_wide 3 Tryd.f3 rfl rfl rfl rfl rfl rfl rfl ⟨rfl, rfl, rfl, rfl, rfl⟩ rfl rfl rfl rfl rfl (by kernel_rfl) Tryd.func3 (by kernel_rfl)
    (of_decide_eq_true (by kernel_rfl)) (by unfold Func.isWrapper; first | (rw [if_pos (by decide +kernel)]; kernel_rfl) | (rw [if_neg (by decide +kernel)]; exact ⟨rfl, rfl⟩))
    (fun os started H enc _ => lifted os started H enc)

/-- ████ THE STATEMENT ████ -/
theorem proved : Rows.FnIntMulCardSaid :=
  Claim7.holds_tied_plain_at .later [] [.data, .data, .data] true (true, "e47193517f9b2758193cc1d59d95e55eb589fe4aac460d4d75d6137120e59faf") false
    over (fun _ h => by cases h) (by kernel_rfl) (fun _ h => by cases h) fnIntMul_row_tie rfl ⟨rfl, rfl⟩ (by kernel_rfl) rfl
    (fun f fn hf hfn => by
      obtain rfl : f = 3 := Option.some.inj ((show Tryd.prog.funcNamed "given.example/pub-larkspur/laws.FnIntMul" = some 3 by kernel_rfl).symm.trans hf) |>.symm
      obtain rfl : fn = Tryd.f3 := (Option.some.inj (Tryd.func3.symm.trans hfn)).symm
      exact ⟨by kernel_rfl, fun j t ht => by
        rw [Tryd.params3] at ht
        have h3 : t = 4 ∨ t = 22 := by
          rcases j with _ | _ | _ | _ | j
          · have e : t = 4 := by simpa using ht.symm
            subst e; simp
          · have e : t = 22 := by simpa using ht.symm
            subst e; simp
          · have e : t = 4 := by simpa using ht.symm
            subst e; simp
          · have e : t = 22 := by simpa using ht.symm
            subst e; simp
          · simp at ht
        rcases h3 with rfl | rfl
        · exact (show Tryd.prog.wantsStandIn 4 = false by kernel_rfl)
        · exact (show Tryd.prog.wantsStandIn 22 = false by kernel_rfl)⟩)
    (by kernel_rfl)
#print axioms proved
end Go.Proofs.YtikjdibngkcpkaaDoor.fnIntMul
