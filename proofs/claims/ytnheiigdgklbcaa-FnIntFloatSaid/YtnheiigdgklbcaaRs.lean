/- The reference's shift to the right. -/
import Derived.Test.YtnheiigdgklbcaaSu
import Derived.Test.YtnheiigdgklbcaaLa
namespace Go.Proofs.Ytnheiigdgklbcaa
open Go.ChangeShapes Go.WideShapes Go.ChangeAt Go.RowKit
set_option linter.unusedVariables false
theorem rsh_big (z : Int) (l : List Nat) (n : Nat) (hl : BE l z.natAbs) (hn : 8 * l.length < n) : z / ((2 ^ n : Nat) : Int) = if z < 0 then -1 else 0 := by
  have h1 := beN_lt l hl.lt
  rw [hl.num, pow8] at h1
  have h2 : 2 ^ (8 * l.length) ≤ 2 ^ n := Nat.pow_le_pow_right (by omega) (by omega)
  generalize 2 ^ n = p at *
  split
  · have e : z = ((p - z.natAbs : Nat) : Int) + (p : Int) * (-1) := by omega
    rw [e, Int.add_mul_ediv_left _ _ (by omega), Int.ediv_eq_zero_of_lt (by omega) (by omega)]
    rfl
  · exact Int.ediv_eq_zero_of_lt (by omega) (by omega)
theorem cap_100 (n : Nat) (h : n ≤ 1600) : 2 * 2 ^ n < Num.Cap := by
  have h1 : n + 1 < 8 * Num.capK := by unfold Num.capK; omega
  have h2 := Nat.pow_lt_pow_right (a := 2) (by omega) h1
  rw [Nat.pow_succ] at h2
  unfold Num.Cap
  rw [pow8]
  omega
theorem SIf.setRowNe {B : Nat} {w : World} {b : Bool} {A : Option Addr} {n c : Nat} {z : Int} {k : Nat} (h : SIf B w (.agg #[.bool b, .slice A n c]) z) (hne : 0 < n → ∀ bl off, A = some ⟨bl, off, none⟩ → bl ≠ k) (cs : Array Value) : SIf B (w.setRow k cs) (.agg #[.bool b, .slice A n c]) z := by
  obtain ⟨A', c', l, e, hs, hl, hf⟩ := h
  injection e with e; injection e with e; injection e with e1 e2; injection e2 with e2 _; injection e1 with e1; injection e2 with e0 e2 e3
  subst e0 e1 e2 e3
  refine ⟨A, c, l, rfl, ⟨hs.cap, hs.max, fun hx => ?_⟩, hl, hf⟩
  obtain ⟨bl, off, e, hc⟩ := hs.at_ hx
  refine ⟨bl, off, e, fun j u hu => (cell_setRow_other _ _ _ _ ?_).trans (hc j u hu)⟩
  have h0 : 0 < l.length := by
    cases l with
    | nil => exact absurd rfl hx
    | cons d t => simp
  exact hne h0 bl off e
theorem SIf.blocks {B : Nat} {w : World} {b : Bool} {A : Option Addr} {n c : Nat} {z : Int} (h : SIf B w (.agg #[.bool b, .slice A n c]) z) : 0 < n → ∀ bl off, A = some ⟨bl, off, none⟩ → B ≤ bl ∧ bl < w.heap.size := by
  obtain ⟨A', c', l, e, hs, hl, hf⟩ := h
  injection e with e; injection e with e; injection e with e1 e2; injection e2 with e2 _; injection e1 with e1; injection e2 with e0 e2 e3
  subst e0 e1 e2 e3
  intro h0 bl off e
  refine ⟨hf bl off e, ?_⟩
  obtain ⟨bl', off', e', hc⟩ := hs.at_ (by8_ne h0)
  rw [e] at e'; injection e' with e'; injection e' with e1; subst e1
  exact block_lt_of_cell (hc 0 _ (by8_get l 0 h0))
theorem Blk.rowFar {w : World} {g k : Nat} {t : TypeId} {cs cs' : Array Value} (h : Blk w g t cs) (hne : g ≠ k) : Blk (w.setRow k cs') g t cs := (setRow_other w k g cs' hne).trans h
/-- a whole struct is loaded out of its own block, in every world that meets S -/
theorem yields_row {P : Program} {ops : Array Oper} {S : World → Prop} {o : Oper} {a : Act} (hgd : o.guard = none) (ty : TypeId) (x : Operand) (ho : o.op = .load ty x)
    (g : Nat) (hx : a.eval x = .pointer (some ⟨g, 0, none⟩)) (t : TypeId) (cs : Array Value) (d : TypeDesc) (hg : ∀ w, S w → Blk w g t cs)
    (hu : P.underlying ty = some d) (hd : (match d with | .struct _ | .array _ _ => true | _ => false) = true) (hi : (P.info? ty).map (·.size) = some cs.size) : YieldsIf P ops S o (.agg cs) a := by
  refine Or.inl ⟨by unfold Region.wanted; rw [hgd], fun w hS => ?_⟩
  unfold execOp
  simp only [ho, hx, Instr.loadAt, Instr.sureAddr, Sem.run_bind, Sem.run_pure, Result.andThen_ok, run_loadVar_row w g t ty cs (0, 0) d (hg w hS) hu hd hi]
set_option maxRecDepth 100000 in
set_option maxHeartbeats 4000000 in
theorem sRsh_any (b : Bool) (A : Option Addr) (n c : Nat) (z : Int) (q r : Nat) (hr : r < 8) (hq : q ≤ 10000) (hz : z.natAbs < 256 ^ 200) (w : World) (hv : SI w (.agg #[.bool b, .slice A n c]) z) :
    Calls Try.prog 14 #[.agg #[.bool b, .slice A n c], .int .i64 (8 * (q : Int) + (r : Int))] w (RetSI w (z / ((2 ^ (8 * q + r) : Nat) : Int))) := by
  obtain ⟨hb, l, rfl, sv, uv⟩ := hv.parts
  have hk0 : Kept w ((w.alloc (.cells #[.bool b, .slice A l.length c] 24)).alloc (.cells #[.bool false, .slice none 0 0] 24)) := by go_grown
  have b1 : Blk ((w.alloc (.cells #[.bool b, .slice A l.length c] 24)).alloc (.cells #[.bool false, .slice none 0 0] 24)) w.heap.size 24 #[.bool b, .slice A l.length c] := (Blk.new w _ _).below ((Below.refl _ _).alloc (Nat.le_refl _) _)
  have b2 : Blk ((w.alloc (.cells #[.bool b, .slice A l.length c] 24)).alloc (.cells #[.bool false, .slice none 0 0] 24)) (w.heap.size + 1) 24 #[.bool false, .slice none 0 0] := by
    have := Blk.new (w.alloc (.cells #[.bool b, .slice A l.length c] 24)) 24 #[.bool false, .slice none 0 0]
    rwa [World.size_alloc] at this
  have hlen : l.length ≤ 200 := by
    have := Num.len_lt 256 (by decide) l.reverse uv.1 200 (by rw [uv.2]; exact hz)
    rwa [List.length_reverse] at this
  have HV := Lib.hid (hv.below hk0)
  have HB := Lib.hid hb
  have HU := Lib.hid uv
  have HZ := Lib.hid hz
  have HR8 := Lib.hid hr
  clear hv sv hb uv hz hr
  by_cases hbig : 8 * l.length < 8 * q + r
  · have hres := rsh_big z l _ HU.out hbig
    have hgt : 8 * (l.length : Int) < 8 * (q : Int) + (r : Int) := by omega
    clear hbig
    by_cases hn : z < 0
    · have hbt : b = true := by rw [HB.out]; exact decide_eq_true hn
      subst hbt
      rw [if_pos hn] at hres
      rw [hres]
      clear hres hn
      go_enter Try.func14, Try.ntmps14
      go_wp2_with fail
      generalize ((w.alloc (.cells #[.bool true, .slice A l.length c] 24)).alloc (.cells #[.bool false, .slice none 0 0] 24)) = W at *
      refine (Small_any (-1) (by omega) (by omega) W).mono ?_
      rintro e w3 ⟨v3, rfl, hv3, hk3⟩
      have H := Lib.hid (b2.below hk3)
      have l2 := b2.lt
      have HV3 := Lib.hid hv3
      obtain ⟨b3, A3, n3, c3, rfl⟩ := hv3.two
      have HK3 : Hid (Kept w w3) := Lib.hid (Below.trans hk0 (hk3.mono hk0.size))
      clear hv3 hk3 b1 b2 hk0
      go_wp2_with (refine wpList_store_row rfl 24 (.tmp 4) (.tmp 15) rfl (w.heap.size + 1) _ rfl rfl 24 _ H.out info_SI rfl (by simp [Value.oneCell']) ?_)
      refine bodyPost_blk (cs := #[.bool b3, .slice A3 n3 c3]) rfl rfl (setRow_heap _ _ _ _ _ _ H.out) Try.underlying24 rfl (by exact info_SI) rfl ?_
      exact ⟨_, rfl, (HV3.out.setRow (by omega) _).mono (by omega), below_setRow HK3.out (by omega) _⟩
    · have hbt : b = false := by rw [HB.out]; exact decide_eq_false hn
      subst hbt
      rw [if_neg hn] at hres
      rw [hres]
      clear hres hn
      go_enter Try.func14, Try.ntmps14
      go_wp2_with fail
      refine bodyPost_blk (cs := #[.bool false, .slice none 0 0]) rfl rfl b2 Try.underlying24 rfl (by exact info_SI) rfl ?_
      exact ⟨_, rfl, ⟨none, 0, [], rfl, Sl.nil _, BE.zero, fun b off e => by cases e⟩, hk0⟩
  · have hle : ¬ (8 * (l.length : Int) < 8 * (q : Int) + (r : Int)) := by omega
    have hn800 : 8 * q + r ≤ 1600 := by omega
    have hcap := cap_100 (8 * q + r) hn800
    have HPW : Hid (∀ X, Calls Try.prog 18 #[.int .i64 (8 * (q : Int) + (r : Int))] X (RetSI X ((2 ^ (8 * q + r) : Nat) : Int))) := Lib.hid fun X => Power_any q r hq HR8.out X
    have h2p := Nat.two_pow_pos (8 * q + r)
    have hzc : z.natAbs < Num.Cap := by
      have h1 := HZ.out
      have h2 : 256 ^ 200 ≤ Num.Cap := Nat.pow_le_pow_right (by omega) (by show 200 ≤ 4096; omega)
      exact Nat.lt_of_lt_of_le h1 h2
    have HFL : Hid (∀ (X : World) (b1 : Bool) (A1 : Option Addr) (n1 c1 : Nat), SI X (.agg #[.bool b, .slice A l.length c]) z → SI X (.agg #[.bool b1, .slice A1 n1 c1]) ((2 ^ (8 * q + r) : Nat) : Int) → Calls Try.prog 38 #[.agg #[.bool b, .slice A l.length c], .agg #[.bool b1, .slice A1 n1 c1]] X (RetFloor X (z / ((2 ^ (8 * q + r) : Nat) : Int)))) :=
      Lib.hid fun X b1 A1 n1 c1 h1 h2 => sFloor_any b A _ c z b1 A1 n1 c1 _ hzc (by omega) (by simpa using hcap) X h1 h2
    clear hbig hcap h2p hzc hn800
    generalize hP : ((2 ^ (8 * q + r) : Nat) : Int) = P at *
    go_enter Try.func14, Try.ntmps14
    go_wp2_with fail
    generalize ((w.alloc (.cells #[.bool b, .slice A l.length c] 24)).alloc (.cells #[.bool false, .slice none 0 0] 24)) = W at *
    have B1 := Lib.hid b1
    have l2 := b2.lt
    have B2 := Lib.hid b2
    have HK0 := Lib.hid hk0
    clear b1 b2 hk0
    have kwd : Kept W W.drew := by go_grown
    have zwd : W.heap.size ≤ W.drew.heap.size := Nat.le_refl _
    refine wp_region_lastL _ _ _ (by simp only [List.dropLast]; rfl) (by simp only [List.getLast?_cons_cons, List.getLast?_singleton]; rfl) (fun X : World => Kept W X) (by kernel_rfl) (by kernel_rfl) (kwd) (fun hHeld => ?_)
    generalize W.drew = wd at *
    clear hHeld
    have hKwd := kwd
    refine wpAnyH_take (i := 0) (oi := ?o0x0) (v := (.agg #[.bool b, .slice A l.length c])) ?hi0x0 (by kernel_rfl) (by kernel_rfl) (by kernel_rfl) ?hQ0x0 ?hy0x0 hKwd ?rest0x0
    case hi0x0 => (simp only [List.getElem?_toArray, List.getElem?_cons_zero]; rfl)
    case hQ0x0 => exact fun _ _ _ h => h
    case hy0x0 => exact yields_row (by rfl) 24 (.tmp 2) (by rfl) w.heap.size (by rfl) _ _ _ (fun X hX => B1.out.below hX) Try.underlying24 (by rfl) info_SI
    try simp only [Act.put, List.setIfInBounds_toArray, List.set_cons_zero, List.set_cons_succ]
    refine wpAnyH_take (i := 1) (oi := ?o1x1) (v := ?v1x1) ?hi1x1 (by kernel_rfl) (by kernel_rfl) (by kernel_rfl) ?hQ1x1 ?hy1x1 hKwd ?rest1x1
    case hi1x1 => (simp only [List.getElem?_toArray, List.getElem?_cons_succ, List.getElem?_cons_zero]; rfl)
    case hQ1x1 => exact fun _ _ _ h => h
    case hy1x1 => (refine Or.inl ⟨by rfl, ?_⟩; intro W hSw; (try dsimp only at hSw); go_simp; (try with_reducible rfl))
    try simp only [Act.put, List.setIfInBounds_toArray, List.set_cons_zero, List.set_cons_succ]
    refine wpAnyH_ready (rs := [2, 7, 8]) (by kernel_rfl) (by simp) ?_
    refine (AllReadyH.cons rfl (fun K hK => ?_) (AllReadyH.cons rfl (fun K hK => ?_) (AllReadyH.cons rfl (fun K hK => ?_) AllReadyH.nil)))
    · go_simp
      (with_reducible refine Calls.mono (HPW.out _) ?_)
      rintro e wp ⟨v3, rfl, hv3, hk3⟩
      have hKwp : Kept W wp := hKwd.trans hk3
      have hzwp : wd.heap.size ≤ wp.heap.size := hk3.size
      have hcwp : Kept wd wp := hk3
      have HV3 := Lib.hid hv3.toSI
      obtain ⟨b3, A3, n3, c3, rfl⟩ := hv3.two
      clear hv3 hk3
      refine hK.out _ _ hKwp (fun hHeld => ?_)
      clear hK K hHeld
      try simp only [Act.put, List.setIfInBounds_toArray, List.set_cons_zero, List.set_cons_succ]
      have HV3c := HV3
      refine wpAnyH_ready (rs := [3, 7, 8]) (by kernel_rfl) (by simp) ?_
      refine (AllReadyH.cons rfl (fun K hK => ?_) (AllReadyH.cons rfl (fun K hK => ?_) (AllReadyH.cons rfl (fun K hK => ?_) AllReadyH.nil)))
      · go_simp
        (with_reducible refine Calls.mono (HFL.out _ b3 A3 n3 c3 (HV.out.below hKwp) HV3c.out) ?_)
        rintro e wf ⟨v4, b5, A5, n5, c5, rfl, hv4, hk4⟩
        have hKwf : Kept W wf := hKwp.trans hk4
        have hzwf : wp.heap.size ≤ wf.heap.size := hk4.size
        have hcwf : Kept wp wf := hk4
        obtain ⟨b4, A4, n4, c4, rfl⟩ := hv4.two
        have HNE := Lib.hid hv4.blocks
        have HV4 := Lib.hid (hv4.mono (B' := w.heap.size + 1 + 1) (by have := hKwp.size; omega))
        clear hv4 hk4
        refine hK.out _ _ hKwf (fun hHeld => ?_)
        clear hK K hHeld
        try simp only [Act.put, List.setIfInBounds_toArray, List.set_cons_zero, List.set_cons_succ]
        refine wpAnyH_take (i := 4) (oi := ?o4x2) (v := ?v4x2) ?hi4x2 (by kernel_rfl) (by kernel_rfl) (by kernel_rfl) ?hQ4x2 ?hy4x2 hKwf ?rest4x2
        case hi4x2 => (simp only [List.getElem?_toArray, List.getElem?_cons_succ, List.getElem?_cons_zero]; rfl)
        case hQ4x2 => exact fun _ _ _ h => h
        case hy4x2 => (refine Or.inl ⟨by rfl, ?_⟩; intro W hSw; (try dsimp only at hSw); go_simp; (try with_reducible rfl))
        try simp only [Act.put, List.setIfInBounds_toArray, List.set_cons_zero, List.set_cons_succ]
        refine wpAnyH_take (i := 5) (oi := ?o5x3) (v := ?v5x3) ?hi5x3 (by kernel_rfl) (by kernel_rfl) (by kernel_rfl) ?hQ5x3 ?hy5x3 hKwf ?rest5x3
        case hi5x3 => (simp only [List.getElem?_toArray, List.getElem?_cons_succ, List.getElem?_cons_zero]; rfl)
        case hQ5x3 => exact fun _ _ _ h => h
        case hy5x3 => (refine Or.inl ⟨by rfl, ?_⟩; intro W hSw; (try dsimp only at hSw); go_simp; (try with_reducible rfl))
        try simp only [Act.put, List.setIfInBounds_toArray, List.set_cons_zero, List.set_cons_succ]
        refine wpAnyH_take (i := 6) (oi := ?o6x4) (v := ?v6x4) ?hi6x4 (by kernel_rfl) (by kernel_rfl) (by kernel_rfl) ?hQ6x4 ?hy6x4 hKwf ?rest6x4
        case hi6x4 => (simp only [List.getElem?_toArray, List.getElem?_cons_succ, List.getElem?_cons_zero]; rfl)
        case hQ6x4 => exact fun _ _ _ h => h
        case hy6x4 => (refine Or.inl ⟨by rfl, ?_⟩; intro W hSw; (try dsimp only at hSw); go_simp; (try with_reducible rfl))
        try simp only [Act.put, List.setIfInBounds_toArray, List.set_cons_zero, List.set_cons_succ]
        refine wpAnyH_ready (rs := [7, 8]) (by kernel_rfl) (by simp) ?_
        refine (AllReadyH.cons rfl (fun K hK => ?_) (AllReadyH.cons rfl (fun K hK => ?_) AllReadyH.nil))
        · go_simp
          have hcwa : Kept wf (wf.alloc (.cells #[.bool false, .slice none 0 0] 24)) := (Below.refl _ _).alloc (Nat.le_refl _) _
          have hKwa := hKwf.trans hcwa
          have Bga := Blk.new wf 24 #[.bool false, .slice none 0 0]
          have hzwa : wf.heap.size < (wf.alloc (.cells #[.bool false, .slice none 0 0] 24)).heap.size := by rw [World.size_alloc]; exact Nat.lt_succ_self _
          refine hK.out _ _ hKwa (fun hHeld => ?_)
          generalize (wf.alloc (.cells #[.bool false, .slice none 0 0] 24)) = wa at *
          clear hK K hHeld
          try simp only [Act.put, List.setIfInBounds_toArray, List.set_cons_zero, List.set_cons_succ]
          have HV4 := Lib.hid (HV4.out.below hcwa)
          refine wpAnyH_ready (rs := [8]) (by kernel_rfl) (by simp) ?_
          refine (AllReadyH.cons rfl (fun K hK => ?_) AllReadyH.nil)
          · go_simp
            have hcwb : Kept wa (wa.alloc (.cells #[.bool false, .slice none 0 0] 24)) := (Below.refl _ _).alloc (Nat.le_refl _) _
            have hKwb := hKwa.trans hcwb
            have Bgb := Blk.new wa 24 #[.bool false, .slice none 0 0]
            have hzwb : wa.heap.size < (wa.alloc (.cells #[.bool false, .slice none 0 0] 24)).heap.size := by rw [World.size_alloc]; exact Nat.lt_succ_self _
            refine hK.out _ _ hKwb (fun hHeld => ?_)
            generalize (wa.alloc (.cells #[.bool false, .slice none 0 0] 24)) = wb at *
            clear hK K hHeld
            try simp only [Act.put, List.setIfInBounds_toArray, List.set_cons_zero, List.set_cons_succ]
            have Bga := Bga.below hcwb
            have HV4 := Lib.hid (HV4.out.below hcwb)
            have BT := B2.out.below hKwb
            refine wpAnyH_ready (rs := [9]) (by kernel_rfl) (by simp) ?_
            refine (AllReadyH.cons rfl (fun K hK => ?_) AllReadyH.nil)
            rw [if_pos (by rfl)]
            refine wp_store_row 24 (.tmp 5) (.tmp 22) rfl (wf.heap.size) #[.bool b4, .slice A4 n4 c4] (by rfl) (by rfl) 24 _ Bga info_SI rfl (by simp [Value.oneCell']) ?_
            have hKs : Kept W (wb.setRow (wf.heap.size) #[.bool b4, .slice A4 n4 c4]) := below_setRow hKwb (by omega) _
            have HVs := Lib.hid (HV4.out.setRowNe (k := wf.heap.size) (fun h bl off e => by have := HNE.out h bl off e; omega) #[.bool b4, .slice A4 n4 c4])
            have Bgb := Bgb.rowFar (k := wf.heap.size) (cs' := #[.bool b4, .slice A4 n4 c4]) (by omega)
            have BT := BT.rowFar (k := wf.heap.size) (cs' := #[.bool b4, .slice A4 n4 c4]) (by omega)
            have Bga := setRow_heap _ _ _ #[.bool b4, .slice A4 n4 c4] _ _ Bga
            refine hK.out _ _ hKs (fun hHeld => ?_)
            clear hK K hHeld
            refine wpAnyH_done (by kernel_rfl) ?_ _
            simp only [lastQ]
            refine wp_store_row 24 (.tmp 6) (.tmp 23) rfl (wa.heap.size) #[.bool b5, .slice A5 n5 c5] (by rfl) (by rfl) 24 _ Bgb info_SI rfl (by simp [Value.oneCell']) ?_
            have hKt : Kept W ((wb.setRow (wf.heap.size) #[.bool b4, .slice A4 n4 c4]).setRow (wa.heap.size) #[.bool b5, .slice A5 n5 c5]) := below_setRow hKs (by omega) _
            have HVt := Lib.hid (HVs.out.setRowNe (k := wa.heap.size) (fun h bl off e => by have := HNE.out h bl off e; omega) #[.bool b5, .slice A5 n5 c5])
            have BA := Lib.hid (Blk.rowFar (k := wa.heap.size) (cs' := #[.bool b5, .slice A5 n5 c5]) Bga (by omega))
            have BT := Lib.hid (BT.rowFar (k := wa.heap.size) (cs' := #[.bool b5, .slice A5 n5 c5]) (by omega))
            generalize ((wb.setRow (wf.heap.size) #[.bool b4, .slice A4 n4 c4]).setRow (wa.heap.size) #[.bool b5, .slice A5 n5 c5]) = we at *
            clear Bga Bgb
            go_wp2_with (first | (refine wpList_load_row rfl 24 (.tmp 5) rfl (wf.heap.size) rfl _ _ (0, 0) _ BA.out Try.underlying24 rfl (by exact info_SI) ?_) | (refine wpList_store_row rfl 24 (.tmp 4) (.tmp 24) rfl (w.heap.size + 1) _ rfl rfl 24 _ BT.out info_SI rfl (by simp [Value.oneCell']) ?_))
            refine bodyPost_blk (cs := #[.bool b4, .slice A4 n4 c4]) rfl rfl (setRow_heap _ _ _ _ _ _ BT.out) Try.underlying24 rfl (by exact info_SI) rfl ?_
            exact ⟨_, rfl, (HVt.out.setRow (by omega) _).mono (by omega), below_setRow (HK0.out.trans hKt) (by omega) _⟩
        · go_simp
          have hcwb : Kept wf (wf.alloc (.cells #[.bool false, .slice none 0 0] 24)) := (Below.refl _ _).alloc (Nat.le_refl _) _
          have hKwb := hKwf.trans hcwb
          have Bgb := Blk.new wf 24 #[.bool false, .slice none 0 0]
          have hzwb : wf.heap.size < (wf.alloc (.cells #[.bool false, .slice none 0 0] 24)).heap.size := by rw [World.size_alloc]; exact Nat.lt_succ_self _
          refine hK.out _ _ hKwb (fun hHeld => ?_)
          generalize (wf.alloc (.cells #[.bool false, .slice none 0 0] 24)) = wb at *
          clear hK K hHeld
          try simp only [Act.put, List.setIfInBounds_toArray, List.set_cons_zero, List.set_cons_succ]
          have HV4 := Lib.hid (HV4.out.below hcwb)
          refine wpAnyH_ready (rs := [7]) (by kernel_rfl) (by simp) ?_
          refine (AllReadyH.cons rfl (fun K hK => ?_) AllReadyH.nil)
          · go_simp
            have hcwa : Kept wb (wb.alloc (.cells #[.bool false, .slice none 0 0] 24)) := (Below.refl _ _).alloc (Nat.le_refl _) _
            have hKwa := hKwb.trans hcwa
            have Bga := Blk.new wb 24 #[.bool false, .slice none 0 0]
            have hzwa : wb.heap.size < (wb.alloc (.cells #[.bool false, .slice none 0 0] 24)).heap.size := by rw [World.size_alloc]; exact Nat.lt_succ_self _
            refine hK.out _ _ hKwa (fun hHeld => ?_)
            generalize (wb.alloc (.cells #[.bool false, .slice none 0 0] 24)) = wa at *
            clear hK K hHeld
            try simp only [Act.put, List.setIfInBounds_toArray, List.set_cons_zero, List.set_cons_succ]
            have Bgb := Bgb.below hcwa
            have HV4 := Lib.hid (HV4.out.below hcwa)
            have BT := B2.out.below hKwa
            refine wpAnyH_ready (rs := [9]) (by kernel_rfl) (by simp) ?_
            refine (AllReadyH.cons rfl (fun K hK => ?_) AllReadyH.nil)
            rw [if_pos (by rfl)]
            refine wp_store_row 24 (.tmp 5) (.tmp 22) rfl (wb.heap.size) #[.bool b4, .slice A4 n4 c4] (by rfl) (by rfl) 24 _ Bga info_SI rfl (by simp [Value.oneCell']) ?_
            have hKs : Kept W (wa.setRow (wb.heap.size) #[.bool b4, .slice A4 n4 c4]) := below_setRow hKwa (by omega) _
            have HVs := Lib.hid (HV4.out.setRowNe (k := wb.heap.size) (fun h bl off e => by have := HNE.out h bl off e; omega) #[.bool b4, .slice A4 n4 c4])
            have Bgb := Bgb.rowFar (k := wb.heap.size) (cs' := #[.bool b4, .slice A4 n4 c4]) (by omega)
            have BT := BT.rowFar (k := wb.heap.size) (cs' := #[.bool b4, .slice A4 n4 c4]) (by omega)
            have Bga := setRow_heap _ _ _ #[.bool b4, .slice A4 n4 c4] _ _ Bga
            refine hK.out _ _ hKs (fun hHeld => ?_)
            clear hK K hHeld
            refine wpAnyH_done (by kernel_rfl) ?_ _
            simp only [lastQ]
            refine wp_store_row 24 (.tmp 6) (.tmp 23) rfl (wf.heap.size) #[.bool b5, .slice A5 n5 c5] (by rfl) (by rfl) 24 _ Bgb info_SI rfl (by simp [Value.oneCell']) ?_
            have hKt : Kept W ((wa.setRow (wb.heap.size) #[.bool b4, .slice A4 n4 c4]).setRow (wf.heap.size) #[.bool b5, .slice A5 n5 c5]) := below_setRow hKs (by omega) _
            have HVt := Lib.hid (HVs.out.setRowNe (k := wf.heap.size) (fun h bl off e => by have := HNE.out h bl off e; omega) #[.bool b5, .slice A5 n5 c5])
            have BA := Lib.hid (Blk.rowFar (k := wf.heap.size) (cs' := #[.bool b5, .slice A5 n5 c5]) Bga (by omega))
            have BT := Lib.hid (BT.rowFar (k := wf.heap.size) (cs' := #[.bool b5, .slice A5 n5 c5]) (by omega))
            generalize ((wa.setRow (wb.heap.size) #[.bool b4, .slice A4 n4 c4]).setRow (wf.heap.size) #[.bool b5, .slice A5 n5 c5]) = we at *
            clear Bga Bgb
            go_wp2_with (first | (refine wpList_load_row rfl 24 (.tmp 5) rfl (wb.heap.size) rfl _ _ (0, 0) _ BA.out Try.underlying24 rfl (by exact info_SI) ?_) | (refine wpList_store_row rfl 24 (.tmp 4) (.tmp 24) rfl (w.heap.size + 1) _ rfl rfl 24 _ BT.out info_SI rfl (by simp [Value.oneCell']) ?_))
            refine bodyPost_blk (cs := #[.bool b4, .slice A4 n4 c4]) rfl rfl (setRow_heap _ _ _ _ _ _ BT.out) Try.underlying24 rfl (by exact info_SI) rfl ?_
            exact ⟨_, rfl, (HVt.out.setRow (by omega) _).mono (by omega), below_setRow (HK0.out.trans hKt) (by omega) _⟩
      · go_simp
        have hcwa : Kept wp (wp.alloc (.cells #[.bool false, .slice none 0 0] 24)) := (Below.refl _ _).alloc (Nat.le_refl _) _
        have hKwa := hKwp.trans hcwa
        have Bga := Blk.new wp 24 #[.bool false, .slice none 0 0]
        have hzwa : wp.heap.size < (wp.alloc (.cells #[.bool false, .slice none 0 0] 24)).heap.size := by rw [World.size_alloc]; exact Nat.lt_succ_self _
        refine hK.out _ _ hKwa (fun hHeld => ?_)
        generalize (wp.alloc (.cells #[.bool false, .slice none 0 0] 24)) = wa at *
        clear hK K hHeld
        try simp only [Act.put, List.setIfInBounds_toArray, List.set_cons_zero, List.set_cons_succ]
        have HV3c := Lib.hid (HV3c.out.below hcwa)
        refine wpAnyH_ready (rs := [3, 8]) (by kernel_rfl) (by simp) ?_
        refine (AllReadyH.cons rfl (fun K hK => ?_) (AllReadyH.cons rfl (fun K hK => ?_) AllReadyH.nil))
        · go_simp
          (with_reducible refine Calls.mono (HFL.out _ b3 A3 n3 c3 (HV.out.below hKwa) HV3c.out) ?_)
          rintro e wf ⟨v4, b5, A5, n5, c5, rfl, hv4, hk4⟩
          have hKwf : Kept W wf := hKwa.trans hk4
          have hzwf : wa.heap.size ≤ wf.heap.size := hk4.size
          have hcwf : Kept wa wf := hk4
          obtain ⟨b4, A4, n4, c4, rfl⟩ := hv4.two
          have HNE := Lib.hid hv4.blocks
          have HV4 := Lib.hid (hv4.mono (B' := w.heap.size + 1 + 1) (by have := hKwa.size; omega))
          clear hv4 hk4
          refine hK.out _ _ hKwf (fun hHeld => ?_)
          clear hK K hHeld
          try simp only [Act.put, List.setIfInBounds_toArray, List.set_cons_zero, List.set_cons_succ]
          have Bga := Bga.below hcwf
          refine wpAnyH_take (i := 4) (oi := ?o4x5) (v := ?v4x5) ?hi4x5 (by kernel_rfl) (by kernel_rfl) (by kernel_rfl) ?hQ4x5 ?hy4x5 hKwf ?rest4x5
          case hi4x5 => (simp only [List.getElem?_toArray, List.getElem?_cons_succ, List.getElem?_cons_zero]; rfl)
          case hQ4x5 => exact fun _ _ _ h => h
          case hy4x5 => (refine Or.inl ⟨by rfl, ?_⟩; intro W hSw; (try dsimp only at hSw); go_simp; (try with_reducible rfl))
          try simp only [Act.put, List.setIfInBounds_toArray, List.set_cons_zero, List.set_cons_succ]
          refine wpAnyH_take (i := 5) (oi := ?o5x6) (v := ?v5x6) ?hi5x6 (by kernel_rfl) (by kernel_rfl) (by kernel_rfl) ?hQ5x6 ?hy5x6 hKwf ?rest5x6
          case hi5x6 => (simp only [List.getElem?_toArray, List.getElem?_cons_succ, List.getElem?_cons_zero]; rfl)
          case hQ5x6 => exact fun _ _ _ h => h
          case hy5x6 => (refine Or.inl ⟨by rfl, ?_⟩; intro W hSw; (try dsimp only at hSw); go_simp; (try with_reducible rfl))
          try simp only [Act.put, List.setIfInBounds_toArray, List.set_cons_zero, List.set_cons_succ]
          refine wpAnyH_take (i := 6) (oi := ?o6x7) (v := ?v6x7) ?hi6x7 (by kernel_rfl) (by kernel_rfl) (by kernel_rfl) ?hQ6x7 ?hy6x7 hKwf ?rest6x7
          case hi6x7 => (simp only [List.getElem?_toArray, List.getElem?_cons_succ, List.getElem?_cons_zero]; rfl)
          case hQ6x7 => exact fun _ _ _ h => h
          case hy6x7 => (refine Or.inl ⟨by rfl, ?_⟩; intro W hSw; (try dsimp only at hSw); go_simp; (try with_reducible rfl))
          try simp only [Act.put, List.setIfInBounds_toArray, List.set_cons_zero, List.set_cons_succ]
          refine wpAnyH_ready (rs := [8]) (by kernel_rfl) (by simp) ?_
          refine (AllReadyH.cons rfl (fun K hK => ?_) AllReadyH.nil)
          · go_simp
            have hcwb : Kept wf (wf.alloc (.cells #[.bool false, .slice none 0 0] 24)) := (Below.refl _ _).alloc (Nat.le_refl _) _
            have hKwb := hKwf.trans hcwb
            have Bgb := Blk.new wf 24 #[.bool false, .slice none 0 0]
            have hzwb : wf.heap.size < (wf.alloc (.cells #[.bool false, .slice none 0 0] 24)).heap.size := by rw [World.size_alloc]; exact Nat.lt_succ_self _
            refine hK.out _ _ hKwb (fun hHeld => ?_)
            generalize (wf.alloc (.cells #[.bool false, .slice none 0 0] 24)) = wb at *
            clear hK K hHeld
            try simp only [Act.put, List.setIfInBounds_toArray, List.set_cons_zero, List.set_cons_succ]
            have Bga := Bga.below hcwb
            have HV4 := Lib.hid (HV4.out.below hcwb)
            have BT := B2.out.below hKwb
            refine wpAnyH_ready (rs := [9]) (by kernel_rfl) (by simp) ?_
            refine (AllReadyH.cons rfl (fun K hK => ?_) AllReadyH.nil)
            rw [if_pos (by rfl)]
            refine wp_store_row 24 (.tmp 5) (.tmp 22) rfl (wp.heap.size) #[.bool b4, .slice A4 n4 c4] (by rfl) (by rfl) 24 _ Bga info_SI rfl (by simp [Value.oneCell']) ?_
            have hKs : Kept W (wb.setRow (wp.heap.size) #[.bool b4, .slice A4 n4 c4]) := below_setRow hKwb (by omega) _
            have HVs := Lib.hid (HV4.out.setRowNe (k := wp.heap.size) (fun h bl off e => by have := HNE.out h bl off e; omega) #[.bool b4, .slice A4 n4 c4])
            have Bgb := Bgb.rowFar (k := wp.heap.size) (cs' := #[.bool b4, .slice A4 n4 c4]) (by omega)
            have BT := BT.rowFar (k := wp.heap.size) (cs' := #[.bool b4, .slice A4 n4 c4]) (by omega)
            have Bga := setRow_heap _ _ _ #[.bool b4, .slice A4 n4 c4] _ _ Bga
            refine hK.out _ _ hKs (fun hHeld => ?_)
            clear hK K hHeld
            refine wpAnyH_done (by kernel_rfl) ?_ _
            simp only [lastQ]
            refine wp_store_row 24 (.tmp 6) (.tmp 23) rfl (wf.heap.size) #[.bool b5, .slice A5 n5 c5] (by rfl) (by rfl) 24 _ Bgb info_SI rfl (by simp [Value.oneCell']) ?_
            have hKt : Kept W ((wb.setRow (wp.heap.size) #[.bool b4, .slice A4 n4 c4]).setRow (wf.heap.size) #[.bool b5, .slice A5 n5 c5]) := below_setRow hKs (by omega) _
            have HVt := Lib.hid (HVs.out.setRowNe (k := wf.heap.size) (fun h bl off e => by have := HNE.out h bl off e; omega) #[.bool b5, .slice A5 n5 c5])
            have BA := Lib.hid (Blk.rowFar (k := wf.heap.size) (cs' := #[.bool b5, .slice A5 n5 c5]) Bga (by omega))
            have BT := Lib.hid (BT.rowFar (k := wf.heap.size) (cs' := #[.bool b5, .slice A5 n5 c5]) (by omega))
            generalize ((wb.setRow (wp.heap.size) #[.bool b4, .slice A4 n4 c4]).setRow (wf.heap.size) #[.bool b5, .slice A5 n5 c5]) = we at *
            clear Bga Bgb
            go_wp2_with (first | (refine wpList_load_row rfl 24 (.tmp 5) rfl (wp.heap.size) rfl _ _ (0, 0) _ BA.out Try.underlying24 rfl (by exact info_SI) ?_) | (refine wpList_store_row rfl 24 (.tmp 4) (.tmp 24) rfl (w.heap.size + 1) _ rfl rfl 24 _ BT.out info_SI rfl (by simp [Value.oneCell']) ?_))
            refine bodyPost_blk (cs := #[.bool b4, .slice A4 n4 c4]) rfl rfl (setRow_heap _ _ _ _ _ _ BT.out) Try.underlying24 rfl (by exact info_SI) rfl ?_
            exact ⟨_, rfl, (HVt.out.setRow (by omega) _).mono (by omega), below_setRow (HK0.out.trans hKt) (by omega) _⟩
        · go_simp
          have hcwb : Kept wa (wa.alloc (.cells #[.bool false, .slice none 0 0] 24)) := (Below.refl _ _).alloc (Nat.le_refl _) _
          have hKwb := hKwa.trans hcwb
          have Bgb := Blk.new wa 24 #[.bool false, .slice none 0 0]
          have hzwb : wa.heap.size < (wa.alloc (.cells #[.bool false, .slice none 0 0] 24)).heap.size := by rw [World.size_alloc]; exact Nat.lt_succ_self _
          refine hK.out _ _ hKwb (fun hHeld => ?_)
          generalize (wa.alloc (.cells #[.bool false, .slice none 0 0] 24)) = wb at *
          clear hK K hHeld
          try simp only [Act.put, List.setIfInBounds_toArray, List.set_cons_zero, List.set_cons_succ]
          have Bga := Bga.below hcwb
          have HV3c := Lib.hid (HV3c.out.below hcwb)
          refine wpAnyH_ready (rs := [3]) (by kernel_rfl) (by simp) ?_
          refine (AllReadyH.cons rfl (fun K hK => ?_) AllReadyH.nil)
          · go_simp
            (with_reducible refine Calls.mono (HFL.out _ b3 A3 n3 c3 (HV.out.below hKwb) HV3c.out) ?_)
            rintro e wf ⟨v4, b5, A5, n5, c5, rfl, hv4, hk4⟩
            have hKwf : Kept W wf := hKwb.trans hk4
            have hzwf : wb.heap.size ≤ wf.heap.size := hk4.size
            have hcwf : Kept wb wf := hk4
            obtain ⟨b4, A4, n4, c4, rfl⟩ := hv4.two
            have HNE := Lib.hid hv4.blocks
            have HV4 := Lib.hid (hv4.mono (B' := w.heap.size + 1 + 1) (by have := hKwb.size; omega))
            clear hv4 hk4
            refine hK.out _ _ hKwf (fun hHeld => ?_)
            clear hK K hHeld
            try simp only [Act.put, List.setIfInBounds_toArray, List.set_cons_zero, List.set_cons_succ]
            have Bga := Bga.below hcwf
            have Bgb := Bgb.below hcwf
            refine wpAnyH_take (i := 4) (oi := ?o4x8) (v := ?v4x8) ?hi4x8 (by kernel_rfl) (by kernel_rfl) (by kernel_rfl) ?hQ4x8 ?hy4x8 hKwf ?rest4x8
            case hi4x8 => (simp only [List.getElem?_toArray, List.getElem?_cons_succ, List.getElem?_cons_zero]; rfl)
            case hQ4x8 => exact fun _ _ _ h => h
            case hy4x8 => (refine Or.inl ⟨by rfl, ?_⟩; intro W hSw; (try dsimp only at hSw); go_simp; (try with_reducible rfl))
            try simp only [Act.put, List.setIfInBounds_toArray, List.set_cons_zero, List.set_cons_succ]
            refine wpAnyH_take (i := 5) (oi := ?o5x9) (v := ?v5x9) ?hi5x9 (by kernel_rfl) (by kernel_rfl) (by kernel_rfl) ?hQ5x9 ?hy5x9 hKwf ?rest5x9
            case hi5x9 => (simp only [List.getElem?_toArray, List.getElem?_cons_succ, List.getElem?_cons_zero]; rfl)
            case hQ5x9 => exact fun _ _ _ h => h
            case hy5x9 => (refine Or.inl ⟨by rfl, ?_⟩; intro W hSw; (try dsimp only at hSw); go_simp; (try with_reducible rfl))
            try simp only [Act.put, List.setIfInBounds_toArray, List.set_cons_zero, List.set_cons_succ]
            refine wpAnyH_take (i := 6) (oi := ?o6x10) (v := ?v6x10) ?hi6x10 (by kernel_rfl) (by kernel_rfl) (by kernel_rfl) ?hQ6x10 ?hy6x10 hKwf ?rest6x10
            case hi6x10 => (simp only [List.getElem?_toArray, List.getElem?_cons_succ, List.getElem?_cons_zero]; rfl)
            case hQ6x10 => exact fun _ _ _ h => h
            case hy6x10 => (refine Or.inl ⟨by rfl, ?_⟩; intro W hSw; (try dsimp only at hSw); go_simp; (try with_reducible rfl))
            try simp only [Act.put, List.setIfInBounds_toArray, List.set_cons_zero, List.set_cons_succ]
            have BT := B2.out.below hKwf
            refine wpAnyH_ready (rs := [9]) (by kernel_rfl) (by simp) ?_
            refine (AllReadyH.cons rfl (fun K hK => ?_) AllReadyH.nil)
            rw [if_pos (by rfl)]
            refine wp_store_row 24 (.tmp 5) (.tmp 22) rfl (wp.heap.size) #[.bool b4, .slice A4 n4 c4] (by rfl) (by rfl) 24 _ Bga info_SI rfl (by simp [Value.oneCell']) ?_
            have hKs : Kept W (wf.setRow (wp.heap.size) #[.bool b4, .slice A4 n4 c4]) := below_setRow hKwf (by omega) _
            have HVs := Lib.hid (HV4.out.setRowNe (k := wp.heap.size) (fun h bl off e => by have := HNE.out h bl off e; omega) #[.bool b4, .slice A4 n4 c4])
            have Bgb := Bgb.rowFar (k := wp.heap.size) (cs' := #[.bool b4, .slice A4 n4 c4]) (by omega)
            have BT := BT.rowFar (k := wp.heap.size) (cs' := #[.bool b4, .slice A4 n4 c4]) (by omega)
            have Bga := setRow_heap _ _ _ #[.bool b4, .slice A4 n4 c4] _ _ Bga
            refine hK.out _ _ hKs (fun hHeld => ?_)
            clear hK K hHeld
            refine wpAnyH_done (by kernel_rfl) ?_ _
            simp only [lastQ]
            refine wp_store_row 24 (.tmp 6) (.tmp 23) rfl (wa.heap.size) #[.bool b5, .slice A5 n5 c5] (by rfl) (by rfl) 24 _ Bgb info_SI rfl (by simp [Value.oneCell']) ?_
            have hKt : Kept W ((wf.setRow (wp.heap.size) #[.bool b4, .slice A4 n4 c4]).setRow (wa.heap.size) #[.bool b5, .slice A5 n5 c5]) := below_setRow hKs (by omega) _
            have HVt := Lib.hid (HVs.out.setRowNe (k := wa.heap.size) (fun h bl off e => by have := HNE.out h bl off e; omega) #[.bool b5, .slice A5 n5 c5])
            have BA := Lib.hid (Blk.rowFar (k := wa.heap.size) (cs' := #[.bool b5, .slice A5 n5 c5]) Bga (by omega))
            have BT := Lib.hid (BT.rowFar (k := wa.heap.size) (cs' := #[.bool b5, .slice A5 n5 c5]) (by omega))
            generalize ((wf.setRow (wp.heap.size) #[.bool b4, .slice A4 n4 c4]).setRow (wa.heap.size) #[.bool b5, .slice A5 n5 c5]) = we at *
            clear Bga Bgb
            go_wp2_with (first | (refine wpList_load_row rfl 24 (.tmp 5) rfl (wp.heap.size) rfl _ _ (0, 0) _ BA.out Try.underlying24 rfl (by exact info_SI) ?_) | (refine wpList_store_row rfl 24 (.tmp 4) (.tmp 24) rfl (w.heap.size + 1) _ rfl rfl 24 _ BT.out info_SI rfl (by simp [Value.oneCell']) ?_))
            refine bodyPost_blk (cs := #[.bool b4, .slice A4 n4 c4]) rfl rfl (setRow_heap _ _ _ _ _ _ BT.out) Try.underlying24 rfl (by exact info_SI) rfl ?_
            exact ⟨_, rfl, (HVt.out.setRow (by omega) _).mono (by omega), below_setRow (HK0.out.trans hKt) (by omega) _⟩
      · go_simp
        have hcwb : Kept wp (wp.alloc (.cells #[.bool false, .slice none 0 0] 24)) := (Below.refl _ _).alloc (Nat.le_refl _) _
        have hKwb := hKwp.trans hcwb
        have Bgb := Blk.new wp 24 #[.bool false, .slice none 0 0]
        have hzwb : wp.heap.size < (wp.alloc (.cells #[.bool false, .slice none 0 0] 24)).heap.size := by rw [World.size_alloc]; exact Nat.lt_succ_self _
        refine hK.out _ _ hKwb (fun hHeld => ?_)
        generalize (wp.alloc (.cells #[.bool false, .slice none 0 0] 24)) = wb at *
        clear hK K hHeld
        try simp only [Act.put, List.setIfInBounds_toArray, List.set_cons_zero, List.set_cons_succ]
        have HV3c := Lib.hid (HV3c.out.below hcwb)
        refine wpAnyH_ready (rs := [3, 7]) (by kernel_rfl) (by simp) ?_
        refine (AllReadyH.cons rfl (fun K hK => ?_) (AllReadyH.cons rfl (fun K hK => ?_) AllReadyH.nil))
        · go_simp
          (with_reducible refine Calls.mono (HFL.out _ b3 A3 n3 c3 (HV.out.below hKwb) HV3c.out) ?_)
          rintro e wf ⟨v4, b5, A5, n5, c5, rfl, hv4, hk4⟩
          have hKwf : Kept W wf := hKwb.trans hk4
          have hzwf : wb.heap.size ≤ wf.heap.size := hk4.size
          have hcwf : Kept wb wf := hk4
          obtain ⟨b4, A4, n4, c4, rfl⟩ := hv4.two
          have HNE := Lib.hid hv4.blocks
          have HV4 := Lib.hid (hv4.mono (B' := w.heap.size + 1 + 1) (by have := hKwb.size; omega))
          clear hv4 hk4
          refine hK.out _ _ hKwf (fun hHeld => ?_)
          clear hK K hHeld
          try simp only [Act.put, List.setIfInBounds_toArray, List.set_cons_zero, List.set_cons_succ]
          have Bgb := Bgb.below hcwf
          refine wpAnyH_take (i := 4) (oi := ?o4x11) (v := ?v4x11) ?hi4x11 (by kernel_rfl) (by kernel_rfl) (by kernel_rfl) ?hQ4x11 ?hy4x11 hKwf ?rest4x11
          case hi4x11 => (simp only [List.getElem?_toArray, List.getElem?_cons_succ, List.getElem?_cons_zero]; rfl)
          case hQ4x11 => exact fun _ _ _ h => h
          case hy4x11 => (refine Or.inl ⟨by rfl, ?_⟩; intro W hSw; (try dsimp only at hSw); go_simp; (try with_reducible rfl))
          try simp only [Act.put, List.setIfInBounds_toArray, List.set_cons_zero, List.set_cons_succ]
          refine wpAnyH_take (i := 5) (oi := ?o5x12) (v := ?v5x12) ?hi5x12 (by kernel_rfl) (by kernel_rfl) (by kernel_rfl) ?hQ5x12 ?hy5x12 hKwf ?rest5x12
          case hi5x12 => (simp only [List.getElem?_toArray, List.getElem?_cons_succ, List.getElem?_cons_zero]; rfl)
          case hQ5x12 => exact fun _ _ _ h => h
          case hy5x12 => (refine Or.inl ⟨by rfl, ?_⟩; intro W hSw; (try dsimp only at hSw); go_simp; (try with_reducible rfl))
          try simp only [Act.put, List.setIfInBounds_toArray, List.set_cons_zero, List.set_cons_succ]
          refine wpAnyH_take (i := 6) (oi := ?o6x13) (v := ?v6x13) ?hi6x13 (by kernel_rfl) (by kernel_rfl) (by kernel_rfl) ?hQ6x13 ?hy6x13 hKwf ?rest6x13
          case hi6x13 => (simp only [List.getElem?_toArray, List.getElem?_cons_succ, List.getElem?_cons_zero]; rfl)
          case hQ6x13 => exact fun _ _ _ h => h
          case hy6x13 => (refine Or.inl ⟨by rfl, ?_⟩; intro W hSw; (try dsimp only at hSw); go_simp; (try with_reducible rfl))
          try simp only [Act.put, List.setIfInBounds_toArray, List.set_cons_zero, List.set_cons_succ]
          refine wpAnyH_ready (rs := [7]) (by kernel_rfl) (by simp) ?_
          refine (AllReadyH.cons rfl (fun K hK => ?_) AllReadyH.nil)
          · go_simp
            have hcwa : Kept wf (wf.alloc (.cells #[.bool false, .slice none 0 0] 24)) := (Below.refl _ _).alloc (Nat.le_refl _) _
            have hKwa := hKwf.trans hcwa
            have Bga := Blk.new wf 24 #[.bool false, .slice none 0 0]
            have hzwa : wf.heap.size < (wf.alloc (.cells #[.bool false, .slice none 0 0] 24)).heap.size := by rw [World.size_alloc]; exact Nat.lt_succ_self _
            refine hK.out _ _ hKwa (fun hHeld => ?_)
            generalize (wf.alloc (.cells #[.bool false, .slice none 0 0] 24)) = wa at *
            clear hK K hHeld
            try simp only [Act.put, List.setIfInBounds_toArray, List.set_cons_zero, List.set_cons_succ]
            have Bgb := Bgb.below hcwa
            have HV4 := Lib.hid (HV4.out.below hcwa)
            have BT := B2.out.below hKwa
            refine wpAnyH_ready (rs := [9]) (by kernel_rfl) (by simp) ?_
            refine (AllReadyH.cons rfl (fun K hK => ?_) AllReadyH.nil)
            rw [if_pos (by rfl)]
            refine wp_store_row 24 (.tmp 5) (.tmp 22) rfl (wf.heap.size) #[.bool b4, .slice A4 n4 c4] (by rfl) (by rfl) 24 _ Bga info_SI rfl (by simp [Value.oneCell']) ?_
            have hKs : Kept W (wa.setRow (wf.heap.size) #[.bool b4, .slice A4 n4 c4]) := below_setRow hKwa (by omega) _
            have HVs := Lib.hid (HV4.out.setRowNe (k := wf.heap.size) (fun h bl off e => by have := HNE.out h bl off e; omega) #[.bool b4, .slice A4 n4 c4])
            have Bgb := Bgb.rowFar (k := wf.heap.size) (cs' := #[.bool b4, .slice A4 n4 c4]) (by omega)
            have BT := BT.rowFar (k := wf.heap.size) (cs' := #[.bool b4, .slice A4 n4 c4]) (by omega)
            have Bga := setRow_heap _ _ _ #[.bool b4, .slice A4 n4 c4] _ _ Bga
            refine hK.out _ _ hKs (fun hHeld => ?_)
            clear hK K hHeld
            refine wpAnyH_done (by kernel_rfl) ?_ _
            simp only [lastQ]
            refine wp_store_row 24 (.tmp 6) (.tmp 23) rfl (wp.heap.size) #[.bool b5, .slice A5 n5 c5] (by rfl) (by rfl) 24 _ Bgb info_SI rfl (by simp [Value.oneCell']) ?_
            have hKt : Kept W ((wa.setRow (wf.heap.size) #[.bool b4, .slice A4 n4 c4]).setRow (wp.heap.size) #[.bool b5, .slice A5 n5 c5]) := below_setRow hKs (by omega) _
            have HVt := Lib.hid (HVs.out.setRowNe (k := wp.heap.size) (fun h bl off e => by have := HNE.out h bl off e; omega) #[.bool b5, .slice A5 n5 c5])
            have BA := Lib.hid (Blk.rowFar (k := wp.heap.size) (cs' := #[.bool b5, .slice A5 n5 c5]) Bga (by omega))
            have BT := Lib.hid (BT.rowFar (k := wp.heap.size) (cs' := #[.bool b5, .slice A5 n5 c5]) (by omega))
            generalize ((wa.setRow (wf.heap.size) #[.bool b4, .slice A4 n4 c4]).setRow (wp.heap.size) #[.bool b5, .slice A5 n5 c5]) = we at *
            clear Bga Bgb
            go_wp2_with (first | (refine wpList_load_row rfl 24 (.tmp 5) rfl (wf.heap.size) rfl _ _ (0, 0) _ BA.out Try.underlying24 rfl (by exact info_SI) ?_) | (refine wpList_store_row rfl 24 (.tmp 4) (.tmp 24) rfl (w.heap.size + 1) _ rfl rfl 24 _ BT.out info_SI rfl (by simp [Value.oneCell']) ?_))
            refine bodyPost_blk (cs := #[.bool b4, .slice A4 n4 c4]) rfl rfl (setRow_heap _ _ _ _ _ _ BT.out) Try.underlying24 rfl (by exact info_SI) rfl ?_
            exact ⟨_, rfl, (HVt.out.setRow (by omega) _).mono (by omega), below_setRow (HK0.out.trans hKt) (by omega) _⟩
        · go_simp
          have hcwa : Kept wb (wb.alloc (.cells #[.bool false, .slice none 0 0] 24)) := (Below.refl _ _).alloc (Nat.le_refl _) _
          have hKwa := hKwb.trans hcwa
          have Bga := Blk.new wb 24 #[.bool false, .slice none 0 0]
          have hzwa : wb.heap.size < (wb.alloc (.cells #[.bool false, .slice none 0 0] 24)).heap.size := by rw [World.size_alloc]; exact Nat.lt_succ_self _
          refine hK.out _ _ hKwa (fun hHeld => ?_)
          generalize (wb.alloc (.cells #[.bool false, .slice none 0 0] 24)) = wa at *
          clear hK K hHeld
          try simp only [Act.put, List.setIfInBounds_toArray, List.set_cons_zero, List.set_cons_succ]
          have Bgb := Bgb.below hcwa
          have HV3c := Lib.hid (HV3c.out.below hcwa)
          refine wpAnyH_ready (rs := [3]) (by kernel_rfl) (by simp) ?_
          refine (AllReadyH.cons rfl (fun K hK => ?_) AllReadyH.nil)
          · go_simp
            (with_reducible refine Calls.mono (HFL.out _ b3 A3 n3 c3 (HV.out.below hKwa) HV3c.out) ?_)
            rintro e wf ⟨v4, b5, A5, n5, c5, rfl, hv4, hk4⟩
            have hKwf : Kept W wf := hKwa.trans hk4
            have hzwf : wa.heap.size ≤ wf.heap.size := hk4.size
            have hcwf : Kept wa wf := hk4
            obtain ⟨b4, A4, n4, c4, rfl⟩ := hv4.two
            have HNE := Lib.hid hv4.blocks
            have HV4 := Lib.hid (hv4.mono (B' := w.heap.size + 1 + 1) (by have := hKwa.size; omega))
            clear hv4 hk4
            refine hK.out _ _ hKwf (fun hHeld => ?_)
            clear hK K hHeld
            try simp only [Act.put, List.setIfInBounds_toArray, List.set_cons_zero, List.set_cons_succ]
            have Bgb := Bgb.below hcwf
            have Bga := Bga.below hcwf
            refine wpAnyH_take (i := 4) (oi := ?o4x14) (v := ?v4x14) ?hi4x14 (by kernel_rfl) (by kernel_rfl) (by kernel_rfl) ?hQ4x14 ?hy4x14 hKwf ?rest4x14
            case hi4x14 => (simp only [List.getElem?_toArray, List.getElem?_cons_succ, List.getElem?_cons_zero]; rfl)
            case hQ4x14 => exact fun _ _ _ h => h
            case hy4x14 => (refine Or.inl ⟨by rfl, ?_⟩; intro W hSw; (try dsimp only at hSw); go_simp; (try with_reducible rfl))
            try simp only [Act.put, List.setIfInBounds_toArray, List.set_cons_zero, List.set_cons_succ]
            refine wpAnyH_take (i := 5) (oi := ?o5x15) (v := ?v5x15) ?hi5x15 (by kernel_rfl) (by kernel_rfl) (by kernel_rfl) ?hQ5x15 ?hy5x15 hKwf ?rest5x15
            case hi5x15 => (simp only [List.getElem?_toArray, List.getElem?_cons_succ, List.getElem?_cons_zero]; rfl)
            case hQ5x15 => exact fun _ _ _ h => h
            case hy5x15 => (refine Or.inl ⟨by rfl, ?_⟩; intro W hSw; (try dsimp only at hSw); go_simp; (try with_reducible rfl))
            try simp only [Act.put, List.setIfInBounds_toArray, List.set_cons_zero, List.set_cons_succ]
            refine wpAnyH_take (i := 6) (oi := ?o6x16) (v := ?v6x16) ?hi6x16 (by kernel_rfl) (by kernel_rfl) (by kernel_rfl) ?hQ6x16 ?hy6x16 hKwf ?rest6x16
            case hi6x16 => (simp only [List.getElem?_toArray, List.getElem?_cons_succ, List.getElem?_cons_zero]; rfl)
            case hQ6x16 => exact fun _ _ _ h => h
            case hy6x16 => (refine Or.inl ⟨by rfl, ?_⟩; intro W hSw; (try dsimp only at hSw); go_simp; (try with_reducible rfl))
            try simp only [Act.put, List.setIfInBounds_toArray, List.set_cons_zero, List.set_cons_succ]
            have BT := B2.out.below hKwf
            refine wpAnyH_ready (rs := [9]) (by kernel_rfl) (by simp) ?_
            refine (AllReadyH.cons rfl (fun K hK => ?_) AllReadyH.nil)
            rw [if_pos (by rfl)]
            refine wp_store_row 24 (.tmp 5) (.tmp 22) rfl (wb.heap.size) #[.bool b4, .slice A4 n4 c4] (by rfl) (by rfl) 24 _ Bga info_SI rfl (by simp [Value.oneCell']) ?_
            have hKs : Kept W (wf.setRow (wb.heap.size) #[.bool b4, .slice A4 n4 c4]) := below_setRow hKwf (by omega) _
            have HVs := Lib.hid (HV4.out.setRowNe (k := wb.heap.size) (fun h bl off e => by have := HNE.out h bl off e; omega) #[.bool b4, .slice A4 n4 c4])
            have Bgb := Bgb.rowFar (k := wb.heap.size) (cs' := #[.bool b4, .slice A4 n4 c4]) (by omega)
            have BT := BT.rowFar (k := wb.heap.size) (cs' := #[.bool b4, .slice A4 n4 c4]) (by omega)
            have Bga := setRow_heap _ _ _ #[.bool b4, .slice A4 n4 c4] _ _ Bga
            refine hK.out _ _ hKs (fun hHeld => ?_)
            clear hK K hHeld
            refine wpAnyH_done (by kernel_rfl) ?_ _
            simp only [lastQ]
            refine wp_store_row 24 (.tmp 6) (.tmp 23) rfl (wp.heap.size) #[.bool b5, .slice A5 n5 c5] (by rfl) (by rfl) 24 _ Bgb info_SI rfl (by simp [Value.oneCell']) ?_
            have hKt : Kept W ((wf.setRow (wb.heap.size) #[.bool b4, .slice A4 n4 c4]).setRow (wp.heap.size) #[.bool b5, .slice A5 n5 c5]) := below_setRow hKs (by omega) _
            have HVt := Lib.hid (HVs.out.setRowNe (k := wp.heap.size) (fun h bl off e => by have := HNE.out h bl off e; omega) #[.bool b5, .slice A5 n5 c5])
            have BA := Lib.hid (Blk.rowFar (k := wp.heap.size) (cs' := #[.bool b5, .slice A5 n5 c5]) Bga (by omega))
            have BT := Lib.hid (BT.rowFar (k := wp.heap.size) (cs' := #[.bool b5, .slice A5 n5 c5]) (by omega))
            generalize ((wf.setRow (wb.heap.size) #[.bool b4, .slice A4 n4 c4]).setRow (wp.heap.size) #[.bool b5, .slice A5 n5 c5]) = we at *
            clear Bga Bgb
            go_wp2_with (first | (refine wpList_load_row rfl 24 (.tmp 5) rfl (wb.heap.size) rfl _ _ (0, 0) _ BA.out Try.underlying24 rfl (by exact info_SI) ?_) | (refine wpList_store_row rfl 24 (.tmp 4) (.tmp 24) rfl (w.heap.size + 1) _ rfl rfl 24 _ BT.out info_SI rfl (by simp [Value.oneCell']) ?_))
            refine bodyPost_blk (cs := #[.bool b4, .slice A4 n4 c4]) rfl rfl (setRow_heap _ _ _ _ _ _ BT.out) Try.underlying24 rfl (by exact info_SI) rfl ?_
            exact ⟨_, rfl, (HVt.out.setRow (by omega) _).mono (by omega), below_setRow (HK0.out.trans hKt) (by omega) _⟩
    · go_simp
      have hcwa : Kept wd (wd.alloc (.cells #[.bool false, .slice none 0 0] 24)) := (Below.refl _ _).alloc (Nat.le_refl _) _
      have hKwa := hKwd.trans hcwa
      have Bga := Blk.new wd 24 #[.bool false, .slice none 0 0]
      have hzwa : wd.heap.size < (wd.alloc (.cells #[.bool false, .slice none 0 0] 24)).heap.size := by rw [World.size_alloc]; exact Nat.lt_succ_self _
      refine hK.out _ _ hKwa (fun hHeld => ?_)
      generalize (wd.alloc (.cells #[.bool false, .slice none 0 0] 24)) = wa at *
      clear hK K hHeld
      try simp only [Act.put, List.setIfInBounds_toArray, List.set_cons_zero, List.set_cons_succ]
      refine wpAnyH_ready (rs := [2, 8]) (by kernel_rfl) (by simp) ?_
      refine (AllReadyH.cons rfl (fun K hK => ?_) (AllReadyH.cons rfl (fun K hK => ?_) AllReadyH.nil))
      · go_simp
        (with_reducible refine Calls.mono (HPW.out _) ?_)
        rintro e wp ⟨v3, rfl, hv3, hk3⟩
        have hKwp : Kept W wp := hKwa.trans hk3
        have hzwp : wa.heap.size ≤ wp.heap.size := hk3.size
        have hcwp : Kept wa wp := hk3
        have HV3 := Lib.hid hv3.toSI
        obtain ⟨b3, A3, n3, c3, rfl⟩ := hv3.two
        clear hv3 hk3
        refine hK.out _ _ hKwp (fun hHeld => ?_)
        clear hK K hHeld
        try simp only [Act.put, List.setIfInBounds_toArray, List.set_cons_zero, List.set_cons_succ]
        have Bga := Bga.below hcwp
        have HV3c := HV3
        refine wpAnyH_ready (rs := [3, 8]) (by kernel_rfl) (by simp) ?_
        refine (AllReadyH.cons rfl (fun K hK => ?_) (AllReadyH.cons rfl (fun K hK => ?_) AllReadyH.nil))
        · go_simp
          (with_reducible refine Calls.mono (HFL.out _ b3 A3 n3 c3 (HV.out.below hKwp) HV3c.out) ?_)
          rintro e wf ⟨v4, b5, A5, n5, c5, rfl, hv4, hk4⟩
          have hKwf : Kept W wf := hKwp.trans hk4
          have hzwf : wp.heap.size ≤ wf.heap.size := hk4.size
          have hcwf : Kept wp wf := hk4
          obtain ⟨b4, A4, n4, c4, rfl⟩ := hv4.two
          have HNE := Lib.hid hv4.blocks
          have HV4 := Lib.hid (hv4.mono (B' := w.heap.size + 1 + 1) (by have := hKwp.size; omega))
          clear hv4 hk4
          refine hK.out _ _ hKwf (fun hHeld => ?_)
          clear hK K hHeld
          try simp only [Act.put, List.setIfInBounds_toArray, List.set_cons_zero, List.set_cons_succ]
          have Bga := Bga.below hcwf
          refine wpAnyH_take (i := 4) (oi := ?o4x17) (v := ?v4x17) ?hi4x17 (by kernel_rfl) (by kernel_rfl) (by kernel_rfl) ?hQ4x17 ?hy4x17 hKwf ?rest4x17
          case hi4x17 => (simp only [List.getElem?_toArray, List.getElem?_cons_succ, List.getElem?_cons_zero]; rfl)
          case hQ4x17 => exact fun _ _ _ h => h
          case hy4x17 => (refine Or.inl ⟨by rfl, ?_⟩; intro W hSw; (try dsimp only at hSw); go_simp; (try with_reducible rfl))
          try simp only [Act.put, List.setIfInBounds_toArray, List.set_cons_zero, List.set_cons_succ]
          refine wpAnyH_take (i := 5) (oi := ?o5x18) (v := ?v5x18) ?hi5x18 (by kernel_rfl) (by kernel_rfl) (by kernel_rfl) ?hQ5x18 ?hy5x18 hKwf ?rest5x18
          case hi5x18 => (simp only [List.getElem?_toArray, List.getElem?_cons_succ, List.getElem?_cons_zero]; rfl)
          case hQ5x18 => exact fun _ _ _ h => h
          case hy5x18 => (refine Or.inl ⟨by rfl, ?_⟩; intro W hSw; (try dsimp only at hSw); go_simp; (try with_reducible rfl))
          try simp only [Act.put, List.setIfInBounds_toArray, List.set_cons_zero, List.set_cons_succ]
          refine wpAnyH_take (i := 6) (oi := ?o6x19) (v := ?v6x19) ?hi6x19 (by kernel_rfl) (by kernel_rfl) (by kernel_rfl) ?hQ6x19 ?hy6x19 hKwf ?rest6x19
          case hi6x19 => (simp only [List.getElem?_toArray, List.getElem?_cons_succ, List.getElem?_cons_zero]; rfl)
          case hQ6x19 => exact fun _ _ _ h => h
          case hy6x19 => (refine Or.inl ⟨by rfl, ?_⟩; intro W hSw; (try dsimp only at hSw); go_simp; (try with_reducible rfl))
          try simp only [Act.put, List.setIfInBounds_toArray, List.set_cons_zero, List.set_cons_succ]
          refine wpAnyH_ready (rs := [8]) (by kernel_rfl) (by simp) ?_
          refine (AllReadyH.cons rfl (fun K hK => ?_) AllReadyH.nil)
          · go_simp
            have hcwb : Kept wf (wf.alloc (.cells #[.bool false, .slice none 0 0] 24)) := (Below.refl _ _).alloc (Nat.le_refl _) _
            have hKwb := hKwf.trans hcwb
            have Bgb := Blk.new wf 24 #[.bool false, .slice none 0 0]
            have hzwb : wf.heap.size < (wf.alloc (.cells #[.bool false, .slice none 0 0] 24)).heap.size := by rw [World.size_alloc]; exact Nat.lt_succ_self _
            refine hK.out _ _ hKwb (fun hHeld => ?_)
            generalize (wf.alloc (.cells #[.bool false, .slice none 0 0] 24)) = wb at *
            clear hK K hHeld
            try simp only [Act.put, List.setIfInBounds_toArray, List.set_cons_zero, List.set_cons_succ]
            have Bga := Bga.below hcwb
            have HV4 := Lib.hid (HV4.out.below hcwb)
            have BT := B2.out.below hKwb
            refine wpAnyH_ready (rs := [9]) (by kernel_rfl) (by simp) ?_
            refine (AllReadyH.cons rfl (fun K hK => ?_) AllReadyH.nil)
            rw [if_pos (by rfl)]
            refine wp_store_row 24 (.tmp 5) (.tmp 22) rfl (wd.heap.size) #[.bool b4, .slice A4 n4 c4] (by rfl) (by rfl) 24 _ Bga info_SI rfl (by simp [Value.oneCell']) ?_
            have hKs : Kept W (wb.setRow (wd.heap.size) #[.bool b4, .slice A4 n4 c4]) := below_setRow hKwb (by omega) _
            have HVs := Lib.hid (HV4.out.setRowNe (k := wd.heap.size) (fun h bl off e => by have := HNE.out h bl off e; omega) #[.bool b4, .slice A4 n4 c4])
            have Bgb := Bgb.rowFar (k := wd.heap.size) (cs' := #[.bool b4, .slice A4 n4 c4]) (by omega)
            have BT := BT.rowFar (k := wd.heap.size) (cs' := #[.bool b4, .slice A4 n4 c4]) (by omega)
            have Bga := setRow_heap _ _ _ #[.bool b4, .slice A4 n4 c4] _ _ Bga
            refine hK.out _ _ hKs (fun hHeld => ?_)
            clear hK K hHeld
            refine wpAnyH_done (by kernel_rfl) ?_ _
            simp only [lastQ]
            refine wp_store_row 24 (.tmp 6) (.tmp 23) rfl (wf.heap.size) #[.bool b5, .slice A5 n5 c5] (by rfl) (by rfl) 24 _ Bgb info_SI rfl (by simp [Value.oneCell']) ?_
            have hKt : Kept W ((wb.setRow (wd.heap.size) #[.bool b4, .slice A4 n4 c4]).setRow (wf.heap.size) #[.bool b5, .slice A5 n5 c5]) := below_setRow hKs (by omega) _
            have HVt := Lib.hid (HVs.out.setRowNe (k := wf.heap.size) (fun h bl off e => by have := HNE.out h bl off e; omega) #[.bool b5, .slice A5 n5 c5])
            have BA := Lib.hid (Blk.rowFar (k := wf.heap.size) (cs' := #[.bool b5, .slice A5 n5 c5]) Bga (by omega))
            have BT := Lib.hid (BT.rowFar (k := wf.heap.size) (cs' := #[.bool b5, .slice A5 n5 c5]) (by omega))
            generalize ((wb.setRow (wd.heap.size) #[.bool b4, .slice A4 n4 c4]).setRow (wf.heap.size) #[.bool b5, .slice A5 n5 c5]) = we at *
            clear Bga Bgb
            go_wp2_with (first | (refine wpList_load_row rfl 24 (.tmp 5) rfl (wd.heap.size) rfl _ _ (0, 0) _ BA.out Try.underlying24 rfl (by exact info_SI) ?_) | (refine wpList_store_row rfl 24 (.tmp 4) (.tmp 24) rfl (w.heap.size + 1) _ rfl rfl 24 _ BT.out info_SI rfl (by simp [Value.oneCell']) ?_))
            refine bodyPost_blk (cs := #[.bool b4, .slice A4 n4 c4]) rfl rfl (setRow_heap _ _ _ _ _ _ BT.out) Try.underlying24 rfl (by exact info_SI) rfl ?_
            exact ⟨_, rfl, (HVt.out.setRow (by omega) _).mono (by omega), below_setRow (HK0.out.trans hKt) (by omega) _⟩
        · go_simp
          have hcwb : Kept wp (wp.alloc (.cells #[.bool false, .slice none 0 0] 24)) := (Below.refl _ _).alloc (Nat.le_refl _) _
          have hKwb := hKwp.trans hcwb
          have Bgb := Blk.new wp 24 #[.bool false, .slice none 0 0]
          have hzwb : wp.heap.size < (wp.alloc (.cells #[.bool false, .slice none 0 0] 24)).heap.size := by rw [World.size_alloc]; exact Nat.lt_succ_self _
          refine hK.out _ _ hKwb (fun hHeld => ?_)
          generalize (wp.alloc (.cells #[.bool false, .slice none 0 0] 24)) = wb at *
          clear hK K hHeld
          try simp only [Act.put, List.setIfInBounds_toArray, List.set_cons_zero, List.set_cons_succ]
          have Bga := Bga.below hcwb
          have HV3c := Lib.hid (HV3c.out.below hcwb)
          refine wpAnyH_ready (rs := [3]) (by kernel_rfl) (by simp) ?_
          refine (AllReadyH.cons rfl (fun K hK => ?_) AllReadyH.nil)
          · go_simp
            (with_reducible refine Calls.mono (HFL.out _ b3 A3 n3 c3 (HV.out.below hKwb) HV3c.out) ?_)
            rintro e wf ⟨v4, b5, A5, n5, c5, rfl, hv4, hk4⟩
            have hKwf : Kept W wf := hKwb.trans hk4
            have hzwf : wb.heap.size ≤ wf.heap.size := hk4.size
            have hcwf : Kept wb wf := hk4
            obtain ⟨b4, A4, n4, c4, rfl⟩ := hv4.two
            have HNE := Lib.hid hv4.blocks
            have HV4 := Lib.hid (hv4.mono (B' := w.heap.size + 1 + 1) (by have := hKwb.size; omega))
            clear hv4 hk4
            refine hK.out _ _ hKwf (fun hHeld => ?_)
            clear hK K hHeld
            try simp only [Act.put, List.setIfInBounds_toArray, List.set_cons_zero, List.set_cons_succ]
            have Bga := Bga.below hcwf
            have Bgb := Bgb.below hcwf
            refine wpAnyH_take (i := 4) (oi := ?o4x20) (v := ?v4x20) ?hi4x20 (by kernel_rfl) (by kernel_rfl) (by kernel_rfl) ?hQ4x20 ?hy4x20 hKwf ?rest4x20
            case hi4x20 => (simp only [List.getElem?_toArray, List.getElem?_cons_succ, List.getElem?_cons_zero]; rfl)
            case hQ4x20 => exact fun _ _ _ h => h
            case hy4x20 => (refine Or.inl ⟨by rfl, ?_⟩; intro W hSw; (try dsimp only at hSw); go_simp; (try with_reducible rfl))
            try simp only [Act.put, List.setIfInBounds_toArray, List.set_cons_zero, List.set_cons_succ]
            refine wpAnyH_take (i := 5) (oi := ?o5x21) (v := ?v5x21) ?hi5x21 (by kernel_rfl) (by kernel_rfl) (by kernel_rfl) ?hQ5x21 ?hy5x21 hKwf ?rest5x21
            case hi5x21 => (simp only [List.getElem?_toArray, List.getElem?_cons_succ, List.getElem?_cons_zero]; rfl)
            case hQ5x21 => exact fun _ _ _ h => h
            case hy5x21 => (refine Or.inl ⟨by rfl, ?_⟩; intro W hSw; (try dsimp only at hSw); go_simp; (try with_reducible rfl))
            try simp only [Act.put, List.setIfInBounds_toArray, List.set_cons_zero, List.set_cons_succ]
            refine wpAnyH_take (i := 6) (oi := ?o6x22) (v := ?v6x22) ?hi6x22 (by kernel_rfl) (by kernel_rfl) (by kernel_rfl) ?hQ6x22 ?hy6x22 hKwf ?rest6x22
            case hi6x22 => (simp only [List.getElem?_toArray, List.getElem?_cons_succ, List.getElem?_cons_zero]; rfl)
            case hQ6x22 => exact fun _ _ _ h => h
            case hy6x22 => (refine Or.inl ⟨by rfl, ?_⟩; intro W hSw; (try dsimp only at hSw); go_simp; (try with_reducible rfl))
            try simp only [Act.put, List.setIfInBounds_toArray, List.set_cons_zero, List.set_cons_succ]
            have BT := B2.out.below hKwf
            refine wpAnyH_ready (rs := [9]) (by kernel_rfl) (by simp) ?_
            refine (AllReadyH.cons rfl (fun K hK => ?_) AllReadyH.nil)
            rw [if_pos (by rfl)]
            refine wp_store_row 24 (.tmp 5) (.tmp 22) rfl (wd.heap.size) #[.bool b4, .slice A4 n4 c4] (by rfl) (by rfl) 24 _ Bga info_SI rfl (by simp [Value.oneCell']) ?_
            have hKs : Kept W (wf.setRow (wd.heap.size) #[.bool b4, .slice A4 n4 c4]) := below_setRow hKwf (by omega) _
            have HVs := Lib.hid (HV4.out.setRowNe (k := wd.heap.size) (fun h bl off e => by have := HNE.out h bl off e; omega) #[.bool b4, .slice A4 n4 c4])
            have Bgb := Bgb.rowFar (k := wd.heap.size) (cs' := #[.bool b4, .slice A4 n4 c4]) (by omega)
            have BT := BT.rowFar (k := wd.heap.size) (cs' := #[.bool b4, .slice A4 n4 c4]) (by omega)
            have Bga := setRow_heap _ _ _ #[.bool b4, .slice A4 n4 c4] _ _ Bga
            refine hK.out _ _ hKs (fun hHeld => ?_)
            clear hK K hHeld
            refine wpAnyH_done (by kernel_rfl) ?_ _
            simp only [lastQ]
            refine wp_store_row 24 (.tmp 6) (.tmp 23) rfl (wp.heap.size) #[.bool b5, .slice A5 n5 c5] (by rfl) (by rfl) 24 _ Bgb info_SI rfl (by simp [Value.oneCell']) ?_
            have hKt : Kept W ((wf.setRow (wd.heap.size) #[.bool b4, .slice A4 n4 c4]).setRow (wp.heap.size) #[.bool b5, .slice A5 n5 c5]) := below_setRow hKs (by omega) _
            have HVt := Lib.hid (HVs.out.setRowNe (k := wp.heap.size) (fun h bl off e => by have := HNE.out h bl off e; omega) #[.bool b5, .slice A5 n5 c5])
            have BA := Lib.hid (Blk.rowFar (k := wp.heap.size) (cs' := #[.bool b5, .slice A5 n5 c5]) Bga (by omega))
            have BT := Lib.hid (BT.rowFar (k := wp.heap.size) (cs' := #[.bool b5, .slice A5 n5 c5]) (by omega))
            generalize ((wf.setRow (wd.heap.size) #[.bool b4, .slice A4 n4 c4]).setRow (wp.heap.size) #[.bool b5, .slice A5 n5 c5]) = we at *
            clear Bga Bgb
            go_wp2_with (first | (refine wpList_load_row rfl 24 (.tmp 5) rfl (wd.heap.size) rfl _ _ (0, 0) _ BA.out Try.underlying24 rfl (by exact info_SI) ?_) | (refine wpList_store_row rfl 24 (.tmp 4) (.tmp 24) rfl (w.heap.size + 1) _ rfl rfl 24 _ BT.out info_SI rfl (by simp [Value.oneCell']) ?_))
            refine bodyPost_blk (cs := #[.bool b4, .slice A4 n4 c4]) rfl rfl (setRow_heap _ _ _ _ _ _ BT.out) Try.underlying24 rfl (by exact info_SI) rfl ?_
            exact ⟨_, rfl, (HVt.out.setRow (by omega) _).mono (by omega), below_setRow (HK0.out.trans hKt) (by omega) _⟩
      · go_simp
        have hcwb : Kept wa (wa.alloc (.cells #[.bool false, .slice none 0 0] 24)) := (Below.refl _ _).alloc (Nat.le_refl _) _
        have hKwb := hKwa.trans hcwb
        have Bgb := Blk.new wa 24 #[.bool false, .slice none 0 0]
        have hzwb : wa.heap.size < (wa.alloc (.cells #[.bool false, .slice none 0 0] 24)).heap.size := by rw [World.size_alloc]; exact Nat.lt_succ_self _
        refine hK.out _ _ hKwb (fun hHeld => ?_)
        generalize (wa.alloc (.cells #[.bool false, .slice none 0 0] 24)) = wb at *
        clear hK K hHeld
        try simp only [Act.put, List.setIfInBounds_toArray, List.set_cons_zero, List.set_cons_succ]
        have Bga := Bga.below hcwb
        refine wpAnyH_ready (rs := [2]) (by kernel_rfl) (by simp) ?_
        refine (AllReadyH.cons rfl (fun K hK => ?_) AllReadyH.nil)
        · go_simp
          (with_reducible refine Calls.mono (HPW.out _) ?_)
          rintro e wp ⟨v3, rfl, hv3, hk3⟩
          have hKwp : Kept W wp := hKwb.trans hk3
          have hzwp : wb.heap.size ≤ wp.heap.size := hk3.size
          have hcwp : Kept wb wp := hk3
          have HV3 := Lib.hid hv3.toSI
          obtain ⟨b3, A3, n3, c3, rfl⟩ := hv3.two
          clear hv3 hk3
          refine hK.out _ _ hKwp (fun hHeld => ?_)
          clear hK K hHeld
          try simp only [Act.put, List.setIfInBounds_toArray, List.set_cons_zero, List.set_cons_succ]
          have Bga := Bga.below hcwp
          have Bgb := Bgb.below hcwp
          have HV3c := HV3
          refine wpAnyH_ready (rs := [3]) (by kernel_rfl) (by simp) ?_
          refine (AllReadyH.cons rfl (fun K hK => ?_) AllReadyH.nil)
          · go_simp
            (with_reducible refine Calls.mono (HFL.out _ b3 A3 n3 c3 (HV.out.below hKwp) HV3c.out) ?_)
            rintro e wf ⟨v4, b5, A5, n5, c5, rfl, hv4, hk4⟩
            have hKwf : Kept W wf := hKwp.trans hk4
            have hzwf : wp.heap.size ≤ wf.heap.size := hk4.size
            have hcwf : Kept wp wf := hk4
            obtain ⟨b4, A4, n4, c4, rfl⟩ := hv4.two
            have HNE := Lib.hid hv4.blocks
            have HV4 := Lib.hid (hv4.mono (B' := w.heap.size + 1 + 1) (by have := hKwp.size; omega))
            clear hv4 hk4
            refine hK.out _ _ hKwf (fun hHeld => ?_)
            clear hK K hHeld
            try simp only [Act.put, List.setIfInBounds_toArray, List.set_cons_zero, List.set_cons_succ]
            have Bga := Bga.below hcwf
            have Bgb := Bgb.below hcwf
            refine wpAnyH_take (i := 4) (oi := ?o4x23) (v := ?v4x23) ?hi4x23 (by kernel_rfl) (by kernel_rfl) (by kernel_rfl) ?hQ4x23 ?hy4x23 hKwf ?rest4x23
            case hi4x23 => (simp only [List.getElem?_toArray, List.getElem?_cons_succ, List.getElem?_cons_zero]; rfl)
            case hQ4x23 => exact fun _ _ _ h => h
            case hy4x23 => (refine Or.inl ⟨by rfl, ?_⟩; intro W hSw; (try dsimp only at hSw); go_simp; (try with_reducible rfl))
            try simp only [Act.put, List.setIfInBounds_toArray, List.set_cons_zero, List.set_cons_succ]
            refine wpAnyH_take (i := 5) (oi := ?o5x24) (v := ?v5x24) ?hi5x24 (by kernel_rfl) (by kernel_rfl) (by kernel_rfl) ?hQ5x24 ?hy5x24 hKwf ?rest5x24
            case hi5x24 => (simp only [List.getElem?_toArray, List.getElem?_cons_succ, List.getElem?_cons_zero]; rfl)
            case hQ5x24 => exact fun _ _ _ h => h
            case hy5x24 => (refine Or.inl ⟨by rfl, ?_⟩; intro W hSw; (try dsimp only at hSw); go_simp; (try with_reducible rfl))
            try simp only [Act.put, List.setIfInBounds_toArray, List.set_cons_zero, List.set_cons_succ]
            refine wpAnyH_take (i := 6) (oi := ?o6x25) (v := ?v6x25) ?hi6x25 (by kernel_rfl) (by kernel_rfl) (by kernel_rfl) ?hQ6x25 ?hy6x25 hKwf ?rest6x25
            case hi6x25 => (simp only [List.getElem?_toArray, List.getElem?_cons_succ, List.getElem?_cons_zero]; rfl)
            case hQ6x25 => exact fun _ _ _ h => h
            case hy6x25 => (refine Or.inl ⟨by rfl, ?_⟩; intro W hSw; (try dsimp only at hSw); go_simp; (try with_reducible rfl))
            try simp only [Act.put, List.setIfInBounds_toArray, List.set_cons_zero, List.set_cons_succ]
            have BT := B2.out.below hKwf
            refine wpAnyH_ready (rs := [9]) (by kernel_rfl) (by simp) ?_
            refine (AllReadyH.cons rfl (fun K hK => ?_) AllReadyH.nil)
            rw [if_pos (by rfl)]
            refine wp_store_row 24 (.tmp 5) (.tmp 22) rfl (wd.heap.size) #[.bool b4, .slice A4 n4 c4] (by rfl) (by rfl) 24 _ Bga info_SI rfl (by simp [Value.oneCell']) ?_
            have hKs : Kept W (wf.setRow (wd.heap.size) #[.bool b4, .slice A4 n4 c4]) := below_setRow hKwf (by omega) _
            have HVs := Lib.hid (HV4.out.setRowNe (k := wd.heap.size) (fun h bl off e => by have := HNE.out h bl off e; omega) #[.bool b4, .slice A4 n4 c4])
            have Bgb := Bgb.rowFar (k := wd.heap.size) (cs' := #[.bool b4, .slice A4 n4 c4]) (by omega)
            have BT := BT.rowFar (k := wd.heap.size) (cs' := #[.bool b4, .slice A4 n4 c4]) (by omega)
            have Bga := setRow_heap _ _ _ #[.bool b4, .slice A4 n4 c4] _ _ Bga
            refine hK.out _ _ hKs (fun hHeld => ?_)
            clear hK K hHeld
            refine wpAnyH_done (by kernel_rfl) ?_ _
            simp only [lastQ]
            refine wp_store_row 24 (.tmp 6) (.tmp 23) rfl (wa.heap.size) #[.bool b5, .slice A5 n5 c5] (by rfl) (by rfl) 24 _ Bgb info_SI rfl (by simp [Value.oneCell']) ?_
            have hKt : Kept W ((wf.setRow (wd.heap.size) #[.bool b4, .slice A4 n4 c4]).setRow (wa.heap.size) #[.bool b5, .slice A5 n5 c5]) := below_setRow hKs (by omega) _
            have HVt := Lib.hid (HVs.out.setRowNe (k := wa.heap.size) (fun h bl off e => by have := HNE.out h bl off e; omega) #[.bool b5, .slice A5 n5 c5])
            have BA := Lib.hid (Blk.rowFar (k := wa.heap.size) (cs' := #[.bool b5, .slice A5 n5 c5]) Bga (by omega))
            have BT := Lib.hid (BT.rowFar (k := wa.heap.size) (cs' := #[.bool b5, .slice A5 n5 c5]) (by omega))
            generalize ((wf.setRow (wd.heap.size) #[.bool b4, .slice A4 n4 c4]).setRow (wa.heap.size) #[.bool b5, .slice A5 n5 c5]) = we at *
            clear Bga Bgb
            go_wp2_with (first | (refine wpList_load_row rfl 24 (.tmp 5) rfl (wd.heap.size) rfl _ _ (0, 0) _ BA.out Try.underlying24 rfl (by exact info_SI) ?_) | (refine wpList_store_row rfl 24 (.tmp 4) (.tmp 24) rfl (w.heap.size + 1) _ rfl rfl 24 _ BT.out info_SI rfl (by simp [Value.oneCell']) ?_))
            refine bodyPost_blk (cs := #[.bool b4, .slice A4 n4 c4]) rfl rfl (setRow_heap _ _ _ _ _ _ BT.out) Try.underlying24 rfl (by exact info_SI) rfl ?_
            exact ⟨_, rfl, (HVt.out.setRow (by omega) _).mono (by omega), below_setRow (HK0.out.trans hKt) (by omega) _⟩
    · go_simp
      have hcwb : Kept wd (wd.alloc (.cells #[.bool false, .slice none 0 0] 24)) := (Below.refl _ _).alloc (Nat.le_refl _) _
      have hKwb := hKwd.trans hcwb
      have Bgb := Blk.new wd 24 #[.bool false, .slice none 0 0]
      have hzwb : wd.heap.size < (wd.alloc (.cells #[.bool false, .slice none 0 0] 24)).heap.size := by rw [World.size_alloc]; exact Nat.lt_succ_self _
      refine hK.out _ _ hKwb (fun hHeld => ?_)
      generalize (wd.alloc (.cells #[.bool false, .slice none 0 0] 24)) = wb at *
      clear hK K hHeld
      try simp only [Act.put, List.setIfInBounds_toArray, List.set_cons_zero, List.set_cons_succ]
      refine wpAnyH_ready (rs := [2, 7]) (by kernel_rfl) (by simp) ?_
      refine (AllReadyH.cons rfl (fun K hK => ?_) (AllReadyH.cons rfl (fun K hK => ?_) AllReadyH.nil))
      · go_simp
        (with_reducible refine Calls.mono (HPW.out _) ?_)
        rintro e wp ⟨v3, rfl, hv3, hk3⟩
        have hKwp : Kept W wp := hKwb.trans hk3
        have hzwp : wb.heap.size ≤ wp.heap.size := hk3.size
        have hcwp : Kept wb wp := hk3
        have HV3 := Lib.hid hv3.toSI
        obtain ⟨b3, A3, n3, c3, rfl⟩ := hv3.two
        clear hv3 hk3
        refine hK.out _ _ hKwp (fun hHeld => ?_)
        clear hK K hHeld
        try simp only [Act.put, List.setIfInBounds_toArray, List.set_cons_zero, List.set_cons_succ]
        have Bgb := Bgb.below hcwp
        have HV3c := HV3
        refine wpAnyH_ready (rs := [3, 7]) (by kernel_rfl) (by simp) ?_
        refine (AllReadyH.cons rfl (fun K hK => ?_) (AllReadyH.cons rfl (fun K hK => ?_) AllReadyH.nil))
        · go_simp
          (with_reducible refine Calls.mono (HFL.out _ b3 A3 n3 c3 (HV.out.below hKwp) HV3c.out) ?_)
          rintro e wf ⟨v4, b5, A5, n5, c5, rfl, hv4, hk4⟩
          have hKwf : Kept W wf := hKwp.trans hk4
          have hzwf : wp.heap.size ≤ wf.heap.size := hk4.size
          have hcwf : Kept wp wf := hk4
          obtain ⟨b4, A4, n4, c4, rfl⟩ := hv4.two
          have HNE := Lib.hid hv4.blocks
          have HV4 := Lib.hid (hv4.mono (B' := w.heap.size + 1 + 1) (by have := hKwp.size; omega))
          clear hv4 hk4
          refine hK.out _ _ hKwf (fun hHeld => ?_)
          clear hK K hHeld
          try simp only [Act.put, List.setIfInBounds_toArray, List.set_cons_zero, List.set_cons_succ]
          have Bgb := Bgb.below hcwf
          refine wpAnyH_take (i := 4) (oi := ?o4x26) (v := ?v4x26) ?hi4x26 (by kernel_rfl) (by kernel_rfl) (by kernel_rfl) ?hQ4x26 ?hy4x26 hKwf ?rest4x26
          case hi4x26 => (simp only [List.getElem?_toArray, List.getElem?_cons_succ, List.getElem?_cons_zero]; rfl)
          case hQ4x26 => exact fun _ _ _ h => h
          case hy4x26 => (refine Or.inl ⟨by rfl, ?_⟩; intro W hSw; (try dsimp only at hSw); go_simp; (try with_reducible rfl))
          try simp only [Act.put, List.setIfInBounds_toArray, List.set_cons_zero, List.set_cons_succ]
          refine wpAnyH_take (i := 5) (oi := ?o5x27) (v := ?v5x27) ?hi5x27 (by kernel_rfl) (by kernel_rfl) (by kernel_rfl) ?hQ5x27 ?hy5x27 hKwf ?rest5x27
          case hi5x27 => (simp only [List.getElem?_toArray, List.getElem?_cons_succ, List.getElem?_cons_zero]; rfl)
          case hQ5x27 => exact fun _ _ _ h => h
          case hy5x27 => (refine Or.inl ⟨by rfl, ?_⟩; intro W hSw; (try dsimp only at hSw); go_simp; (try with_reducible rfl))
          try simp only [Act.put, List.setIfInBounds_toArray, List.set_cons_zero, List.set_cons_succ]
          refine wpAnyH_take (i := 6) (oi := ?o6x28) (v := ?v6x28) ?hi6x28 (by kernel_rfl) (by kernel_rfl) (by kernel_rfl) ?hQ6x28 ?hy6x28 hKwf ?rest6x28
          case hi6x28 => (simp only [List.getElem?_toArray, List.getElem?_cons_succ, List.getElem?_cons_zero]; rfl)
          case hQ6x28 => exact fun _ _ _ h => h
          case hy6x28 => (refine Or.inl ⟨by rfl, ?_⟩; intro W hSw; (try dsimp only at hSw); go_simp; (try with_reducible rfl))
          try simp only [Act.put, List.setIfInBounds_toArray, List.set_cons_zero, List.set_cons_succ]
          refine wpAnyH_ready (rs := [7]) (by kernel_rfl) (by simp) ?_
          refine (AllReadyH.cons rfl (fun K hK => ?_) AllReadyH.nil)
          · go_simp
            have hcwa : Kept wf (wf.alloc (.cells #[.bool false, .slice none 0 0] 24)) := (Below.refl _ _).alloc (Nat.le_refl _) _
            have hKwa := hKwf.trans hcwa
            have Bga := Blk.new wf 24 #[.bool false, .slice none 0 0]
            have hzwa : wf.heap.size < (wf.alloc (.cells #[.bool false, .slice none 0 0] 24)).heap.size := by rw [World.size_alloc]; exact Nat.lt_succ_self _
            refine hK.out _ _ hKwa (fun hHeld => ?_)
            generalize (wf.alloc (.cells #[.bool false, .slice none 0 0] 24)) = wa at *
            clear hK K hHeld
            try simp only [Act.put, List.setIfInBounds_toArray, List.set_cons_zero, List.set_cons_succ]
            have Bgb := Bgb.below hcwa
            have HV4 := Lib.hid (HV4.out.below hcwa)
            have BT := B2.out.below hKwa
            refine wpAnyH_ready (rs := [9]) (by kernel_rfl) (by simp) ?_
            refine (AllReadyH.cons rfl (fun K hK => ?_) AllReadyH.nil)
            rw [if_pos (by rfl)]
            refine wp_store_row 24 (.tmp 5) (.tmp 22) rfl (wf.heap.size) #[.bool b4, .slice A4 n4 c4] (by rfl) (by rfl) 24 _ Bga info_SI rfl (by simp [Value.oneCell']) ?_
            have hKs : Kept W (wa.setRow (wf.heap.size) #[.bool b4, .slice A4 n4 c4]) := below_setRow hKwa (by omega) _
            have HVs := Lib.hid (HV4.out.setRowNe (k := wf.heap.size) (fun h bl off e => by have := HNE.out h bl off e; omega) #[.bool b4, .slice A4 n4 c4])
            have Bgb := Bgb.rowFar (k := wf.heap.size) (cs' := #[.bool b4, .slice A4 n4 c4]) (by omega)
            have BT := BT.rowFar (k := wf.heap.size) (cs' := #[.bool b4, .slice A4 n4 c4]) (by omega)
            have Bga := setRow_heap _ _ _ #[.bool b4, .slice A4 n4 c4] _ _ Bga
            refine hK.out _ _ hKs (fun hHeld => ?_)
            clear hK K hHeld
            refine wpAnyH_done (by kernel_rfl) ?_ _
            simp only [lastQ]
            refine wp_store_row 24 (.tmp 6) (.tmp 23) rfl (wd.heap.size) #[.bool b5, .slice A5 n5 c5] (by rfl) (by rfl) 24 _ Bgb info_SI rfl (by simp [Value.oneCell']) ?_
            have hKt : Kept W ((wa.setRow (wf.heap.size) #[.bool b4, .slice A4 n4 c4]).setRow (wd.heap.size) #[.bool b5, .slice A5 n5 c5]) := below_setRow hKs (by omega) _
            have HVt := Lib.hid (HVs.out.setRowNe (k := wd.heap.size) (fun h bl off e => by have := HNE.out h bl off e; omega) #[.bool b5, .slice A5 n5 c5])
            have BA := Lib.hid (Blk.rowFar (k := wd.heap.size) (cs' := #[.bool b5, .slice A5 n5 c5]) Bga (by omega))
            have BT := Lib.hid (BT.rowFar (k := wd.heap.size) (cs' := #[.bool b5, .slice A5 n5 c5]) (by omega))
            generalize ((wa.setRow (wf.heap.size) #[.bool b4, .slice A4 n4 c4]).setRow (wd.heap.size) #[.bool b5, .slice A5 n5 c5]) = we at *
            clear Bga Bgb
            go_wp2_with (first | (refine wpList_load_row rfl 24 (.tmp 5) rfl (wf.heap.size) rfl _ _ (0, 0) _ BA.out Try.underlying24 rfl (by exact info_SI) ?_) | (refine wpList_store_row rfl 24 (.tmp 4) (.tmp 24) rfl (w.heap.size + 1) _ rfl rfl 24 _ BT.out info_SI rfl (by simp [Value.oneCell']) ?_))
            refine bodyPost_blk (cs := #[.bool b4, .slice A4 n4 c4]) rfl rfl (setRow_heap _ _ _ _ _ _ BT.out) Try.underlying24 rfl (by exact info_SI) rfl ?_
            exact ⟨_, rfl, (HVt.out.setRow (by omega) _).mono (by omega), below_setRow (HK0.out.trans hKt) (by omega) _⟩
        · go_simp
          have hcwa : Kept wp (wp.alloc (.cells #[.bool false, .slice none 0 0] 24)) := (Below.refl _ _).alloc (Nat.le_refl _) _
          have hKwa := hKwp.trans hcwa
          have Bga := Blk.new wp 24 #[.bool false, .slice none 0 0]
          have hzwa : wp.heap.size < (wp.alloc (.cells #[.bool false, .slice none 0 0] 24)).heap.size := by rw [World.size_alloc]; exact Nat.lt_succ_self _
          refine hK.out _ _ hKwa (fun hHeld => ?_)
          generalize (wp.alloc (.cells #[.bool false, .slice none 0 0] 24)) = wa at *
          clear hK K hHeld
          try simp only [Act.put, List.setIfInBounds_toArray, List.set_cons_zero, List.set_cons_succ]
          have Bgb := Bgb.below hcwa
          have HV3c := Lib.hid (HV3c.out.below hcwa)
          refine wpAnyH_ready (rs := [3]) (by kernel_rfl) (by simp) ?_
          refine (AllReadyH.cons rfl (fun K hK => ?_) AllReadyH.nil)
          · go_simp
            (with_reducible refine Calls.mono (HFL.out _ b3 A3 n3 c3 (HV.out.below hKwa) HV3c.out) ?_)
            rintro e wf ⟨v4, b5, A5, n5, c5, rfl, hv4, hk4⟩
            have hKwf : Kept W wf := hKwa.trans hk4
            have hzwf : wa.heap.size ≤ wf.heap.size := hk4.size
            have hcwf : Kept wa wf := hk4
            obtain ⟨b4, A4, n4, c4, rfl⟩ := hv4.two
            have HNE := Lib.hid hv4.blocks
            have HV4 := Lib.hid (hv4.mono (B' := w.heap.size + 1 + 1) (by have := hKwa.size; omega))
            clear hv4 hk4
            refine hK.out _ _ hKwf (fun hHeld => ?_)
            clear hK K hHeld
            try simp only [Act.put, List.setIfInBounds_toArray, List.set_cons_zero, List.set_cons_succ]
            have Bgb := Bgb.below hcwf
            have Bga := Bga.below hcwf
            refine wpAnyH_take (i := 4) (oi := ?o4x29) (v := ?v4x29) ?hi4x29 (by kernel_rfl) (by kernel_rfl) (by kernel_rfl) ?hQ4x29 ?hy4x29 hKwf ?rest4x29
            case hi4x29 => (simp only [List.getElem?_toArray, List.getElem?_cons_succ, List.getElem?_cons_zero]; rfl)
            case hQ4x29 => exact fun _ _ _ h => h
            case hy4x29 => (refine Or.inl ⟨by rfl, ?_⟩; intro W hSw; (try dsimp only at hSw); go_simp; (try with_reducible rfl))
            try simp only [Act.put, List.setIfInBounds_toArray, List.set_cons_zero, List.set_cons_succ]
            refine wpAnyH_take (i := 5) (oi := ?o5x30) (v := ?v5x30) ?hi5x30 (by kernel_rfl) (by kernel_rfl) (by kernel_rfl) ?hQ5x30 ?hy5x30 hKwf ?rest5x30
            case hi5x30 => (simp only [List.getElem?_toArray, List.getElem?_cons_succ, List.getElem?_cons_zero]; rfl)
            case hQ5x30 => exact fun _ _ _ h => h
            case hy5x30 => (refine Or.inl ⟨by rfl, ?_⟩; intro W hSw; (try dsimp only at hSw); go_simp; (try with_reducible rfl))
            try simp only [Act.put, List.setIfInBounds_toArray, List.set_cons_zero, List.set_cons_succ]
            refine wpAnyH_take (i := 6) (oi := ?o6x31) (v := ?v6x31) ?hi6x31 (by kernel_rfl) (by kernel_rfl) (by kernel_rfl) ?hQ6x31 ?hy6x31 hKwf ?rest6x31
            case hi6x31 => (simp only [List.getElem?_toArray, List.getElem?_cons_succ, List.getElem?_cons_zero]; rfl)
            case hQ6x31 => exact fun _ _ _ h => h
            case hy6x31 => (refine Or.inl ⟨by rfl, ?_⟩; intro W hSw; (try dsimp only at hSw); go_simp; (try with_reducible rfl))
            try simp only [Act.put, List.setIfInBounds_toArray, List.set_cons_zero, List.set_cons_succ]
            have BT := B2.out.below hKwf
            refine wpAnyH_ready (rs := [9]) (by kernel_rfl) (by simp) ?_
            refine (AllReadyH.cons rfl (fun K hK => ?_) AllReadyH.nil)
            rw [if_pos (by rfl)]
            refine wp_store_row 24 (.tmp 5) (.tmp 22) rfl (wp.heap.size) #[.bool b4, .slice A4 n4 c4] (by rfl) (by rfl) 24 _ Bga info_SI rfl (by simp [Value.oneCell']) ?_
            have hKs : Kept W (wf.setRow (wp.heap.size) #[.bool b4, .slice A4 n4 c4]) := below_setRow hKwf (by omega) _
            have HVs := Lib.hid (HV4.out.setRowNe (k := wp.heap.size) (fun h bl off e => by have := HNE.out h bl off e; omega) #[.bool b4, .slice A4 n4 c4])
            have Bgb := Bgb.rowFar (k := wp.heap.size) (cs' := #[.bool b4, .slice A4 n4 c4]) (by omega)
            have BT := BT.rowFar (k := wp.heap.size) (cs' := #[.bool b4, .slice A4 n4 c4]) (by omega)
            have Bga := setRow_heap _ _ _ #[.bool b4, .slice A4 n4 c4] _ _ Bga
            refine hK.out _ _ hKs (fun hHeld => ?_)
            clear hK K hHeld
            refine wpAnyH_done (by kernel_rfl) ?_ _
            simp only [lastQ]
            refine wp_store_row 24 (.tmp 6) (.tmp 23) rfl (wd.heap.size) #[.bool b5, .slice A5 n5 c5] (by rfl) (by rfl) 24 _ Bgb info_SI rfl (by simp [Value.oneCell']) ?_
            have hKt : Kept W ((wf.setRow (wp.heap.size) #[.bool b4, .slice A4 n4 c4]).setRow (wd.heap.size) #[.bool b5, .slice A5 n5 c5]) := below_setRow hKs (by omega) _
            have HVt := Lib.hid (HVs.out.setRowNe (k := wd.heap.size) (fun h bl off e => by have := HNE.out h bl off e; omega) #[.bool b5, .slice A5 n5 c5])
            have BA := Lib.hid (Blk.rowFar (k := wd.heap.size) (cs' := #[.bool b5, .slice A5 n5 c5]) Bga (by omega))
            have BT := Lib.hid (BT.rowFar (k := wd.heap.size) (cs' := #[.bool b5, .slice A5 n5 c5]) (by omega))
            generalize ((wf.setRow (wp.heap.size) #[.bool b4, .slice A4 n4 c4]).setRow (wd.heap.size) #[.bool b5, .slice A5 n5 c5]) = we at *
            clear Bga Bgb
            go_wp2_with (first | (refine wpList_load_row rfl 24 (.tmp 5) rfl (wp.heap.size) rfl _ _ (0, 0) _ BA.out Try.underlying24 rfl (by exact info_SI) ?_) | (refine wpList_store_row rfl 24 (.tmp 4) (.tmp 24) rfl (w.heap.size + 1) _ rfl rfl 24 _ BT.out info_SI rfl (by simp [Value.oneCell']) ?_))
            refine bodyPost_blk (cs := #[.bool b4, .slice A4 n4 c4]) rfl rfl (setRow_heap _ _ _ _ _ _ BT.out) Try.underlying24 rfl (by exact info_SI) rfl ?_
            exact ⟨_, rfl, (HVt.out.setRow (by omega) _).mono (by omega), below_setRow (HK0.out.trans hKt) (by omega) _⟩
      · go_simp
        have hcwa : Kept wb (wb.alloc (.cells #[.bool false, .slice none 0 0] 24)) := (Below.refl _ _).alloc (Nat.le_refl _) _
        have hKwa := hKwb.trans hcwa
        have Bga := Blk.new wb 24 #[.bool false, .slice none 0 0]
        have hzwa : wb.heap.size < (wb.alloc (.cells #[.bool false, .slice none 0 0] 24)).heap.size := by rw [World.size_alloc]; exact Nat.lt_succ_self _
        refine hK.out _ _ hKwa (fun hHeld => ?_)
        generalize (wb.alloc (.cells #[.bool false, .slice none 0 0] 24)) = wa at *
        clear hK K hHeld
        try simp only [Act.put, List.setIfInBounds_toArray, List.set_cons_zero, List.set_cons_succ]
        have Bgb := Bgb.below hcwa
        refine wpAnyH_ready (rs := [2]) (by kernel_rfl) (by simp) ?_
        refine (AllReadyH.cons rfl (fun K hK => ?_) AllReadyH.nil)
        · go_simp
          (with_reducible refine Calls.mono (HPW.out _) ?_)
          rintro e wp ⟨v3, rfl, hv3, hk3⟩
          have hKwp : Kept W wp := hKwa.trans hk3
          have hzwp : wa.heap.size ≤ wp.heap.size := hk3.size
          have hcwp : Kept wa wp := hk3
          have HV3 := Lib.hid hv3.toSI
          obtain ⟨b3, A3, n3, c3, rfl⟩ := hv3.two
          clear hv3 hk3
          refine hK.out _ _ hKwp (fun hHeld => ?_)
          clear hK K hHeld
          try simp only [Act.put, List.setIfInBounds_toArray, List.set_cons_zero, List.set_cons_succ]
          have Bgb := Bgb.below hcwp
          have Bga := Bga.below hcwp
          have HV3c := HV3
          refine wpAnyH_ready (rs := [3]) (by kernel_rfl) (by simp) ?_
          refine (AllReadyH.cons rfl (fun K hK => ?_) AllReadyH.nil)
          · go_simp
            (with_reducible refine Calls.mono (HFL.out _ b3 A3 n3 c3 (HV.out.below hKwp) HV3c.out) ?_)
            rintro e wf ⟨v4, b5, A5, n5, c5, rfl, hv4, hk4⟩
            have hKwf : Kept W wf := hKwp.trans hk4
            have hzwf : wp.heap.size ≤ wf.heap.size := hk4.size
            have hcwf : Kept wp wf := hk4
            obtain ⟨b4, A4, n4, c4, rfl⟩ := hv4.two
            have HNE := Lib.hid hv4.blocks
            have HV4 := Lib.hid (hv4.mono (B' := w.heap.size + 1 + 1) (by have := hKwp.size; omega))
            clear hv4 hk4
            refine hK.out _ _ hKwf (fun hHeld => ?_)
            clear hK K hHeld
            try simp only [Act.put, List.setIfInBounds_toArray, List.set_cons_zero, List.set_cons_succ]
            have Bgb := Bgb.below hcwf
            have Bga := Bga.below hcwf
            refine wpAnyH_take (i := 4) (oi := ?o4x32) (v := ?v4x32) ?hi4x32 (by kernel_rfl) (by kernel_rfl) (by kernel_rfl) ?hQ4x32 ?hy4x32 hKwf ?rest4x32
            case hi4x32 => (simp only [List.getElem?_toArray, List.getElem?_cons_succ, List.getElem?_cons_zero]; rfl)
            case hQ4x32 => exact fun _ _ _ h => h
            case hy4x32 => (refine Or.inl ⟨by rfl, ?_⟩; intro W hSw; (try dsimp only at hSw); go_simp; (try with_reducible rfl))
            try simp only [Act.put, List.setIfInBounds_toArray, List.set_cons_zero, List.set_cons_succ]
            refine wpAnyH_take (i := 5) (oi := ?o5x33) (v := ?v5x33) ?hi5x33 (by kernel_rfl) (by kernel_rfl) (by kernel_rfl) ?hQ5x33 ?hy5x33 hKwf ?rest5x33
            case hi5x33 => (simp only [List.getElem?_toArray, List.getElem?_cons_succ, List.getElem?_cons_zero]; rfl)
            case hQ5x33 => exact fun _ _ _ h => h
            case hy5x33 => (refine Or.inl ⟨by rfl, ?_⟩; intro W hSw; (try dsimp only at hSw); go_simp; (try with_reducible rfl))
            try simp only [Act.put, List.setIfInBounds_toArray, List.set_cons_zero, List.set_cons_succ]
            refine wpAnyH_take (i := 6) (oi := ?o6x34) (v := ?v6x34) ?hi6x34 (by kernel_rfl) (by kernel_rfl) (by kernel_rfl) ?hQ6x34 ?hy6x34 hKwf ?rest6x34
            case hi6x34 => (simp only [List.getElem?_toArray, List.getElem?_cons_succ, List.getElem?_cons_zero]; rfl)
            case hQ6x34 => exact fun _ _ _ h => h
            case hy6x34 => (refine Or.inl ⟨by rfl, ?_⟩; intro W hSw; (try dsimp only at hSw); go_simp; (try with_reducible rfl))
            try simp only [Act.put, List.setIfInBounds_toArray, List.set_cons_zero, List.set_cons_succ]
            have BT := B2.out.below hKwf
            refine wpAnyH_ready (rs := [9]) (by kernel_rfl) (by simp) ?_
            refine (AllReadyH.cons rfl (fun K hK => ?_) AllReadyH.nil)
            rw [if_pos (by rfl)]
            refine wp_store_row 24 (.tmp 5) (.tmp 22) rfl (wb.heap.size) #[.bool b4, .slice A4 n4 c4] (by rfl) (by rfl) 24 _ Bga info_SI rfl (by simp [Value.oneCell']) ?_
            have hKs : Kept W (wf.setRow (wb.heap.size) #[.bool b4, .slice A4 n4 c4]) := below_setRow hKwf (by omega) _
            have HVs := Lib.hid (HV4.out.setRowNe (k := wb.heap.size) (fun h bl off e => by have := HNE.out h bl off e; omega) #[.bool b4, .slice A4 n4 c4])
            have Bgb := Bgb.rowFar (k := wb.heap.size) (cs' := #[.bool b4, .slice A4 n4 c4]) (by omega)
            have BT := BT.rowFar (k := wb.heap.size) (cs' := #[.bool b4, .slice A4 n4 c4]) (by omega)
            have Bga := setRow_heap _ _ _ #[.bool b4, .slice A4 n4 c4] _ _ Bga
            refine hK.out _ _ hKs (fun hHeld => ?_)
            clear hK K hHeld
            refine wpAnyH_done (by kernel_rfl) ?_ _
            simp only [lastQ]
            refine wp_store_row 24 (.tmp 6) (.tmp 23) rfl (wd.heap.size) #[.bool b5, .slice A5 n5 c5] (by rfl) (by rfl) 24 _ Bgb info_SI rfl (by simp [Value.oneCell']) ?_
            have hKt : Kept W ((wf.setRow (wb.heap.size) #[.bool b4, .slice A4 n4 c4]).setRow (wd.heap.size) #[.bool b5, .slice A5 n5 c5]) := below_setRow hKs (by omega) _
            have HVt := Lib.hid (HVs.out.setRowNe (k := wd.heap.size) (fun h bl off e => by have := HNE.out h bl off e; omega) #[.bool b5, .slice A5 n5 c5])
            have BA := Lib.hid (Blk.rowFar (k := wd.heap.size) (cs' := #[.bool b5, .slice A5 n5 c5]) Bga (by omega))
            have BT := Lib.hid (BT.rowFar (k := wd.heap.size) (cs' := #[.bool b5, .slice A5 n5 c5]) (by omega))
            generalize ((wf.setRow (wb.heap.size) #[.bool b4, .slice A4 n4 c4]).setRow (wd.heap.size) #[.bool b5, .slice A5 n5 c5]) = we at *
            clear Bga Bgb
            go_wp2_with (first | (refine wpList_load_row rfl 24 (.tmp 5) rfl (wb.heap.size) rfl _ _ (0, 0) _ BA.out Try.underlying24 rfl (by exact info_SI) ?_) | (refine wpList_store_row rfl 24 (.tmp 4) (.tmp 24) rfl (w.heap.size + 1) _ rfl rfl 24 _ BT.out info_SI rfl (by simp [Value.oneCell']) ?_))
            refine bodyPost_blk (cs := #[.bool b4, .slice A4 n4 c4]) rfl rfl (setRow_heap _ _ _ _ _ _ BT.out) Try.underlying24 rfl (by exact info_SI) rfl ?_
            exact ⟨_, rfl, (HVt.out.setRow (by omega) _).mono (by omega), below_setRow (HK0.out.trans hKt) (by omega) _⟩
end Go.Proofs.Ytnheiigdgklbcaa
