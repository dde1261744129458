/- The package's graph is made: its lists, tuples and values. -/
import Derived.Test.YtoociokhldakbaaGreatNB
import Derived.Test.YtoociokhldakbaaGreatN8
import Derived.OwnWalk
import Derived.Deep.DeepMust
import Derived.Deep.AppendLies
namespace Go.Proofs.YtoociokhldakbaaGreat
open Go.ChangeShapes Go.WideShapes Go.ChangeAt Go.RowKit
set_option linter.unusedVariables false
set_option maxRecDepth 100000 in
theorem NewList_any (w : World) : Calls Tryz.prog 25 #[.slice none 0 0] w fun e w' => e = .returned (.pointer (some ⟨w.heap.size, 0, none⟩)) ∧ Blk w' w.heap.size 85 #[.slice none 0 0, .bool false, .int .u32 0] ∧ Kept w w' := by
  have hk : Kept w (w.alloc (.cells #[.slice none 0 0, .bool false, .int .u32 0] 85)) := by go_grown
  have HK := Lib.hid hk
  have HB := Lib.hid (Blk.new w 85 #[.slice none 0 0, .bool false, .int .u32 0])
  clear hk
  go_enter Tryz.func25, Tryz.ntmps25
  go_wp2_with fail
  go_ret
  exact ⟨rfl, HB.out, HK.out⟩
/-- n nodes whose row begins in block gb: kind, sign, bytes, bits, text, kids -/
def GM (w : World) (gb n : Nat) (kk : Nat → Int) (ng : Nat → Bool) (mg : Nat → List Nat) (bt : Nat → Nat) (tx : Nat → ByteArray) (ks : Nat → List Nat) : Prop :=
  ∀ i, i < n → ∃ MA mc KA kc, w.cell? ⟨gb, i * 6, none⟩ = some (.int .i64 (kk i)) ∧ w.cell? ⟨gb, i * 6 + 1, none⟩ = some (.bool (ng i)) ∧ w.cell? ⟨gb, i * 6 + 2, none⟩ = some (.slice MA (mg i).length mc) ∧ w.cell? ⟨gb, i * 6 + 3, none⟩ = some (.int .u64 (bt i : Int)) ∧ w.cell? ⟨gb, i * 6 + 4, none⟩ = some (.string (tx i)) ∧ w.cell? ⟨gb, i * 6 + 5, none⟩ = some (.slice KA (ks i).length kc) ∧
    Sl w MA mc (by8 (mg i)) ∧ Sl w KA kc (i64s (ks i))
/-- what the nodes are: at most 12, the kids in range, those of a tuple below it; a bool's bits, an integer's bytes -/
structure GOk (n : Nat) (kk : Nat → Int) (mg : Nat → List Nat) (bt : Nat → Nat) (ks : Nat → List Nat) : Prop where
  size : n ≤ 12
  kind : ∀ i, i < n → 0 ≤ kk i ∧ kk i ≤ 7
  kid : ∀ i, i < n → ∀ d, d ∈ ks i → d < n
  low : ∀ i, i < n → kk i ≠ 6 → ∀ d, d ∈ ks i → d < i
  len : ∀ i, i < n → (ks i).length ≤ 1000
  bits : ∀ i, i < n → kk i = 1 → bt i ≤ 1
  mag : ∀ i, i < n → (mg i).length ≤ 40 ∧ ∀ d, d ∈ mg i → d < 256
  none : ∀ i, i < n → kk i ≠ 6 → kk i ≠ 7 → ks i = []
theorem GM.below {w w' : World} {gb n : Nat} {kk : Nat → Int} {ng : Nat → Bool} {mg : Nat → List Nat} {bt : Nat → Nat} {tx : Nat → ByteArray} {ks : Nat → List Nat} (h : GM w gb n kk ng mg bt tx ks) (hb : Kept w w') : GM w' gb n kk ng mg bt tx ks := fun i hi => by
  obtain ⟨MA, mc, KA, kc, h0, h1, h2, h3, h4, h5, h6, h7⟩ := h i hi
  have e : ∀ k v, w.cell? ⟨gb, i * 6 + k, none⟩ = some v → w'.cell? ⟨gb, i * 6 + k, none⟩ = some v := fun k v hc => (hb.cell (block_lt_of_cell hc)).trans hc
  exact ⟨MA, mc, KA, kc, (hb.cell (block_lt_of_cell h0)).trans h0, e 1 _ h1, e 2 _ h2, e 3 _ h3, e 4 _ h4, e 5 _ h5, h6.below hb, h7.below hb⟩
@[go_sem] theorem asList (v : Value) (w : World) : (Instr.typeAssert (.iface 55 v) 52 55 true).run Tryz.prog w = .ok (.tuple #[v, .bool true]) w := by kernel_rfl
@[go_sem] theorem noList0 (v : Value) (w : World) : (Instr.typeAssert (.iface 68 v) 52 55 true).run Tryz.prog w = .ok (.tuple #[.pointer none, .bool false]) w := by kernel_rfl
@[go_sem] theorem noList1 (v : Value) (w : World) : (Instr.typeAssert (.iface 69 v) 52 55 true).run Tryz.prog w = .ok (.tuple #[.pointer none, .bool false]) w := by kernel_rfl
@[go_sem] theorem noList2 (v : Value) (w : World) : (Instr.typeAssert (.iface 70 v) 52 55 true).run Tryz.prog w = .ok (.tuple #[.pointer none, .bool false]) w := by kernel_rfl
@[go_sem] theorem noList3 (v : Value) (w : World) : (Instr.typeAssert (.iface 75 v) 52 55 true).run Tryz.prog w = .ok (.tuple #[.pointer none, .bool false]) w := by kernel_rfl
@[go_sem] theorem noList4 (v : Value) (w : World) : (Instr.typeAssert (.iface 78 v) 52 55 true).run Tryz.prog w = .ok (.tuple #[.pointer none, .bool false]) w := by kernel_rfl
@[go_sem] theorem noList5 (v : Value) (w : World) : (Instr.typeAssert (.iface 80 v) 52 55 true).run Tryz.prog w = .ok (.tuple #[.pointer none, .bool false]) w := by kernel_rfl
@[go_sem] theorem noList6 (v : Value) (w : World) : (Instr.typeAssert (.iface 81 v) 52 55 true).run Tryz.prog w = .ok (.tuple #[.pointer none, .bool false]) w := by kernel_rfl
theorem B1.iface {w wr : World} {i : Nat} {kk : Nat → Int} {ks : Nat → List Nat} {Lv : Value} {kd : Nat → NK} (h : B1 w wr i kk ks Lv kd) {j : Nat} (hj : j < i) : ∃ T u, (kd j).val (ks j).length = .iface T u := by
  by_cases h6 : kk j = 6
  · obtain ⟨b, e, _⟩ := h.lst j hj h6
    exact ⟨_, _, by rw [e]; rfl⟩
  · by_cases h7 : kk j = 7
    · obtain ⟨A, c, e, _⟩ := h.tup j hj h7
      exact ⟨_, _, by rw [e]; rfl⟩
    · obtain ⟨v, e, hv⟩ := h.sc j hj h6 h7
      rw [e]
      show ∃ T u, v = .iface T u
      rcases hv with rfl | ⟨_, rfl⟩ | ⟨_, _, rfl⟩ | ⟨_, rfl⟩ | ⟨_, rfl⟩ | ⟨_, rfl⟩ <;> exact ⟨_, _, rfl⟩
theorem B1.elem {w wr : World} {i : Nat} {kk : Nat → Int} {ks : Nat → List Nat} {Lv : Value} {kd : Nat → NK} (h : B1 w wr i kk ks Lv kd) {j : Nat} (hj : j < i) : ∃ g c T u, Lv = .slice (some ⟨g, 0, none⟩) i c ∧ (kd j).val (ks j).length = .iface T u ∧ wr.cell? ⟨g, j, none⟩ = some (.iface T u) := by
  obtain ⟨T, u, e⟩ := h.iface hj
  obtain ⟨g, c, eL, _, _⟩ := h.own.form (by omega)
  refine ⟨g, c, T, u, eL, e, ?_⟩
  have hc := h.own.cells (g := g) (by rw [eL]; rfl) j ((kd j).val (ks j).length) (by rw [List.getElem?_map, List.getElem?_range hj]; rfl)
  rw [e] at hc
  have e2 : (⟨g, 0, none⟩ : Addr).add j = ⟨g, j, none⟩ := by by_cases h0 : j = 0 <;> simp [Addr.add, h0]
  rwa [e2] at hc
theorem flt_snoc {l : List Nat} {k d : Nat} (h : l[k]? = some d) (i : Nat) : (l.take (k + 1)).filter (fun d => decide (d < i)) = (l.take k).filter (fun d => decide (d < i)) ++ (if d < i then [d] else []) := by
  rw [List.take_add_one, h, Option.toList_some, List.filter_append]
  congr 1
  by_cases hd : d < i
  · rw [if_pos hd]
    simp [hd]
  · rw [if_neg hd]
    simp [hd]
theorem own_sl {w : World} {B : Nat} {e : TypeId} {v : Value} {xs : List Value} (h : w.ownsRow B e 1 v xs.length xs) : ∃ A c, v = .slice A xs.length c ∧ Sl w A c xs ∧ ∀ g off, A = some ⟨g, off, none⟩ → B ≤ g ∧ g < w.heap.size := by
  rcases h.2 with ⟨e1, e2⟩ | ⟨g, cap, cur, e1, h2, h3, h4⟩
  · have hx : xs = [] := List.eq_nil_of_length_eq_zero e2
    subst hx
    exact ⟨none, 0, e1, Sl.nil w, fun g off e => by cases e⟩
  · have h' := h
    rw [e1] at h'
    refine ⟨some ⟨g, 0, none⟩, cap, e1, (Sl.of_own h').1, fun g' off e => ?_⟩
    injection e with e
    injection e with e
    subst e
    exact ⟨h2, (Array.getElem?_eq_some_iff.1 h3).1⟩
theorem flt_all {l : List Nat} {i : Nat} (h : ∀ d, d ∈ l → d < i) : l.filter (fun d => decide (d < i)) = l := List.filter_eq_self.2 fun d hd => decide_eq_true (h d hd)
theorem ScOk.iface {v : Value} (h : ScOk v) : ∃ T u, v = .iface T u := by
  rcases h with rfl | ⟨_, rfl⟩ | ⟨_, _, rfl⟩ | ⟨_, rfl⟩ | ⟨_, rfl⟩ | ⟨_, rfl⟩ <;> exact ⟨_, _, rfl⟩
set_option maxRecDepth 100000 in
set_option maxHeartbeats 1000000 in
theorem nested_any (gb n nc root : Nat) (kk : Nat → Int) (ng : Nat → Bool) (mg : Nat → List Nat) (bt : Nat → Nat) (tx : Nat → ByteArray) (ks : Nat → List Nat) (hok : GOk n kk mg bt ks) (hroot : root < n) (w : World) (hg : GM w gb n kk ng mg bt tx ks) :
    Calls Tryz.prog 15 #[.agg #[.slice (some ⟨gb, 0, none⟩) n nc, .int .i64 (root : Int)]] w (NestP n kk ks w) := by
  obtain ⟨i0, hi0, hz0, hz1, hz2⟩ := info_parts info_val
  have hk0 : Kept w (w.alloc (.cells #[.slice (some ⟨gb, 0, none⟩) n nc, .int .i64 (root : Int)] 24)) := by go_grown
  have hrI : (root : Int) < (n : Int) := by omega
  have hrJ : ¬ (n : Int) ≤ (root : Int) := by omega
  have hr0 : ¬ (root : Int) < 0 := by omega
  have hnI : (n : Int) ≤ 12 := by have := hok.size; omega
  have HI : Hid (Tryz.prog.info? 52 = some i0 ∧ i0.zero = some .nilIface ∧ i0.size = 1 ∧ i0.bytes = 16) := Lib.hid ⟨hi0, hz0, hz1, hz2⟩
  have BOX := Lib.hid (Blk.new w 24 #[.slice (some ⟨gb, 0, none⟩) n nc, .int .i64 (root : Int)])
  have HGM := Lib.hid (hg.below hk0)
  have HK0 := Lib.hid hk0
  have HOK := Lib.hid hok
  have HRT := Lib.hid hroot
  have START : Hid (B1 (w.alloc (.cells #[.slice (some ⟨gb, 0, none⟩) n nc, .int .i64 (root : Int)] 24)) (w.alloc (.cells #[.slice (some ⟨gb, 0, none⟩) n nc, .int .i64 (root : Int)] 24)) 0 kk ks (.slice none 0 0) (fun _ => .sc .nilIface)) := Lib.hid ⟨Below.refl _ _, ⟨rfl, .inl ⟨rfl, rfl⟩⟩, fun j hj => absurd hj (by omega), fun j hj => absurd hj (by omega), fun j hj => absurd hj (by omega), fun j hj => absurd hj (by omega)⟩
  clear hi0 hz0 hz1 hz2 hk0 hg hok hroot
  go_enter Tryz.func15, Tryz.ntmps15
  go_wp2_with fail
  generalize w.alloc (.cells #[.slice (some ⟨gb, 0, none⟩) n nc, .int .i64 (root : Int)] 24) = W0 at *
  go_loopw [4, 31] (fun lv iv wr => ∃ (i : Nat) (kd : Nat → NK), iv = .int .i64 (i : Int) ∧ i ≤ n ∧ B1 W0 wr i kk ks lv kd) (fun _ iv _ => n - (intOf iv).toNat)
  case atStart => exact ⟨0, _, rfl, Nat.zero_le _, START.out⟩
  case round =>
    obtain ⟨i, kd, rfl, hi, hB⟩ := hrel
    have hk1 : Kept W0 wr := hB.kept
    by_cases hlt : i < n
    · obtain ⟨MA, mc, KA, kc, c0, c1, c2, c3, c4, c5, hsm, hsk⟩ := HGM.out.below hk1 i hlt
      have i1 : (i : Int) < (n : Int) := by omega
      have j0 : (0 : Int) ≤ (i : Int) := by omega
      have HB := Lib.hid hB
      have HKK := Lib.hid hk1
      have HLT := Lib.hid hlt
      clear hB hk1 hlt hi
      go_wp2_with fail
      have K2 : Kept wr (wr.alloc (.cells #[.int .i64 (kk i), .bool (ng i), .slice MA (mg i).length mc, .int .u64 (bt i : Int), .string (tx i), .slice KA (ks i).length kc] 45)) := by go_grown
      have NB := Blk.new wr 45 #[.int .i64 (kk i), .bool (ng i), .slice MA (mg i).length mc, .int .u64 (bt i : Int), .string (tx i), .slice KA (ks i).length kc]
      have hskW := hsk.below K2
      have hsmW := hsm.below K2
      clear c0 c1 c2 c3 c4 c5
      obtain ⟨nb, hnb⟩ : ∃ nb, nb = wr.heap.size := ⟨_, rfl⟩
      have hnb2 : nb < (wr.alloc (.cells #[.int .i64 (kk i), .bool (ng i), .slice MA (mg i).length mc, .int .u64 (bt i : Int), .string (tx i), .slice KA (ks i).length kc] 45)).heap.size := by rw [World.size_alloc]; omega
      rw [← hnb] at NB ⊢
      generalize wr.alloc (.cells #[.int .i64 (kk i), .bool (ng i), .slice MA (mg i).length mc, .int .u64 (bt i : Int), .string (tx i), .slice KA (ks i).length kc] 45) = W2 at *
      have HK2 := Lib.hid K2
      have HNB := Lib.hid NB
      have HSK := Lib.hid hskW
      have HSM := Lib.hid hsmW
      have HBX2 : Hid (Blk W2 w.heap.size 24 #[.slice (some ⟨gb, 0, none⟩) n nc, .int .i64 (root : Int)]) := Lib.hid ((BOX.out.below HKK.out).below K2)
      obtain ⟨m, hm⟩ : ∃ m, m = (ks i).length := ⟨_, rfl⟩
      have hmI : (m : Int) ≤ 1000 := by have := HOK.out.len i HLT.out; omega
      rw [← hm] at NB HNB ⊢
      have HM := Lib.hid hm
      clear hskW hsmW hsk hsm K2 NB hm hnb
      obtain ⟨wi, hwi⟩ : ∃ wi, wi = wr := ⟨_, rfl⟩
      subst hwi
      go_loopw [7, 39] (fun tv kv wx => ∃ k : Nat, kv = .int .i64 (k : Int) ∧ k ≤ m ∧ Kept W2 wx ∧ wx.ownsRow W2.heap.size 52 1 tv (((ks i).take k).filter (fun d => decide (d < i))).length ((((ks i).take k).filter (fun d => decide (d < i))).map fun d => (kd d).val (ks d).length)) (fun _ kv _ => m - (intOf kv).toNat)
      case atStart => exact ⟨0, rfl, Nat.zero_le _, Below.refl _ _, ⟨by simp, .inl ⟨rfl, by simp⟩⟩⟩
      case round =>
        obtain ⟨k, rfl, hk, hkW, hown⟩ := hrel
        have hbx := (HBX2.out.below hkW).cell 0
        have hnk := (HNB.out.below hkW).cell 0
        by_cases hlt2 : k < m
        · have hke := List.getElem?_eq_getElem (l := ks i) (i := k) (by have := HM.out; omega)
          obtain ⟨kb, ko, eKA, hcd⟩ := (HSK.out.below hkW).at_ (fun e => by
            have := congrArg List.length e
            rw [i64s, List.length_map, List.length_nil] at this
            have := HM.out
            omega)
          subst eKA
          have hcdk := hcd k _ (i64s_get (ks i) k (by have := HM.out; omega))
          generalize (ks i)[k] = d at hke hcdk
          have hdn : d < n := HOK.out.kid i HLT.out d (List.mem_of_getElem? hke)
          have d0 : ¬ (d : Int) < 0 := by omega
          have d1 : ¬ (n : Int) ≤ (d : Int) := by omega
          have k1 : (k : Int) < (m : Int) := by omega
          have k0 : (0 : Int) ≤ (k : Int) := by omega
          have HKE := Lib.hid hke
          have HK3 := Lib.hid hlt2
          have HKW := Lib.hid hkW
          have HLOW := Lib.hid (fun h6 => HOK.out.low i HLT.out h6 d (List.mem_of_getElem? hke))
          have HFL : Hid ((((ks i).take k).filter (fun d => decide (d < i))).length ≤ 1000) := Lib.hid (by
            have h1 := List.length_filter_le (fun d => decide (d < i)) ((ks i).take k)
            have h2 := List.length_take_le k (ks i)
            have := HOK.out.len i HLT.out
            have h3 : ((ks i).take k).length ≤ (ks i).length := by rw [List.length_take]; omega
            omega)
          by_cases hdi : d < i
          · have d2 : (d : Int) < (i : Int) := by omega
            have d3 : ¬ (i : Int) ≤ (d : Int) := by omega
            obtain ⟨g, c, T, u, rfl, eT, hce⟩ := HB.out.elem hdi
            have hce2 := ((HK2.out.trans hkW).cell (block_lt_of_cell hce)).trans hce
            have HT := Lib.hid eT
            have HDI := Lib.hid hdi
            have hka : Kept W2 (wr.alloc (.cells #[.iface T u] 52)) := hkW.trans (show Kept wr (wr.alloc (.cells #[.iface T u] 52)) by go_grown)
            have hoa : (wr.alloc (.cells #[.iface T u] 52)).ownsRow W2.heap.size 52 1 u7 (((ks i).take k).filter (fun d => decide (d < i))).length ((((ks i).take k).filter (fun d => decide (d < i))).map fun d => (kd d).val (ks d).length) :=
              hown.kept (only_of_kept (show Kept wr (wr.alloc (.cells #[.iface T u] 52)) by go_grown) none) (by cases u7.ownBlock with | none => exact .inl rfl | some a => exact .inr (by simp))
            have HOA := Lib.hid hoa
            have HKA := Lib.hid hka
            clear hce eT hka hoa hown hkW hdi hke hdn hcd hlt2 hk
            by_cases h6 : kk i = 6
            · rw [h6] at hnk
              clear h6
              go_wp2_with (at_builtin; go_must (refine wpList_append_lies _ rfl (.tmp 65) (.tmp 70) 48 rfl W2.heap.size 52 i0 .nilIface 1 16 Tryz.underlying48 HI.out.1 HI.out.2.1 HI.out.2.2.1 HI.out.2.2.2 rfl (by omega) _ _ _ rfl HOA.out ⟨wr.heap.size, 0, none⟩ 1 1 [.iface T u] rfl rfl (cell_one_new _ _ _) (by intro x hx; simp at hx; subst hx; rfl) (by omega) (by have := HFL.out; simp only [maxLen]; omega) (by have := HFL.out; omega) (by simp only [World.size_alloc]; have := HKW.out.size; omega) _ rfl ?_); intro g2 cap2 w5 ho2 hg2 hat hgl; have HO2 := Lib.hid ho2; have HG2 := Lib.hid hg2; clear ho2 hg2 hat hgl)
              exact ⟨⟨k + 1, by go_num, by have := HK3.out; omega, own_kept HKA.out HOA.out (Nat.le_refl _) HG2.out, by rw [flt_snoc HKE.out i, if_pos HDI.out, List.length_append, List.map_append, List.map_cons, List.map_nil, HT.out]; exact HO2.out⟩, by have := HK3.out; simp [intOf]; omega⟩
            · clear HLOW
              go_wp2_with (at_builtin; go_must (refine wpList_append_lies _ rfl (.tmp 65) (.tmp 70) 48 rfl W2.heap.size 52 i0 .nilIface 1 16 Tryz.underlying48 HI.out.1 HI.out.2.1 HI.out.2.2.1 HI.out.2.2.2 rfl (by omega) _ _ _ rfl HOA.out ⟨wr.heap.size, 0, none⟩ 1 1 [.iface T u] rfl rfl (cell_one_new _ _ _) (by intro x hx; simp at hx; subst hx; rfl) (by omega) (by have := HFL.out; simp only [maxLen]; omega) (by have := HFL.out; omega) (by simp only [World.size_alloc]; have := HKW.out.size; omega) _ rfl ?_); intro g2 cap2 w5 ho2 hg2 hat hgl; have HO2 := Lib.hid ho2; have HG2 := Lib.hid hg2; clear ho2 hg2 hat hgl)
              exact ⟨⟨k + 1, by go_num, by have := HK3.out; omega, own_kept HKA.out HOA.out (Nat.le_refl _) HG2.out, by rw [flt_snoc HKE.out i, if_pos HDI.out, List.length_append, List.map_append, List.map_cons, List.map_nil, HT.out]; exact HO2.out⟩, by have := HK3.out; simp [intOf]; omega⟩
          · have h6 : kk i = 6 := by
              by_cases h6 : kk i = 6
              · exact h6
              · exact absurd (HLOW.out h6) hdi
            rw [h6] at hnk
            have d2 : ¬ (d : Int) < (i : Int) := by omega
            have HDI := Lib.hid hdi
            have HOWN := Lib.hid hown
            clear h6 hown hkW hdi hke hdn hcd hlt2 hk
            go_wp2_with fail
            exact ⟨⟨k + 1, by go_num, by have := HK3.out; omega, HKW.out, by rw [flt_snoc HKE.out i, if_neg HDI.out, List.append_nil]; exact HOWN.out⟩, by have := HK3.out; simp [intOf]; omega⟩
        · have hkm : k = (ks i).length := by have := HM.out; omega
          rw [hkm, List.take_length] at hown
          have HOWN := Lib.hid hown
          have HKW := Lib.hid hkW
          have k1 : ¬ (k : Int) < (m : Int) := by omega
          have hkk := HOK.out.kind i HLT.out
          have HLOWJ : Hid (∀ j, j ≤ i → kk j = 7 → ∀ d, d ∈ ks j → d < j) := Lib.hid fun j hj h7 d hd => HOK.out.low j (by have := HLT.out; omega) (by omega) d hd
          have HCELLS := Lib.hid (HNB.out.below hkW)
          clear hown hkW hkm hlt2 hk
          by_cases h6 : kk i = 6
          · rw [h6] at hnk
            have HK6 := Lib.hid h6
            clear h6 hkk
            go_wp2_with fail
            refine (NewList_any wr).mono ?_
            rintro e wz ⟨rfl, hbz, hkz⟩
            have HKZ := Lib.hid ((HK2.out.trans HKW.out).trans hkz)
            have HBZ := Lib.hid hbz
            clear hbz hkz
            have hka : Kept wi (wz.alloc (.cells #[.iface 55 (.pointer (some ⟨wr.heap.size, 0, none⟩))] 52)) := HKZ.out.trans (show Kept wz (wz.alloc (.cells #[.iface 55 (.pointer (some ⟨wr.heap.size, 0, none⟩))] 52)) by go_grown)
            have HOA := Lib.hid (HB.out.own.kept (only_of_kept hka none) (by cases u4.ownBlock with | none => exact .inl rfl | some a => exact .inr (by simp)))
            have HKA := Lib.hid hka
            clear hka
            have H6 : Hid (kk i = 6 → ∃ b, NK.list wr.heap.size none 0 = .list b none 0 ∧ wi.heap.size ≤ b ∧ Blk (wz.alloc (.cells #[.iface 55 (.pointer (some ⟨wr.heap.size, 0, none⟩))] 52)) b 85 #[.slice none 0 0, .bool false, .int .u32 0]) := Lib.hid fun _ => ⟨wr.heap.size, rfl, (HK2.out.trans HKW.out).size, HBZ.out.below (show Kept wz (wz.alloc (.cells #[.iface 55 (.pointer (some ⟨wr.heap.size, 0, none⟩))] 52)) by go_grown)⟩
            have H7 : Hid (kk i = 7 → ∃ A c, NK.list wr.heap.size none 0 = .tup A c ∧ Sl (wz.alloc (.cells #[.iface 55 (.pointer (some ⟨wr.heap.size, 0, none⟩))] 52)) A c ((ks i).map fun k => (kd k).val (ks k).length) ∧ ∀ g off, A = some ⟨g, off, none⟩ → wi.heap.size ≤ g ∧ g < (wz.alloc (.cells #[.iface 55 (.pointer (some ⟨wr.heap.size, 0, none⟩))] 52)).heap.size) := Lib.hid fun h => absurd h (by rw [HK6.out]; decide)
            have H8 : Hid (kk i ≠ 6 → kk i ≠ 7 → ∃ v, NK.list wr.heap.size none 0 = .sc v ∧ ScOk v) := Lib.hid fun h => absurd HK6.out h
            go_wp2_with (at_builtin; go_must (refine wpList_append_lies _ rfl (.tmp 98) (.tmp 101) 48 rfl W0.heap.size 52 i0 .nilIface 1 16 Tryz.underlying48 HI.out.1 HI.out.2.1 HI.out.2.2.1 HI.out.2.2.2 rfl (by omega) _ _ _ rfl HOA.out ⟨wz.heap.size, 0, none⟩ 1 1 [.iface 55 (.pointer (some ⟨wr.heap.size, 0, none⟩))] rfl rfl (cell_one_new _ _ _) (by intro x hx; simp at hx; subst hx; rfl) (by omega) (by have := HLT.out; have := HOK.out.size; simp only [maxLen]; omega) (by have := HLT.out; have := HOK.out.size; omega) (by have := HKA.out.size; have := HB.out.kept.size; omega) _ rfl ?_); intro g2 cap2 w5 ho2 hg2 hat hgl; have HO2 := Lib.hid ho2; have HG2 := Lib.hid hg2; have HAT := Lib.hid hat; clear ho2 hg2 hat hgl)
            exact ⟨⟨i + 1, _, by go_num, HLT.out, HB.out.push (.list wr.heap.size none 0) HKA.out HG2.out (g := g2) rfl (by rcases HAT.out with h | h; exact .inl h; exact .inr (by omega)) HO2.out HLOWJ.out H6.out H7.out H8.out⟩, by have := HLT.out; simp [intOf]; omega⟩
          · by_cases h7 : kk i = 7
            · have hall : ∀ d, d ∈ ks i → d < i := fun d hd => HOK.out.low i HLT.out h6 d hd
              obtain ⟨TA, tc, eT, hTs, hTb⟩ : ∃ TA tc, u7 = .slice TA m tc ∧ Sl wr TA tc ((ks i).map fun d => (kd d).val (ks d).length) ∧ ∀ g off, TA = some ⟨g, off, none⟩ → W2.heap.size ≤ g ∧ g < wr.heap.size := by
                have h := HOWN.out
                rw [flt_all hall] at h
                have h' : wr.ownsRow W2.heap.size 52 1 u7 ((ks i).map fun d => (kd d).val (ks d).length).length ((ks i).map fun d => (kd d).val (ks d).length) := by
                  rw [List.length_map]
                  exact h
                have := own_sl h'
                rwa [List.length_map, ← HM.out] at this
              subst eT
              rw [h7] at hnk
              have HK7 := Lib.hid h7
              have HTS := Lib.hid hTs
              have HTB := Lib.hid hTb
              obtain ⟨wz, hwz⟩ : ∃ wz, wz = wr := ⟨_, rfl⟩
              subst hwz
              have HKZ := Lib.hid (HK2.out.trans HKW.out)
              clear h6 h7 hall hTs hTb hkk
              have hka : Kept wi (wz.alloc (.cells #[.iface 68 (.slice TA m tc)] 52)) := HKZ.out.trans (show Kept wz (wz.alloc (.cells #[.iface 68 (.slice TA m tc)] 52)) by go_grown)
              have HOA := Lib.hid (HB.out.own.kept (only_of_kept hka none) (by cases u4.ownBlock with | none => exact .inl rfl | some a => exact .inr (by simp)))
              have HKA := Lib.hid hka
              clear hka
              have hsz : wz.heap.size < (wz.alloc (.cells #[.iface 68 (.slice TA m tc)] 52)).heap.size := by rw [World.size_alloc]; omega
              have H6 : Hid (kk i = 6 → ∃ b, NK.tup TA tc = .list b none 0 ∧ wi.heap.size ≤ b ∧ Blk (wz.alloc (.cells #[.iface 68 (.slice TA m tc)] 52)) b 85 #[.slice none 0 0, .bool false, .int .u32 0]) := Lib.hid fun h => absurd h (by rw [HK7.out]; decide)
              have H7 : Hid (kk i = 7 → ∃ A c, NK.tup TA tc = .tup A c ∧ Sl (wz.alloc (.cells #[.iface 68 (.slice TA m tc)] 52)) A c ((ks i).map fun k => (kd k).val (ks k).length) ∧ ∀ g off, A = some ⟨g, off, none⟩ → wi.heap.size ≤ g ∧ g < (wz.alloc (.cells #[.iface 68 (.slice TA m tc)] 52)).heap.size) := Lib.hid fun _ => ⟨TA, tc, rfl, HTS.out.below (show Kept wz (wz.alloc (.cells #[.iface 68 (.slice TA m tc)] 52)) by go_grown), fun g off e => by have h1 := HTB.out g off e; have h2 := HK2.out.size; exact ⟨by omega, by omega⟩⟩
              have H8 : Hid (kk i ≠ 6 → kk i ≠ 7 → ∃ v, NK.tup TA tc = .sc v ∧ ScOk v) := Lib.hid fun _ h => absurd HK7.out h
              clear hsz
              go_wp2_with (at_builtin; go_must (refine wpList_append_lies _ rfl (.tmp 105) (.tmp 108) 48 rfl W0.heap.size 52 i0 .nilIface 1 16 Tryz.underlying48 HI.out.1 HI.out.2.1 HI.out.2.2.1 HI.out.2.2.2 rfl (by omega) _ _ _ rfl HOA.out ⟨wz.heap.size, 0, none⟩ 1 1 [.iface 68 (.slice TA m tc)] rfl rfl (cell_one_new _ _ _) (by intro x hx; simp at hx; subst hx; rfl) (by omega) (by have := HLT.out; have := HOK.out.size; simp only [maxLen]; omega) (by have := HLT.out; have := HOK.out.size; omega) (by have := HKA.out.size; have := HB.out.kept.size; omega) _ rfl ?_); intro g2 cap2 w5 ho2 hg2 hat hgl; have HO2 := Lib.hid ho2; have HG2 := Lib.hid hg2; have HAT := Lib.hid hat; clear ho2 hg2 hat hgl)
              exact ⟨⟨i + 1, _, by go_num, HLT.out, HB.out.push (.tup TA tc) HKA.out HG2.out (g := g2) rfl (by rcases HAT.out with h | h; exact .inl h; exact .inr (by omega)) (by rw [← HM.out]; exact HO2.out) HLOWJ.out H6.out H7.out H8.out⟩, by have := HLT.out; simp [intOf]; omega⟩
            · have HS := Lib.hid (scalar_any (kk i) hkk.1 (by omega) 0 (ng i) MA mc (mg i) (bt i) (tx i) none 0 0 (HOK.out.bits i HLT.out) (by have := (HOK.out.mag i HLT.out).1; omega) (HOK.out.mag i HLT.out).2 wr (HSM.out.below HKW.out))
              have hn1 := HCELLS.out.cell 1
              have hn2 := HCELLS.out.cell 2
              have hn3 := HCELLS.out.cell 3
              have hn4 := HCELLS.out.cell 4
              simp only [List.getElem?_toArray, List.getElem?_cons_succ, List.getElem?_cons_zero] at hn1 hn2 hn3 hn4
              have h6b : ¬ (kk i = 6) := h6
              have h7b : ¬ (kk i = 7) := h7
              have HH6 := Lib.hid h6
              have HH7 := Lib.hid h7
              clear hkk h6 h7
              go_wp2_with fail
              refine HS.out.mono ?_
              rintro e wz ⟨⟨v, rfl, hv⟩, hkz⟩
              obtain ⟨T, u, rfl⟩ := hv.iface
              have HV := Lib.hid hv
              have HKZ := Lib.hid ((HK2.out.trans HKW.out).trans hkz)
              clear hv hkz
              have hka : Kept wi (wz.alloc (.cells #[.iface T u] 52)) := HKZ.out.trans (show Kept wz (wz.alloc (.cells #[.iface T u] 52)) by go_grown)
              have HOA := Lib.hid (HB.out.own.kept (only_of_kept hka none) (by cases u4.ownBlock with | none => exact .inl rfl | some a => exact .inr (by simp)))
              have HKA := Lib.hid hka
              clear hka
              have H6 : Hid (kk i = 6 → ∃ b, NK.sc (.iface T u) = .list b none 0 ∧ wi.heap.size ≤ b ∧ Blk (wz.alloc (.cells #[.iface T u] 52)) b 85 #[.slice none 0 0, .bool false, .int .u32 0]) := Lib.hid fun h => absurd h HH6.out
              have H7 : Hid (kk i = 7 → ∃ A c, NK.sc (.iface T u) = .tup A c ∧ Sl (wz.alloc (.cells #[.iface T u] 52)) A c ((ks i).map fun k => (kd k).val (ks k).length) ∧ ∀ g off, A = some ⟨g, off, none⟩ → wi.heap.size ≤ g ∧ g < (wz.alloc (.cells #[.iface T u] 52)).heap.size) := Lib.hid fun h => absurd h HH7.out
              have H8 : Hid (kk i ≠ 6 → kk i ≠ 7 → ∃ v, NK.sc (.iface T u) = .sc v ∧ ScOk v) := Lib.hid fun _ _ => ⟨_, rfl, HV.out⟩
              go_wp2_with (at_builtin; go_must (refine wpList_append_lies _ rfl (.tmp 92) (.tmp 94) 48 rfl W0.heap.size 52 i0 .nilIface 1 16 Tryz.underlying48 HI.out.1 HI.out.2.1 HI.out.2.2.1 HI.out.2.2.2 rfl (by omega) _ _ _ rfl HOA.out ⟨wz.heap.size, 0, none⟩ 1 1 [.iface T u] rfl rfl (cell_one_new _ _ _) (by intro x hx; simp at hx; subst hx; rfl) (by omega) (by have := HLT.out; have := HOK.out.size; simp only [maxLen]; omega) (by have := HLT.out; have := HOK.out.size; omega) (by have := HKA.out.size; have := HB.out.kept.size; omega) _ rfl ?_); intro g2 cap2 w5 ho2 hg2 hat hgl; have HO2 := Lib.hid ho2; have HG2 := Lib.hid hg2; have HAT := Lib.hid hat; clear ho2 hg2 hat hgl)
              exact ⟨⟨i + 1, _, by go_num, HLT.out, HB.out.push (.sc (.iface T u)) HKA.out HG2.out (g := g2) rfl (by rcases HAT.out with h | h; exact .inl h; exact .inr (by omega)) HO2.out HLOWJ.out H6.out H7.out H8.out⟩, by have := HLT.out; simp [intOf]; omega⟩
    · have hin : n = i := by omega
      subst hin
      have HB := Lib.hid hB
      have HK1 := Lib.hid hk1
      obtain ⟨Lg, Lc, eL, hLc⟩ := hB.elemv HRT.out
      subst eL
      have HLV := Lib.hid hLc
      have hbx := (BOX.out.below hk1).cell 0
      have LS0 := Lib.hid hB.ls
      have HPG : Hid (Prot n kd (.slice (some ⟨Lg, 0, none⟩) n Lc) Lg) := Lib.hid (.inl rfl)
      clear hB hk1 hLc hlt hi
      go_wp2_with fail
      obtain ⟨w1, hw1⟩ : ∃ w1, w1 = wr := ⟨_, rfl⟩
      subst hw1
      go_loopw [114] (fun iv wx => ∃ (i : Nat) (S : Nat → Value), iv = .int .i64 (i : Int) ∧ i ≤ n ∧ LS wx W0.heap.size n (lbl kd) (Prot n kd (.slice (some ⟨Lg, 0, none⟩) n Lc)) (fun _ => false) S (fun j => if j < i then kvals kd ks j else []) ∧ PK W0.heap.size (Prot n kd (.slice (some ⟨Lg, 0, none⟩) n Lc)) w1 wx) (fun iv _ => n - (intOf iv).toNat)
      case atStart => exact ⟨0, _, rfl, Nat.zero_le _, LS0.out.congr (fun j _ _ _ => by rw [if_neg (show ¬ j < 0 by omega)]), PK.refl _ _ _⟩
      case round =>
        obtain ⟨i, S, rfl, hi, hLS, hPK⟩ := hrel
        have hkW : Kept W0 wr := hPK.kept HK1.out (Nat.le_refl _)
        by_cases hlt : i < n
        · obtain ⟨MA, mc, KA, kc, d0, d1, d2, d3, d4, d5, hsm, hsk⟩ := HGM.out i hlt
          have cup : ∀ k v, W0.cell? ⟨gb, i * 6 + k, none⟩ = some v → wr.cell? ⟨gb, i * 6 + k, none⟩ = some v := fun k v hc => (hkW.cell (block_lt_of_cell hc)).trans hc
          have c0 : wr.cell? ⟨gb, i * 6, none⟩ = some (.int .i64 (kk i)) := (hkW.cell (block_lt_of_cell d0)).trans d0
          have c1 := cup 1 _ d1
          have c2 := cup 2 _ d2
          have c3 := cup 3 _ d3
          have c4 := cup 4 _ d4
          have c5 := cup 5 _ d5
          have HSK := Lib.hid hsk
          clear d0 d1 d2 d3 d4 d5 cup
          have i1 : (i : Int) < (n : Int) := by omega
          have j0 : (0 : Int) ≤ (i : Int) := by omega
          have hbx := (BOX.out.below hkW).cell 0
          have HLS := Lib.hid hLS
          have HPK := Lib.hid hPK
          have HLT := Lib.hid hlt
          have hle : wr.cell? ⟨Lg, i, none⟩ = some ((kd i).val (ks i).length) := (World.cell?_of_block (a := ⟨Lg, i, none⟩) (hPK.block Lg (block_lt_of_cell (HLV.out i hlt)) (.inl HPG.out))).trans (HLV.out i hlt)
          have K2 : Kept wr (wr.alloc (.cells #[.int .i64 (kk i), .bool (ng i), .slice MA (mg i).length mc, .int .u64 (bt i : Int), .string (tx i), .slice KA (ks i).length kc] 45)) := by go_grown
          have HLE2 : (wr.alloc (.cells #[.int .i64 (kk i), .bool (ng i), .slice MA (mg i).length mc, .int .u64 (bt i : Int), .string (tx i), .slice KA (ks i).length kc] 45)).cell? ⟨Lg, i, none⟩ = some ((kd i).val (ks i).length) := (K2.cell (block_lt_of_cell hle)).trans hle
          have hlg : Lg < wr.heap.size := block_lt_of_cell hle
          clear hLS hPK hlt hi hkW
          by_cases h6 : kk i = 6
          · obtain ⟨b, ek, _⟩ := HB.out.lst i HLT.out h6
            rw [ek] at hle HLE2
            simp only [NK.val] at hle HLE2
            rw [h6] at c0 K2
            have hbl : lbl kd i = some b := by unfold lbl; rw [ek]
            clear HLE2
            go_wp2_with fail
            obtain ⟨nb, hnb⟩ : ∃ nb, nb = wr.heap.size := ⟨_, rfl⟩
            have NB := Blk.new wr 45 #[.int .i64 6, .bool (ng i), .slice MA (mg i).length mc, .int .u64 (bt i : Int), .string (tx i), .slice KA (ks i).length kc]
            have hLS2 := HLS.out.addP K2 (nb := nb) (by omega) (by rw [World.size_alloc]; omega)
            have hPK2 : PK W0.heap.size (Prot n kd (.slice (some ⟨Lg, 0, none⟩) n Lc)) w1 (wr.alloc (.cells #[.int .i64 6, .bool (ng i), .slice MA (mg i).length mc, .int .u64 (bt i : Int), .string (tx i), .slice KA (ks i).length kc] 45)) := HPK.out.trans (PK.of_kept K2)
            rw [← hnb] at NB ⊢
            generalize wr.alloc (.cells #[.int .i64 6, .bool (ng i), .slice MA (mg i).length mc, .int .u64 (bt i : Int), .string (tx i), .slice KA (ks i).length kc] 45) = W2 at *
            have HNB := Lib.hid NB
            have HLS2 := Lib.hid hLS2
            have HPK2 := Lib.hid hPK2
            have HBL := Lib.hid hbl
            clear c0 c1 c2 c3 c4 c5 hsm hsk hLS2 hPK2 K2 NB hnb hbl hle h6 ek hlg hbx
            obtain ⟨wi, hwi⟩ : ∃ wi, wi = wr := ⟨_, rfl⟩
            subst hwi
            have hmI : ((ks i).length : Int) ≤ 1000 := by have := HOK.out.len i HLT.out; omega
            go_loopw [16] (fun jv wx => ∃ (j : Nat) (S' : Nat → Value), jv = .int .i64 (j : Int) ∧ j ≤ (ks i).length ∧ LS wx W0.heap.size n (lbl kd) (fun g => Prot n kd (.slice (some ⟨Lg, 0, none⟩) n Lc) g ∨ g = nb) (fun _ => false) S' (fun q => if q = i then (kvals kd ks i).take j else if q < i then kvals kd ks q else []) ∧ PK W0.heap.size (fun g => Prot n kd (.slice (some ⟨Lg, 0, none⟩) n Lc) g ∨ g = nb) W2 wx) (fun jv _ => (ks i).length - (intOf jv).toNat)
            case atStart => exact ⟨0, S, rfl, Nat.zero_le _, HLS2.out.congr (fun q _ _ _ => by
              by_cases e : q = i
              · rw [if_pos e, if_neg (show ¬ q < i by omega), List.take_zero]
              · rw [if_neg e]), PK.refl _ _ _⟩
            case round =>
              obtain ⟨j, S', rfl, hj, hLS3, hPK3⟩ := hrel
              have hn5 := (show Blk wr nb 45 _ from (hPK3.block nb HNB.out.lt (.inl (.inr rfl))).trans HNB.out).cell 5
              simp only [List.getElem?_toArray, List.getElem?_cons_succ, List.getElem?_cons_zero] at hn5
              have hPK4 : PK W0.heap.size (Prot n kd (.slice (some ⟨Lg, 0, none⟩) n Lc)) w1 wr := HPK2.out.trans (hPK3.dropP fun g h => .inl h)
              by_cases hlt2 : j < (ks i).length
              · have hkW0 : Kept W0 wr := hPK4.kept HK1.out (Nat.le_refl _)
                have hke := List.getElem?_eq_getElem (l := ks i) (i := j) hlt2
                obtain ⟨kb, ko, eKA, hcd⟩ := (HSK.out.below hkW0).at_ (fun e => by
                  have := congrArg List.length e
                  rw [i64s, List.length_map, List.length_nil] at this
                  omega)
                subst eKA
                have hcdk := hcd j _ (i64s_get (ks i) j hlt2)
                generalize (ks i)[j] = d at hke hcdk
                have hdn : d < n := HOK.out.kid i HLT.out d (List.mem_of_getElem? hke)
                obtain ⟨T, u, eT⟩ := HB.out.iface hdn
                have hcv := (World.cell?_of_block (a := ⟨Lg, d, none⟩) (hPK4.block Lg (block_lt_of_cell (HLV.out d hdn)) (.inl HPG.out))).trans (HLV.out d hdn)
                rw [eT] at hcv
                have k1 : (j : Int) < ((ks i).length : Int) := by omega
                have k0 : (0 : Int) ≤ (j : Int) := by omega
                have q1 : (d : Int) < (n : Int) := by omega
                have q0 : (0 : Int) ≤ (d : Int) := by omega
                have hxi : (if i = i then (kvals kd ks i).take j else if i < i then kvals kd ks i else []) = (kvals kd ks i).take j := if_pos rfl
                have hown := hLS3.own i HLT.out b HBL.out
                have hblk := hLS3.blk i HLT.out b HBL.out
                have hAP := Append_any wr b (S' i) _ _ T u W0.heap.size hkW0.size (by
                  show (if i = i then (kvals kd ks i).take j else if i < i then kvals kd ks i else []).length ≤ 1000000
                  rw [hxi, List.length_take]
                  have := HOK.out.len i HLT.out
                  omega) hblk hown (fun e => (hLS3.row i HLT.out b HBL.out b e).2.2.1 i HLT.out HBL.out)
                have HAP := Lib.hid hAP
                have NEXT : Hid (∀ e w', AppP wr b (S' i) _ _ (.iface T u) W0.heap.size e w' → e = .returned .nilIface ∧ (∃ S'', LS w' W0.heap.size n (lbl kd) (fun g => Prot n kd (.slice (some ⟨Lg, 0, none⟩) n Lc) g ∨ g = nb) (fun _ => false) S'' (fun q => if q = i then (kvals kd ks i).take (j + 1) else if q < i then kvals kd ks q else [])) ∧ PK W0.heap.size (fun g => Prot n kd (.slice (some ⟨Lg, 0, none⟩) n Lc) g ∨ g = nb) W2 w') := Lib.hid fun e w' ha => by
                  obtain ⟨g1, ⟨S'', g2⟩, g3⟩ := hLS3.append HLT.out HBL.out rfl ha
                  refine ⟨g1, ⟨S'', g2.congr fun q _ _ _ => ?_⟩, hPK3.trans g3⟩
                  by_cases e : q = i
                  · subst e
                    show (if q = q then (if q = q then (kvals kd ks q).take j else if q < q then kvals kd ks q else []) ++ [.iface T u] else _) = (if q = q then _ else _)
                    rw [if_pos rfl, if_pos rfl, if_pos rfl, List.take_add_one]
                    congr 1
                    unfold kvals
                    rw [List.getElem?_map, hke]
                    show _ = [(kd d).val (ks d).length]
                    rw [eT]
                  · show (if q = i then _ else if q = i then _ else _) = (if q = i then _ else _)
                    rw [if_neg e, if_neg e, if_neg e]
                have HJ := Lib.hid hlt2
                clear hLS3 hPK3 hPK4 hkW0 hke hcd hdn eT hxi hown hblk hAP hlt2 hj
                go_wp2_with fail
                (with_reducible refine Calls.mono HAP.out ?_)
                rintro e w' ha
                obtain ⟨rfl, ⟨S'', g2⟩, g3⟩ := NEXT.out e w' ha
                have G2 := Lib.hid g2
                have G3 := Lib.hid g3
                clear ha g2 g3
                go_wp2_with fail
                exact ⟨⟨j + 1, S'', by go_num, by have := HJ.out; omega, G2.out, G3.out⟩, by have := HJ.out; simp [intOf]; omega⟩
              · have hjm : j = (ks i).length := by omega
                have hfull : (kvals kd ks i).take j = kvals kd ks i := by rw [hjm, List.take_of_length_le]; simp [kvals]
                have G2 := Lib.hid ((hLS3.dropP (P := Prot n kd (.slice (some ⟨Lg, 0, none⟩) n Lc)) fun g h => .inl h).congr (ys := fun q => if q < i + 1 then kvals kd ks q else []) fun q _ _ _ => by
                  by_cases e : q = i
                  · subst e
                    rw [if_pos rfl, if_pos (show q < q + 1 by omega), hfull]
                  · rw [if_neg e]
                    by_cases e2 : q < i
                    · rw [if_pos e2, if_pos (show q < i + 1 by omega)]
                    · rw [if_neg e2, if_neg (show ¬ q < i + 1 by omega)])
                have G3 := Lib.hid hPK4
                have k1 : ¬ (j : Int) < ((ks i).length : Int) := by omega
                clear hLS3 hPK3 hPK4 hjm hfull hlt2 hj
                go_wp2_with fail
                exact ⟨⟨i + 1, S', by go_num, HLT.out, G2.out, G3.out⟩, by have := HLT.out; simp [intOf]; omega⟩
          · have HLSN : Hid (lbl kd i = none → LS (wr.alloc (.cells #[.int .i64 (kk i), .bool (ng i), .slice MA (mg i).length mc, .int .u64 (bt i : Int), .string (tx i), .slice KA (ks i).length kc] 45)) W0.heap.size n (lbl kd) (Prot n kd (.slice (some ⟨Lg, 0, none⟩) n Lc)) (fun _ => false) S (fun q => if q < i + 1 then kvals kd ks q else [])) := Lib.hid fun hno => (HLS.out.below K2).congr fun q _ b hb => by
              have e : q ≠ i := fun e => by rw [e, hno] at hb; cases hb
              by_cases e2 : q < i
              · rw [if_pos e2, if_pos (show q < i + 1 by omega)]
              · rw [if_neg e2, if_neg (show ¬ q < i + 1 by omega)]
            have HPKN : Hid (PK W0.heap.size (Prot n kd (.slice (some ⟨Lg, 0, none⟩) n Lc)) w1 (wr.alloc (.cells #[.int .i64 (kk i), .bool (ng i), .slice MA (mg i).length mc, .int .u64 (bt i : Int), .string (tx i), .slice KA (ks i).length kc] 45))) := Lib.hid (HPK.out.trans (PK.of_kept K2))
            clear HLE2
            by_cases h7 : kk i = 7
            · obtain ⟨A, c, ek, _⟩ := HB.out.tup i HLT.out h7
              have HLSN := Lib.hid (HLSN.out (by unfold lbl; rw [ek]))
              rw [ek] at hle
              simp only [NK.val] at hle
              clear h6 h7 ek K2
              go_wp2_with fail
              generalize wr.alloc (.cells #[.int .i64 (kk i), .bool (ng i), .slice MA (mg i).length mc, .int .u64 (bt i : Int), .string (tx i), .slice KA (ks i).length kc] 45) = W2 at *
              obtain ⟨wi, hwi⟩ : ∃ wi, wi = wr := ⟨_, rfl⟩
              subst hwi
              go_loopw [16] (fun jv wx => jv = .int .i64 0 ∧ wx = W2) (fun _ _ => 0)
              case atStart => exact ⟨rfl, rfl⟩
              case round =>
                obtain ⟨rfl, rfl⟩ := hrel
                go_wp2_with fail
                exact ⟨⟨i + 1, S, by go_num, HLT.out, HLSN.out, HPKN.out⟩, by have := HLT.out; simp [intOf]; omega⟩
            · obtain ⟨v, ek, hv⟩ := HB.out.sc i HLT.out h6 h7
              have HLSN := Lib.hid (HLSN.out (by unfold lbl; rw [ek]))
              rw [ek] at hle
              simp only [NK.val] at hle
              clear h6 h7 ek K2
              rcases hv with rfl | ⟨bb, rfl⟩ | ⟨xx, pp, rfl⟩ | ⟨bb, rfl⟩ | ⟨ss, rfl⟩ | ⟨ss, rfl⟩
              · go_wp2_with fail
                generalize wr.alloc (.cells #[.int .i64 (kk i), .bool (ng i), .slice MA (mg i).length mc, .int .u64 (bt i : Int), .string (tx i), .slice KA (ks i).length kc] 45) = W2 at *
                obtain ⟨wi, hwi⟩ : ∃ wi, wi = wr := ⟨_, rfl⟩
                subst hwi
                go_loopw [16] (fun jv wx => jv = .int .i64 0 ∧ wx = W2) (fun _ _ => 0)
                case atStart => exact ⟨rfl, rfl⟩
                case round =>
                  obtain ⟨rfl, rfl⟩ := hrel
                  go_wp2_with fail
                  exact ⟨⟨i + 1, S, by go_num, HLT.out, HLSN.out, HPKN.out⟩, by have := HLT.out; simp [intOf]; omega⟩
              · go_wp2_with fail
                generalize wr.alloc (.cells #[.int .i64 (kk i), .bool (ng i), .slice MA (mg i).length mc, .int .u64 (bt i : Int), .string (tx i), .slice KA (ks i).length kc] 45) = W2 at *
                obtain ⟨wi, hwi⟩ : ∃ wi, wi = wr := ⟨_, rfl⟩
                subst hwi
                go_loopw [16] (fun jv wx => jv = .int .i64 0 ∧ wx = W2) (fun _ _ => 0)
                case atStart => exact ⟨rfl, rfl⟩
                case round =>
                  obtain ⟨rfl, rfl⟩ := hrel
                  go_wp2_with fail
                  exact ⟨⟨i + 1, S, by go_num, HLT.out, HLSN.out, HPKN.out⟩, by have := HLT.out; simp [intOf]; omega⟩
              · go_wp2_with fail
                generalize wr.alloc (.cells #[.int .i64 (kk i), .bool (ng i), .slice MA (mg i).length mc, .int .u64 (bt i : Int), .string (tx i), .slice KA (ks i).length kc] 45) = W2 at *
                obtain ⟨wi, hwi⟩ : ∃ wi, wi = wr := ⟨_, rfl⟩
                subst hwi
                go_loopw [16] (fun jv wx => jv = .int .i64 0 ∧ wx = W2) (fun _ _ => 0)
                case atStart => exact ⟨rfl, rfl⟩
                case round =>
                  obtain ⟨rfl, rfl⟩ := hrel
                  go_wp2_with fail
                  exact ⟨⟨i + 1, S, by go_num, HLT.out, HLSN.out, HPKN.out⟩, by have := HLT.out; simp [intOf]; omega⟩
              · go_wp2_with fail
                generalize wr.alloc (.cells #[.int .i64 (kk i), .bool (ng i), .slice MA (mg i).length mc, .int .u64 (bt i : Int), .string (tx i), .slice KA (ks i).length kc] 45) = W2 at *
                obtain ⟨wi, hwi⟩ : ∃ wi, wi = wr := ⟨_, rfl⟩
                subst hwi
                go_loopw [16] (fun jv wx => jv = .int .i64 0 ∧ wx = W2) (fun _ _ => 0)
                case atStart => exact ⟨rfl, rfl⟩
                case round =>
                  obtain ⟨rfl, rfl⟩ := hrel
                  go_wp2_with fail
                  exact ⟨⟨i + 1, S, by go_num, HLT.out, HLSN.out, HPKN.out⟩, by have := HLT.out; simp [intOf]; omega⟩
              · go_wp2_with fail
                generalize wr.alloc (.cells #[.int .i64 (kk i), .bool (ng i), .slice MA (mg i).length mc, .int .u64 (bt i : Int), .string (tx i), .slice KA (ks i).length kc] 45) = W2 at *
                obtain ⟨wi, hwi⟩ : ∃ wi, wi = wr := ⟨_, rfl⟩
                subst hwi
                go_loopw [16] (fun jv wx => jv = .int .i64 0 ∧ wx = W2) (fun _ _ => 0)
                case atStart => exact ⟨rfl, rfl⟩
                case round =>
                  obtain ⟨rfl, rfl⟩ := hrel
                  go_wp2_with fail
                  exact ⟨⟨i + 1, S, by go_num, HLT.out, HLSN.out, HPKN.out⟩, by have := HLT.out; simp [intOf]; omega⟩
              · go_wp2_with fail
                generalize wr.alloc (.cells #[.int .i64 (kk i), .bool (ng i), .slice MA (mg i).length mc, .int .u64 (bt i : Int), .string (tx i), .slice KA (ks i).length kc] 45) = W2 at *
                obtain ⟨wi, hwi⟩ : ∃ wi, wi = wr := ⟨_, rfl⟩
                subst hwi
                go_loopw [16] (fun jv wx => jv = .int .i64 0 ∧ wx = W2) (fun _ _ => 0)
                case atStart => exact ⟨rfl, rfl⟩
                case round =>
                  obtain ⟨rfl, rfl⟩ := hrel
                  go_wp2_with fail
                  exact ⟨⟨i + 1, S, by go_num, HLT.out, HLSN.out, HPKN.out⟩, by have := HLT.out; simp [intOf]; omega⟩
        · have hin : i = n := by omega
          have HF : Hid (NestP n kk ks w (.returned (.tuple #[.slice (some ⟨Lg, 0, none⟩) n Lc, .bool true])) wr) := Lib.hid ⟨_, kd, w1, S, rfl, HK0.out.trans hkW, W0.heap.size, HK0.out.size, ⟨W0, rfl, HB.out⟩, hPK, hLS.congr fun j hj _ _ => by rw [if_pos (show j < i by omega)]⟩
          have i1 : ¬ (i : Int) < (n : Int) := by omega
          clear hin hLS hPK hlt hi hkW
          go_wp2_with fail
          go_ret2
          exact HF.out
end Go.Proofs.YtoociokhldakbaaGreat
