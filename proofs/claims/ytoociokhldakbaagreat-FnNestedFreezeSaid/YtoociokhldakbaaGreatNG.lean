/- impl.NestedFreeze: refused just what is reached. -/
import Derived.Test.YtoociokhldakbaaGreatNF
import Derived.OwnWalk
import Derived.Deep.DeepMust
import Derived.Deep.AppendLies
namespace Go.Proofs.YtoociokhldakbaaGreat
open Go.ChangeShapes Go.WideShapes Go.ChangeAt Go.RowKit
set_option linter.unusedVariables false
theorem own_base {w : World} {B B' e z n : Nat} {v : Value} {xs : List Value} (h : w.ownsRow B e z v n xs) (hB : B' ≤ B) : w.ownsRow B' e z v n xs := by
  refine ⟨h.1, ?_⟩
  rcases h.2 with h2 | ⟨g, cap, cur, e1, e2, e3, e4⟩
  · exact .inl h2
  · exact .inr ⟨g, cap, cur, e1, Nat.le_trans hB e2, e3, e4⟩
/-- freezing the value that node r is -/
theorem FP.sc {n : Nat} {kd : Nat → NK} {ks : Nat → List Nat} {w w' : World} {F : Nat → Bool} {r : Nat} {v : Value} (hs : Shp n kd ks w F) (hv : kd r = .sc v) {e : Ending} (he : e = .returned (.tuple #[])) (hk : Kept w w') : FP n kd ks w F r e w' :=
  ⟨he, F, hs.below hk, OnlyL.of_kept hk, Frz.same (.sc hv)⟩
/-- which function Freeze of a value is, and what it brings about -/
theorem frz_meth {n : Nat} {kd : Nat → NK} {ks : Nat → List Nat} {w : World} {r : Nat} (hs : Shp n kd ks w (fun _ => false)) (hr : r < n) {T : TypeId} {u : Value} (he : (kd r).val (ks r).length = .iface T u) :
    ∃ f x, (∀ W : World, Sem.run Tryz.prog (method 257 T u "Freeze") W = .ok (f, x) W) ∧ (∀ W : World, Sem.run Tryz.prog (callFunc f #[x]) W = .ok (.enter f #[x]) W) ∧ Calls Tryz.prog f #[x] w (FP n kd ks w (fun _ => false) r) := by
  have hF := freeze_any _ r hr (fun _ => false) w hs (Nat.le_refl _)
  unfold FrzC at hF
  cases hk : kd r with
  | list b A c =>
    rw [hk] at he hF
    injection he with e1 e2
    subst e1 e2
    exact ⟨94, .pointer (some ⟨b, 0, none⟩), fun W => by kernel_rfl, fun W => by kernel_rfl, hF⟩
  | tup A c =>
    rw [hk] at he hF
    injection he with e1 e2
    subst e1 e2
    exact ⟨100, .slice A (ks r).length c, fun W => by kernel_rfl, fun W => by kernel_rfl, hF⟩
  | sc v =>
    rw [hk] at he
    have he : v = .iface T u := he
    have fin : ∀ e w', (e = Ending.returned (.tuple #[]) ∧ Kept w w') → FP n kd ks w (fun _ => false) r e w' := fun e w' h => FP.sc hs hk h.1 h.2
    rcases (hs.sc r hr v hk).1 with h | ⟨a, h⟩ | ⟨a, p, h⟩ | ⟨a, h⟩ | ⟨a, h⟩ | ⟨a, h⟩ <;> rw [h] at he <;> injection he with e1 e2 <;> subst e1 e2
    · exact ⟨105, .int .u8 0, fun W => by kernel_rfl, fun W => by kernel_rfl, (NoneFreeze_any _ w).mono fin⟩
    · exact ⟨110, .bool a, fun W => by kernel_rfl, fun W => by kernel_rfl, (BoolFreeze_any _ w).mono fin⟩
    · exact ⟨116, .agg #[.int .i64 a, .pointer p], fun W => by kernel_rfl, fun W => by kernel_rfl, (IntFreeze_any _ _ w).mono fin⟩
    · exact ⟨121, .float .f64 a, fun W => by kernel_rfl, fun W => by kernel_rfl, (FloatFreeze_any _ w).mono fin⟩
    · exact ⟨126, .string a, fun W => by kernel_rfl, fun W => by kernel_rfl, (StringFreeze_any _ w).mono fin⟩
    · exact ⟨131, .string a, fun W => by kernel_rfl, fun W => by kernel_rfl, (BytesFreeze_any _ w).mono fin⟩
set_option maxRecDepth 100000 in
set_option maxHeartbeats 1000000 in
theorem NestedFreeze_any (gb n nc root m pc : Nat) (pa : Option Addr) (kk : Nat → Int) (ng : Nat → Bool) (mg : Nat → List Nat) (bt : Nat → Nat) (tx : Nat → ByteArray) (ks : Nat → List Nat) (N : Nat → Nat) (ak : Nat → Int) (ag : Nat → Bool) (am : Nat → List Nat) (ab : Nat → Nat) (atx : Nat → ByteArray) (hok : GOk n kk mg bt ks) (hroot : root < n) (hpk : POk n m kk N ak am ab) (w : World) (hg : GM w gb n kk ng mg bt tx ks) (hp : 0 < m → ∃ pb, pa = some ⟨pb, 0, none⟩ ∧ GPk w pb m (fun i => (N i : Int)) ak ag am ab atx) :
    Calls Tryz.prog 8 #[.agg #[.slice (some ⟨gb, 0, none⟩) n nc, .int .i64 (root : Int)], .slice pa m pc] w fun e w' => Kept w w' ∧ ∃ (R : Value) (F' : Nat → Bool), e = .returned (.tuple #[R, .bool true]) ∧ (∀ i, i < n → kk i = 6 → (F' i = true ↔ Rch ks root i)) ∧ w'.ownsRow w.heap.size 4 1 R m ((List.range m).map fun i => .bool (F' (N i))) := by
  obtain ⟨i0, hi0, hz0, hz1, hz2⟩ := info_parts info_bool
  have hk0 : Kept w (w.alloc (.cells #[.slice (some ⟨gb, 0, none⟩) n nc, .int .i64 (root : Int)] 24)) := by go_grown
  have HI : Hid (Tryz.prog.info? 4 = some i0 ∧ i0.zero = some (.bool false) ∧ i0.size = 1 ∧ i0.bytes = 1) := Lib.hid ⟨hi0, hz0, hz1, hz2⟩
  have BOX := Lib.hid (Blk.new w 24 #[.slice (some ⟨gb, 0, none⟩) n nc, .int .i64 (root : Int)])
  have CN := Lib.hid (nested_any gb n nc root kk ng mg bt tx ks hok hroot _ (hg.below hk0))
  have HGP := Lib.hid hp
  have HK0 := Lib.hid hk0
  have hmI : (m : Int) ≤ 1000 := by have := hpk.size; omega
  have HOK := Lib.hid hok
  have HPK := Lib.hid hpk
  have HRT := Lib.hid hroot
  clear hi0 hz0 hz1 hz2 hk0 hg hok hroot hp hpk
  go_enter Tryz.func8, Tryz.ntmps8
  go_wp2_with fail
  refine CN.out.mono ?_
  rintro e w1 ⟨Lv, kd, w2, S, rfl, hk1, B, hB, ⟨w0, hw0, hB1⟩, hPK, hLS⟩
  generalize w.alloc (.cells #[.slice (some ⟨gb, 0, none⟩) n nc, .int .i64 (root : Int)] 24) = W0 at *
  obtain ⟨Lg, Lc, rfl, hel⟩ := hB1.elemv (HRT.out)
  have hlv : ∀ j, j < n → w1.cell? ⟨Lg, j, none⟩ = some ((kd j).val (ks j).length) := fun j hj => (World.cell?_of_block (hPK.block Lg (block_lt_of_cell (hel j hj)) (.inl (.inl rfl)))).trans (hel j hj)
  have hbx := (BOX.out.below hk1).cell 1
  have hrc := hlv root HRT.out
  obtain ⟨T, u, eT⟩ := hB1.iface HRT.out
  rw [eT] at hrc
  have hS := hLS
  have hshp := NestP.shp (w0 := w0) HOK.out hB1 hPK hLS
  obtain ⟨f, x, hm, hen, hcf⟩ := frz_meth hshp HRT.out (by rw [kdS_val]; exact eT)
  have HCF := Lib.hid hcf
  clear hcf
  go_wp2_with fail
  try rw [hen]
  try rw [Oper.upon_enter]
  refine HCF.out.mono ?_
  rintro e w3 ⟨rfl, F', hs3, ho3, hf3⟩
  obtain ⟨hLS3, hPK3⟩ := hLS.frozen hs3 ho3 (fun i hi => by unfold kvals; rw [List.length_map])
  have hreach : ∀ i, i < n → kk i = 6 → (F' i = true ↔ Rch ks root i) := fun i hi h6 => by
    obtain ⟨b, eb, _⟩ := hB1.lst i hi h6
    exact Frz.reach hs3 HRT.out hf3 i hi (kdS_of (S := S) (by unfold lbl; rw [eb]))
  have hlv3 : ∀ j, j < n → w3.cell? ⟨Lg, j, none⟩ = some ((kd j).val (ks j).length) := fun j hj => (World.cell?_of_block (hPK3.block Lg (block_lt_of_cell (hlv j hj)) (.inl (.inl rfl)))).trans (hlv j hj)
  have hk3 : Kept W0 w3 := hPK3.kept hk1 hB
  have hlst : ∀ i, i < n → kk i = 6 → ∃ b, kd i = .list b none 0 := fun i hi h6 => by
    obtain ⟨b, eb, _⟩ := hB1.lst i hi h6
    exact ⟨b, eb⟩
  have HLST := Lib.hid hlst
  have HRC := Lib.hid hreach
  have HLV := Lib.hid hlv3
  have HK3 := Lib.hid hk3
  have HLS3 := Lib.hid hLS3
  have HBW := Lib.hid hB
  clear hS hshp hm hen HCF hlst hreach hlv3 hk3 hLS3 hs3 ho3 hf3 hPK3 hlv hrc eT hbx hel hB1 hPK hLS hB hw0
  go_wp2_with fail
  go_loopw [4, 29] (fun rv iv wr => ∃ (i : Nat) (S' : Nat → Value) (xs : Nat → List Value), iv = .int .i64 (i : Int) ∧ i ≤ m ∧ LS wr B n (lbl kd) (fun g => Prot n kd (.slice (some ⟨Lg, 0, none⟩) n Lc) g ∨ rv.ownBlock = some g) F' S' xs ∧ (∀ j, j < n → (xs j).length ≤ 1000 + i) ∧ PK B (Prot n kd (.slice (some ⟨Lg, 0, none⟩) n Lc)) w3 wr ∧ wr.ownsRow w3.heap.size 4 1 rv i ((List.range i).map fun j => .bool (F' (N j)))) (fun _ iv _ => m - (intOf iv).toNat)
  case atStart => exact ⟨0, S, kvals kd ks, rfl, Nat.zero_le _, HLS3.out.grown (Below.refl _ _ |> fun h => only_of_kept h none) (fun b h => by cases h) (fun g hp => by
    rcases hp with hp | hp
    · exact ⟨HLS3.out.psz g hp, .inl hp⟩
    · cases hp), fun j hj => by unfold kvals; rw [List.length_map]; have := HOK.out.len j hj; omega, PK.refl _ _ _, ⟨by simp, .inl ⟨rfl, rfl⟩⟩⟩
  case round =>
    obtain ⟨i, S', xs, rfl, hi, hLr, hxl, hPr, hown⟩ := hrel
    have hkr : Kept W0 wr := hPr.kept HK3.out HBW.out
    by_cases hlt : i < m
    · obtain ⟨pb, rfl, hgp⟩ := HGP.out (by omega)
      obtain ⟨MA, mc, KA, kn, kc, k2, n2, M2, m2, c2, b2, t2, K2, l2, d2, p0, p1, p2, p3, p4, p5, p6, p7, p8, p9, p10, p11, p12, hsA⟩ := (hgp.below (HK0.out.trans hkr)) i hlt
      obtain ⟨hNn, h6⟩ := HPK.out.node i hlt
      obtain ⟨b, eb⟩ := HLST.out (N i) hNn h6
      have hle : wr.cell? ⟨Lg, N i, none⟩ = some (.iface 55 (.pointer (some ⟨b, 0, none⟩))) := by
        have h1 := HLV.out (N i) hNn
        rw [eb] at h1
        exact (World.cell?_of_block (hPr.block Lg (block_lt_of_cell h1) (.inl (.inl rfl)))).trans h1
      have hlb : lbl kd (N i) = some b := by unfold lbl; rw [eb]
      have i1 : (i : Int) < (m : Int) := by omega
      have j0 : (0 : Int) ≤ (i : Int) := by omega
      have n1 : (N i : Int) < (n : Int) := by omega
      have n2' : ¬ (n : Int) ≤ (N i : Int) := by omega
      have n0 : ¬ (N i : Int) < 0 := by omega
      have HLR := Lib.hid hLr
      have HXL := Lib.hid hxl
      have HPR := Lib.hid hPr
      have HOWN := Lib.hid hown
      have HLT := Lib.hid hlt
      have HKR := Lib.hid hkr
      have HLB := Lib.hid hlb
      have HNN := Lib.hid hNn
      clear hLr hxl hPr hown hlt hkr hlb hgp hi h6 eb
      dsimp only at p0
      generalize hNi : N i = q at *
      have HNI := Lib.hid hNi
      clear hNi
      go_wp2_with fail
      have G2 : Kept wr (wr.alloc (.cells #[.int .i64 (q : Int), .int .i64 (ak i), .bool (ag i), .slice MA (am i).length mc, .int .u64 (ab i : Int), .string (atx i), .slice KA kn kc, .int .i64 k2, .bool n2, .slice M2 m2 c2, .int .u64 b2, .string t2, .slice K2 l2 d2] 35)) := by go_grown
      have NB := Blk.new wr 35 #[.int .i64 (q : Int), .int .i64 (ak i), .bool (ag i), .slice MA (am i).length mc, .int .u64 (ab i : Int), .string (atx i), .slice KA kn kc, .int .i64 k2, .bool n2, .slice M2 m2 c2, .int .u64 b2, .string t2, .slice K2 l2 d2]
      have hsA2 := hsA.below G2
      generalize wr.alloc (.cells #[.int .i64 (q : Int), .int .i64 (ak i), .bool (ag i), .slice MA (am i).length mc, .int .u64 (ab i : Int), .string (atx i), .slice KA kn kc, .int .i64 k2, .bool n2, .slice M2 m2 c2, .int .u64 b2, .string t2, .slice K2 l2 d2] 35) = W2 at *
      have CS := scalar_any (ak i) (HPK.out.kind i HLT.out).1 (HPK.out.kind i HLT.out).2 (ak i) (ag i) MA mc (am i) (ab i) (atx i) KA kn kc (HPK.out.bits i HLT.out) (by have := (HPK.out.mag i HLT.out).1; omega) (HPK.out.mag i HLT.out).2 W2 hsA2
      refine CS.mono ?_
      rintro e w5 ⟨⟨v, rfl, hv⟩, hk5⟩
      obtain ⟨T, u, rfl⟩ := hv.iface
      have hk25 : Kept wr w5 := G2.trans hk5
      have hle5 := (hk25.cell (block_lt_of_cell hle)).trans hle
      have hnb0 := (NB.below hk5).cell 0
      have hL5 := HLR.out.below hk25
      have hq : q < n := HNN.out
      have hblk := hL5.blk q hq b HLB.out
      have hown5 := hL5.own q hq b HLB.out
      have hP5 : PK B (Prot n kd (.slice (some ⟨Lg, 0, none⟩) n Lc)) w3 w5 := HPR.out.trans (PK.of_kept hk25)
      have ho5 : w5.ownsRow w3.heap.size 4 1 u4 i ((List.range i).map fun j => .bool (F' (N j))) := HOWN.out.kept (only_of_kept hk25 none) (by cases u4.ownBlock with | none => exact .inl rfl | some g => exact .inr (by simp))
      have CA : Calls Tryz.prog 17 #[.pointer (some ⟨b, 0, none⟩), .iface T u] w5 fun e w' => ((F' q = true ∧ ∃ p, e = .returned (.iface 104 (.pointer (some p)))) ∨ (F' q = false ∧ e = .returned .nilIface)) ∧ ∃ S'' xs', LS w' B n (lbl kd) (fun g => Prot n kd (.slice (some ⟨Lg, 0, none⟩) n Lc) g ∨ u4.ownBlock = some g) F' S'' xs' ∧ (∀ j, j < n → (xs' j).length ≤ 1000 + (i + 1)) ∧ PK B (Prot n kd (.slice (some ⟨Lg, 0, none⟩) n Lc)) w3 w' ∧ w'.ownsRow w3.heap.size 4 1 u4 i ((List.range i).map fun j => .bool (F' (N j))) := by
        cases hF : F' q
        · rw [hF] at hblk
          refine (Append_any w5 b (S' q) _ _ T u B (Nat.le_trans (HLS3.out.low q hq b HLB.out |>.1 |> fun h => by have := (HLS3.out.blk q hq b HLB.out).lt; omega) hP5.size) (by have := HXL.out q hq; have := HPK.out.size; have := HLT.out; omega) hblk hown5 (fun e => (hL5.row q hq b HLB.out b e).2.2.1 q hq HLB.out)).mono ?_
          intro e w7 ha
          obtain ⟨g1, ⟨S'', g2⟩, g3⟩ := hL5.append hq HLB.out hF ha
          refine ⟨.inr ⟨rfl, g1⟩, S'', _, g2, fun j hj => ?_, hP5.trans (g3.dropP fun g h => .inl h), own_pk ho5 fun g hg hlt => g3.block g hlt (.inl (.inr hg))⟩
          show (if j = q then _ else _ : List Value).length ≤ _
          have h1 := HXL.out j hj
          by_cases e : j = q
          · rw [if_pos e, List.length_append, List.length_singleton]
            have := HXL.out q hq
            omega
          · rw [if_neg e]
            omega
        · rw [hF] at hblk
          refine (Append_frozen w5 b (S' q) T u hblk).mono ?_
          rintro e w7 ⟨⟨p, rfl⟩, hk7⟩
          exact ⟨.inl ⟨rfl, p, rfl⟩, S', xs, hL5.below hk7, fun j hj => by have := HXL.out j hj; omega, hP5.trans (PK.of_kept hk7), own_pk ho5 fun g hg hlt => hk7.block g hlt⟩
      have HCA := Lib.hid CA
      clear CA hL5 hblk hown5 hP5 ho5 CS hsA hsA2 p0 p1 p2 p3 p4 p5 p6 p7 p8 p9 p10 p11 p12 hle G2 NB hk5 hv
      go_wp2_with fail
      refine HCA.out.mono ?_
      rintro e w7 ⟨hee, S'', xs', hL7, hx7, hP7, ho7⟩
      have hBs : B ≤ w3.heap.size := by
        have h1 := (HLS3.out.low q hq b HLB.out).1
        have h2 := (HLS3.out.blk q hq b HLB.out).lt
        omega
      clear HCA
      rcases hee with ⟨hF, p, rfl⟩ | ⟨hF, rfl⟩
      · have hk78 : Kept w7 (w7.alloc (.cells #[.bool true] 4)) := by go_grown
        have ho8 : (w7.alloc (.cells #[.bool true] 4)).ownsRow w3.heap.size 4 1 u4 i ((List.range i).map fun j => .bool (F' (N j))) := ho7.kept (only_of_kept hk78 none) (by cases u4.ownBlock with | none => exact .inl rfl | some g => exact .inr (by simp))
        have HO8 := Lib.hid ho8
        have HL8 := Lib.hid (hL7.below hk78)
        have HP8 := Lib.hid (hP7.trans (PK.of_kept hk78))
        have HX8 := Lib.hid hx7
        have HF := Lib.hid hF
        have HBS := Lib.hid hBs
        clear ho8 hk78 hL7 hx7 hP7 ho7 hF hBs
        go_wp2_with (at_builtin; go_must (refine wpList_append_lies _ rfl (.tmp 65) (.tmp 74) 37 rfl w3.heap.size 4 i0 (.bool false) 1 1 Tryz.underlying37 HI.out.1 HI.out.2.1 HI.out.2.2.1 HI.out.2.2.2 rfl (by omega) _ _ _ rfl HO8.out ⟨w7.heap.size, 0, none⟩ 1 1 [.bool true] rfl rfl (cell_one_new _ _ _) (by intro x hx; simp at hx; subst hx; rfl) (by omega) (by have := HLT.out; have := HPK.out.size; simp only [maxLen]; omega) (by have := HLT.out; have := HPK.out.size; omega) HP8.out.size _ rfl ?_); intro g2 cap2 w9 ho2 hg2 hat hgl; have HO2 := Lib.hid ho2; have HAS := Lib.hid (ans_step HLS3.out.psz HBS.out HL8.out HP8.out HO8.out hg2 hat hgl cap2); clear ho2 hg2 hat hgl)
        exact ⟨⟨i + 1, S'', xs', by go_num, by have := HLT.out; omega, HAS.out.1, HX8.out, HAS.out.2, by rw [List.range_succ, List.map_append, List.map_singleton, HNI.out, HF.out]; exact HO2.out⟩, by have := HLT.out; simp [intOf]; omega⟩
      · have hk78 : Kept w7 (w7.alloc (.cells #[.bool false] 4)) := by go_grown
        have ho8 : (w7.alloc (.cells #[.bool false] 4)).ownsRow w3.heap.size 4 1 u4 i ((List.range i).map fun j => .bool (F' (N j))) := ho7.kept (only_of_kept hk78 none) (by cases u4.ownBlock with | none => exact .inl rfl | some g => exact .inr (by simp))
        have HO8 := Lib.hid ho8
        have HL8 := Lib.hid (hL7.below hk78)
        have HP8 := Lib.hid (hP7.trans (PK.of_kept hk78))
        have HX8 := Lib.hid hx7
        have HF := Lib.hid hF
        have HBS := Lib.hid hBs
        clear ho8 hk78 hL7 hx7 hP7 ho7 hF hBs
        go_wp2_with (at_builtin; go_must (refine wpList_append_lies _ rfl (.tmp 65) (.tmp 74) 37 rfl w3.heap.size 4 i0 (.bool false) 1 1 Tryz.underlying37 HI.out.1 HI.out.2.1 HI.out.2.2.1 HI.out.2.2.2 rfl (by omega) _ _ _ rfl HO8.out ⟨w7.heap.size, 0, none⟩ 1 1 [.bool false] rfl rfl (cell_one_new _ _ _) (by intro x hx; simp at hx; subst hx; rfl) (by omega) (by have := HLT.out; have := HPK.out.size; simp only [maxLen]; omega) (by have := HLT.out; have := HPK.out.size; omega) HP8.out.size _ rfl ?_); intro g2 cap2 w9 ho2 hg2 hat hgl; have HO2 := Lib.hid ho2; have HAS := Lib.hid (ans_step HLS3.out.psz HBS.out HL8.out HP8.out HO8.out hg2 hat hgl cap2); clear ho2 hg2 hat hgl)
        exact ⟨⟨i + 1, S'', xs', by go_num, by have := HLT.out; omega, HAS.out.1, HX8.out, HAS.out.2, by rw [List.range_succ, List.map_append, List.map_singleton, HNI.out, HF.out]; exact HO2.out⟩, by have := HLT.out; simp [intOf]; omega⟩
    · have him : i = m := by omega
      subst him
      have hge : ¬ (i : Int) < (i : Int) := by omega
      have HFIN := Lib.hid (own_base hown (Nat.le_trans HK0.out.size HK3.out.size))
      have HKR := Lib.hid (HK0.out.trans hkr)
      clear hown hkr hPr hLr hxl hi hlt
      go_wp2_with fail
      go_ret2
      exact ⟨HKR.out, u4, rfl, F', HRC.out, HFIN.out⟩
end Go.Proofs.YtoociokhldakbaaGreat
