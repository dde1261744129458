/- CleanGraph of some nodes. -/
import Derived.Test.YtoociokhldakbaaGreatOM
import Derived.Test.YtoociokhldakbaaGreatOP
import Derived.OwnWalk
import Derived.Deep.DeepMust
import Derived.Deep.AppendLies
import Derived.Deep.RegionHeld3
import Derived.Orders
namespace Go.Proofs.YtoociokhldakbaaGreat
open Go.ChangeShapes Go.WideShapes Go.ChangeAt Go.RowKit
set_option linter.unusedVariables false
theorem cleanNode_any (F : Nat → Prop) (i n : Nat) (hn : n ≤ 12) (hi : i < n) (v : Value) (GA : Option Addr) (gn gc : Nat) (root : Int) (w : World) (hv : RN (fun x => knd x 1 ≤ 7) i F w v) :
    Calls Tryz.prog 19 #[v, .agg #[.slice GA gn gc, .int .i64 root], .int .i64 (i : Int), .int .i64 (n : Int)] w fun e w' => (∃ v, e = .returned v ∧ ND n i (fun b => w.heap.size ≤ b) w' v) ∧ Kept w w' := by
  obtain ⟨x, ng, A, c, l, bits, t, KA, kc, zs, rfl, h1, _, h3, _, h5, h6, h7⟩ := hv
  by_cases k6 : knd x 1 = 6
  · exact cleanNode_list x root ng A KA GA l zs c bits kc gn gc i n t w h1 h5 h6 h3 (by omega) hn hi k6
  · by_cases k7 : knd x 1 = 7
    · by_cases h0 : 0 < i
      · exact cleanNode_tuple x root ng A KA GA l zs c bits kc gn gc i n t w h1 h5 h6 h3 (by omega) hn hi k7 h0
      · exact cleanNode_none x root ng A KA GA l zs c bits kc gn gc i n t w h1 h5 h6 h3 (by omega) hn hi k6 (fun _ => by omega) h7
    · exact cleanNode_none x root ng A KA GA l zs c bits kc gn gc i n t w h1 h5 h6 h3 (by omega) hn hi k6 (fun h => absurd h k7) h7
set_option maxRecDepth 100000 in
theorem turn10_any (x : Int) (w : World) : Calls Tryz.prog 11 #[.int .i64 x, .int .i64 10] w fun e w' => e = .returned (.int .i64 ((x.tmod 10 + 10).tmod 10)) ∧ w = w' := by
  have HE := Lib.hid (knd_mod x).1
  go_enter Tryz.func11, Tryz.ntmps11
  go_wp2_with fail
  go_ret
  exact ⟨by show Ending.returned (.int .i64 ((wrap64 (x.tmod 10 + 10)).tmod 10)) = _; rw [HE.out], rfl⟩
/-- a graph that is made: its cells in block b, and n nodes so far -/
def CI (W : World) (b : Nat) (r : Int) (E : Nat → (Nat → Prop) → World → Value → Prop) (F : Nat → Prop) (wr : World) (n : Nat) (sv : Value) : Prop :=
  Kept W wr ∧ Blk wr b 24 #[sv, .int .i64 r] ∧ GrE E 45 F (b + 1) wr n sv ∧ W.heap.size ≤ b ∧ ∀ c, F c → c ≠ b
theorem CI.below {W w w' : World} {b : Nat} {r : Int} {E : Nat → (Nat → Prop) → World → Value → Prop} {F : Nat → Prop} {n : Nat} {sv : Value} (hE : Moves E) (h : CI W b r E F w n sv) (hk : Kept w w') : CI W b r E F w' n sv :=
  ⟨h.1.trans hk, Blk.below h.2.1 hk, h.2.2.1.move hE fun c _ hl => hk.block c hl, h.2.2.2⟩
theorem CI.step {W w4 w5 : World} {b : Nat} {r : Int} {E : Nat → (Nat → Prop) → World → Value → Prop} {F : Nat → Prop} {n g cap : Nat} {sv : Value} {xs news : List Value} (hE : Moves E) (h : CI W b r E F w4 n sv) (hx : w4.ownsRow (b + 1) 45 6 sv n xs) (hv : ∀ i, i < n → ∃ v, Six xs (i * 6) v ∧ E i (fun c => F c ∧ sv.ownBlock ≠ some c) w4 v)
    (ho : w5.ownsRow (b + 1) 45 6 (.slice (some ⟨g, 0, none⟩) (n + 1) cap) (n + 1) (xs ++ news)) (hg : w4.grownBy w5 sv.ownBlock) (hat : sv.ownBlock = some g ∨ g = w4.heap.size)
    (hn : ∃ v, Six news 0 v ∧ E n (fun c => F c ∧ sv.ownBlock ≠ some c) w4 v) :
    w5.cell? ⟨b, 0, none⟩ = some sv ∧ w5.frozen? ⟨b, 0, none⟩ = false ∧ Same (b + 1) w4 w5 ∧ CI W b r E F (w5.setCell ⟨b, 0, none⟩ (.slice (some ⟨g, 0, none⟩) (n + 1) cap)) (n + 1) (.slice (some ⟨g, 0, none⟩) (n + 1) cap) := by
  have hne : sv.ownBlock ≠ some b := fun e => by have := (hx.lt b e).1; omega
  have hb5 : Blk w5 b 24 #[sv, .int .i64 r] := (hg.block b h.2.1.lt fun e => hne e.symm).trans h.2.1
  have hgr := GrE.push hE hx hv ho hg hat hn
  refine ⟨hb5.cell 0, hb5.frozen 0, fun i hi => hg.block i ?_ fun e => ?_, ?_, Blk.set hb5 0 _, ?_, h.2.2.2⟩
  · have := h.2.1.lt; omega
  · have := (hx.lt i e.symm).1; omega
  · have h1 : Kept W w5 := Below.grown h.1 hg h.1.size fun c hc => by have := (hx.lt c hc).1; have := h.2.2.2.1; omega
    exact ⟨h1.os, h1.tape, h1.output, by simpa [World.setCell] using h1.size, fun i hi => (Below.heap_setCell w5 ⟨b, 0, none⟩ _ i (by have := h.2.2.2.1; simp only; omega)).trans (h1.block i hi)⟩
  · exact hgr.move hE fun c hc _ => Below.heap_setCell w5 ⟨b, 0, none⟩ _ c (by
      rcases hc with hc | hc
      · exact h.2.2.2.2 c hc
      · simp only; omega)
/-- a graph as NestedFreeze takes it -/
def GraphP (w : World) (v : Value) : Prop :=
  ∃ (gb n nc root : Nat) (kk : Nat → Int) (ng : Nat → Bool) (mg : Nat → List Nat) (bt : Nat → Nat) (tx : Nat → ByteArray) (ks : Nat → List Nat), v = .agg #[.slice (some ⟨gb, 0, none⟩) n nc, .int .i64 (root : Int)] ∧ root < n ∧ GOk n kk mg bt ks ∧ GM w gb n kk ng mg bt tx ks
theorem GraphP.below {w w' : World} {v : Value} (h : GraphP w v) (hk : Kept w w') : GraphP w' v := by
  obtain ⟨gb, n, nc, root, kk, ng, mg, bt, tx, ks, e, h1, h2, h3⟩ := h
  exact ⟨gb, n, nc, root, kk, ng, mg, bt, tx, ks, e, h1, h2, h3.below hk⟩
/-- out of a row of made nodes -/
theorem GraphP.of {F : Nat → Prop} {B : Nat} {w : World} {n root : Nat} {sv : Value} (hn : n ≤ 12) (hr : root < n) (h : GrE (ND n) 45 F B w n sv) : GraphP w (.agg #[sv, .int .i64 (root : Int)]) := by
  obtain ⟨g, c, rfl, _, _, _, _, hv⟩ := h.form (ND.moves n) (by omega)
  have hq : ∀ i : Nat, ∃ p : Int × Bool × List Nat × Nat × ByteArray × List Nat, i < n → (∃ MA mc KA kc, w.cell? ⟨g, i * 6, none⟩ = some (.int .i64 p.1) ∧ w.cell? ⟨g, i * 6 + 1, none⟩ = some (.bool p.2.1) ∧ w.cell? ⟨g, i * 6 + 2, none⟩ = some (.slice MA p.2.2.1.length mc) ∧ w.cell? ⟨g, i * 6 + 3, none⟩ = some (.int .u64 (p.2.2.2.1 : Int)) ∧ w.cell? ⟨g, i * 6 + 4, none⟩ = some (.string p.2.2.2.2.1) ∧ w.cell? ⟨g, i * 6 + 5, none⟩ = some (.slice KA p.2.2.2.2.2.length kc) ∧
      Sl w MA mc (by8 p.2.2.1) ∧ Sl w KA kc (i64s p.2.2.2.2.2)) ∧ p.2.2.1.length ≤ 40 ∧ (∀ d, d ∈ p.2.2.1 → d < 256) ∧ (p.1 = 1 → p.2.2.2.1 ≤ 1) ∧ 0 ≤ p.1 ∧ p.1 ≤ 7 ∧ p.2.2.2.2.2.length ≤ 8 ∧ (∀ d, d ∈ p.2.2.2.2.2 → d < n) ∧ (p.1 ≠ 6 → ∀ d, d ∈ p.2.2.2.2.2 → d < i) ∧ (p.1 ≠ 6 → p.1 ≠ 7 → p.2.2.2.2.2 = []) := fun i => by
    by_cases hi : i < n
    · obtain ⟨v, ha, k, ng, A, c, l, bits, t, KA, kc, ks, rfl, h1, _, h3, _, h5, h6, h7, h8, h9, h10, h11, h12, h13⟩ := hv i hi
      refine ⟨(k, ng, l, bits, t, ks), fun _ => ⟨⟨A, c, KA, kc, ?_⟩, h5, h6, h7, h8, h9, h10, h11, h12, h13⟩⟩
      obtain ⟨u0, u1, u2, u3, u4, u5, e, a0, a1, a2, a3, a4, a5⟩ := ha
      injection e with e; injection e with e
      injection e with e0 e; injection e with e1 e; injection e with e2 e; injection e with e3 e; injection e with e4 e; injection e with e5 _
      subst e0 e1 e2 e3 e4 e5
      rw [Nat.zero_add] at a0 a1 a2 a3 a4 a5
      exact ⟨a0, a1, a2, a3, a4, a5, h1, h3⟩
    · exact ⟨(0, false, [], 0, ⟨#[]⟩, []), fun h => absurd h hi⟩
  obtain ⟨f, hf⟩ := Classical.axiomOfChoice hq
  refine ⟨g, n, c, root, fun i => (f i).1, fun i => (f i).2.1, fun i => (f i).2.2.1, fun i => (f i).2.2.2.1, fun i => (f i).2.2.2.2.1, fun i => (f i).2.2.2.2.2, rfl, hr, ⟨hn, ?_, ?_, ?_, ?_, ?_, ?_, ?_⟩, fun i hi => (hf i hi).1⟩
  · exact fun i hi => ⟨(hf i hi).2.2.2.2.1, (hf i hi).2.2.2.2.2.1⟩
  · exact fun i hi => (hf i hi).2.2.2.2.2.2.2.1
  · exact fun i hi => (hf i hi).2.2.2.2.2.2.2.2.1
  · exact fun i hi => Nat.le_trans (hf i hi).2.2.2.2.2.2.1 (by decide)
  · exact fun i hi => (hf i hi).2.2.2.1
  · exact fun i hi => ⟨(hf i hi).2.1, (hf i hi).2.2.1⟩
  · exact fun i hi => (hf i hi).2.2.2.2.2.2.2.2.2
theorem info_growN : ∃ i0, Tryz.prog.info? 45 = some i0 ∧ i0.zero = some (.agg #[.int .i64 0, .bool false, .slice none 0 0, .int .u64 0, .string ⟨#[]⟩, .slice none 0 0]) ∧ i0.size = 6 ∧ i0.bytes = 88 := by
  have h : (Tryz.prog.info? 45).map (fun i => (i.zero, i.size, i.bytes)) = some (some (.agg #[.int .i64 0, .bool false, .slice none 0 0, .int .u64 0, .string ⟨#[]⟩, .slice none 0 0]), 6, 88) := by kernel_rfl
  obtain ⟨i0, h1, h2⟩ := Option.map_eq_some_iff.1 h
  simp only [Prod.mk.injEq] at h2
  exact ⟨i0, h1, h2.1, h2.2.1, h2.2.2⟩
theorem info_Gr : (Tryz.prog.info? 24).map (·.size) = some 2 := by kernel_rfl
set_option maxRecDepth 100000 in
theorem turn_eq (x : Int) (m : Nat) (hm : 0 < m) (hm2 : m ≤ 100) (w : World) : Calls Tryz.prog 11 #[.int .i64 x, .int .i64 (m : Int)] w fun e w' => (∃ y : Nat, y < m ∧ e = .returned (.int .i64 (y : Int))) ∧ w = w' := by
  have m0 : (m : Int) ≠ 0 := by omega
  have mI : (m : Int) ≤ 100 := by omega
  have a1 : x.tmod m < m := Int.tmod_lt_of_pos x (by omega)
  have a2 : -(m : Int) < x.tmod m := Int.lt_tmod_of_pos x (by omega)
  have e1 : wrap64 (x.tmod m + m) = x.tmod m + m := by
    unfold wrap64
    omega
  have e2 : (x.tmod m + m).tmod m = (x.tmod m + m) % m := Int.tmod_eq_emod_of_nonneg (by omega)
  have b1 := Int.emod_nonneg (x.tmod m + m) m0
  have b2 := Int.emod_lt_of_pos (x.tmod m + m) (show (0 : Int) < m by omega)
  have HE : Hid ((wrap64 (x.tmod m + m)).tmod m = (((x.tmod m + m) % m).toNat : Nat) ∧ ((x.tmod m + m) % m).toNat < m) := Lib.hid ⟨by rw [e1, e2]; omega, by omega⟩
  clear e1 e2 b1 b2 a1 a2
  go_enter Tryz.func11, Tryz.ntmps11
  go_wp2_with fail
  go_ret
  exact ⟨⟨_, HE.out.2, by show Ending.returned (.int .i64 ((wrap64 (x.tmod m + m)).tmod m)) = _; rw [HE.out.1]⟩, rfl⟩
theorem GrE.slice {E : Nat → (Nat → Prop) → World → Value → Prop} {ty : TypeId} {F : Nat → Prop} {B : Nat} {w : World} {n : Nat} {sv : Value} (h : GrE E ty F B w n sv) : ∃ A c, sv = .slice A n c := by
  obtain ⟨xs, ho, _⟩ := h
  rcases ho.2 with ⟨e1, e2⟩ | ⟨g, cap, cur, e1, _⟩
  · exact ⟨none, 0, by rw [e2]; exact e1⟩
  · exact ⟨_, cap, e1⟩
theorem GrE.weak {E : Nat → (Nat → Prop) → World → Value → Prop} {ty : TypeId} {F F' : Nat → Prop} {B B' : Nat} {w : World} {n : Nat} {sv : Value} (hE : Moves E) (h : GrE E ty F B w n sv) (hF : ∀ c, F c → F' c) (hB : B' ≤ B) : GrE E ty F' B' w n sv := by
  obtain ⟨xs, ho, hv⟩ := h
  refine ⟨xs, ⟨ho.1, ?_⟩, fun i hi => ?_⟩
  · rcases ho.2 with h2 | ⟨g, cap, cur, e1, e2, e3⟩
    · exact .inl h2
    · exact .inr ⟨g, cap, cur, e1, Nat.le_trans hB e2, e3⟩
  · obtain ⟨v, h6, hO⟩ := hv i hi
    exact ⟨v, h6, hE i _ _ w w v hO (fun c hc _ => ⟨hF c hc.1, hc.2⟩) fun _ _ _ => rfl⟩
/-- a graph that has been made, in blocks from B on -/
def GraphQ (B : Nat) (w : World) (v : Value) : Prop :=
  ∃ (sv : Value) (n root : Nat), v = .agg #[sv, .int .i64 (root : Int)] ∧ n ≤ 12 ∧ root < n ∧ GrE (ND n) 45 (fun c => B ≤ c) B w n sv
theorem GraphQ.graph {B : Nat} {w : World} {v : Value} (h : GraphQ B w v) : GraphP w v := by
  obtain ⟨sv, n, root, rfl, h1, h2, h3⟩ := h
  exact GraphP.of h1 h2 h3
theorem GraphQ.setRow {B B' : Nat} {w : World} {v : Value} (h : GraphQ B w v) {b : Nat} (hb : b < B) (hB : B' ≤ B) (cs : Array Value) : GraphQ B' (w.setRow b cs) v := by
  obtain ⟨sv, n, root, rfl, h1, h2, h3⟩ := h
  exact ⟨sv, n, root, rfl, h1, h2, (h3.move (ND.moves n) fun c hc _ => setRow_other w b c cs (by omega)).weak (ND.moves n) (fun c hc => Nat.le_trans hB hc) hB⟩
theorem GraphQ.two {B : Nat} {w : World} {v : Value} (h : GraphQ B w v) : ∃ A n c r, v = .agg #[.slice A n c, .int .i64 r] := by
  obtain ⟨sv, n, root, rfl, h1, h2, h3⟩ := h
  obtain ⟨A, c, rfl⟩ := h3.slice
  exact ⟨A, n, c, _, rfl⟩
set_option maxRecDepth 100000 in
set_option maxHeartbeats 2000000 in
theorem CleanGraph_some (F : Nat → Prop) (gb n gc : Nat) (root : Int) (hn : 0 < n) (hn2 : n ≤ 12) (w : World) (hg : ∀ i, i < n → ∃ v, At6 w gb 0 i v ∧ RN (fun x => knd x 1 ≤ 7) i F w v) :
    Calls Tryz.prog 12 #[.agg #[.slice (some ⟨gb, 0, none⟩) n gc, .int .i64 root]] w fun e w' => (∃ v, e = .returned v ∧ GraphQ w.heap.size w' v) ∧ Kept w w' := by
  obtain ⟨i0, hi0, hi1, hi2, hi3⟩ := info_growN
  have HI : Hid (Tryz.prog.info? 45 = some i0 ∧ i0.zero = some (.agg #[.int .i64 0, .bool false, .slice none 0 0, .int .u64 0, .string ⟨#[]⟩, .slice none 0 0]) ∧ i0.size = 6 ∧ i0.bytes = 88) := Lib.hid ⟨hi0, hi1, hi2, hi3⟩
  obtain ⟨W, hW⟩ : ∃ W, W = ((w.alloc (.cells #[.slice (some ⟨gb, 0, none⟩) n gc, .int .i64 root] 24)).alloc (.cells #[.slice none 0 0, .int .i64 0] 24)) := ⟨_, rfl⟩
  have hz : W.heap.size = w.heap.size + 1 + 1 := by rw [hW]; simp
  obtain ⟨hk0, hbx, hbz⟩ := two_boxes w #[.slice (some ⟨gb, 0, none⟩) n gc, .int .i64 root] #[.slice none 0 0, .int .i64 0] 24 24
  rw [← hW] at hk0 hbx hbz
  have HX : Hid (∀ i, i < n → ∃ v, At6 W gb 0 i v ∧ RN (fun x => knd x 1 ≤ 7) i F W v) := Lib.hid fun i hi => by
    obtain ⟨v, h1, h2⟩ := hg i hi
    exact ⟨v, h1.below hk0, h2.below hk0⟩
  have hgl : gb < w.heap.size + 1 + 1 := by
    obtain ⟨v, h1, _⟩ := hg 0 hn
    have := h1.lt
    omega
  have HBX := Lib.hid hbx
  have HBZ := Lib.hid hbz
  have HK0 := Lib.hid hk0
  have HZ := Lib.hid hz
  have HGL : Hid (gb < w.heap.size + 1 + 1 + 1) := Lib.hid (by omega)
  have HN : Hid (0 < n ∧ n ≤ 12) := Lib.hid ⟨hn, hn2⟩
  have HTU := Lib.hid (fun X => turn_eq root n hn (by omega) X)
  have hmin : min (n : Int) 12 = (n : Int) := by omega
  have hn0 : ((n : Int) == 0) = false := by simp; omega
  clear hi0 hi1 hi2 hi3 hk0 hbx hbz hz hn hn2 hg hgl
  subst hW
  go_enter Tryz.func12, Tryz.ntmps12
  go_wp2_with fail
  refine (HTU.out _).mono ?_
  rintro e w1 ⟨⟨y, hy, rfl⟩, rfl⟩
  have HY := Lib.hid hy
  clear hy
  go_wp2_with fail
  have ST : Hid (CI ((w.alloc (.cells #[.slice (some ⟨gb, 0, none⟩) n gc, .int .i64 root] 24)).alloc (.cells #[.slice none 0 0, .int .i64 0] 24)) (w.heap.size + 1 + 1) (y : Int) (ND n) (fun c => w.heap.size + 1 + 1 + 1 ≤ c) (((w.alloc (.cells #[.slice (some ⟨gb, 0, none⟩) n gc, .int .i64 root] 24)).alloc (.cells #[.slice none 0 0, .int .i64 0] 24)).alloc (.cells #[.slice none 0 0, .int .i64 (y : Int)] 24)) 0 (.slice none 0 0)) := Lib.hid ⟨(Below.refl _ _).alloc (Nat.le_refl _) _, by
      have := Blk.new ((w.alloc (.cells #[.slice (some ⟨gb, 0, none⟩) n gc, .int .i64 root] 24)).alloc (.cells #[.slice none 0 0, .int .i64 0] 24)) 24 #[.slice none 0 0, .int .i64 (y : Int)]
      rwa [HZ.out] at this, GrE.start _ _ _ _ _, Nat.le_of_eq HZ.out, fun c hc => by omega⟩
  generalize ((w.alloc (.cells #[.slice (some ⟨gb, 0, none⟩) n gc, .int .i64 root] 24)).alloc (.cells #[.slice none 0 0, .int .i64 0] 24)) = W at *
  go_loopw [5] (fun iv wr => ∃ (i : Nat) (sv : Value), iv = .int .i64 (i : Int) ∧ i ≤ n ∧ CI W (w.heap.size + 1 + 1) (y : Int) (ND n) (fun c => w.heap.size + 1 + 1 + 1 ≤ c) wr i sv) (fun iv _ => 20 - (intOf iv).toNat)
  case atStart => exact ⟨0, _, rfl, by omega, ST.out⟩
  case round =>
    obtain ⟨i, sv, rfl, hi, hG⟩ := hrel
    have HG := Lib.hid hG
    obtain ⟨SA, sc, rfl⟩ := hG.2.2.1.slice
    have i0' : (0 : Int) ≤ (i : Int) := by omega
    by_cases hlt : i < n
    · obtain ⟨v', ha, ho⟩ := HX.out i hlt
      obtain ⟨u0, u1, u2, u3, u4, u5, rfl, h0, h1, h2, h3, h4, h5⟩ := ha.below HG.out.1
      rw [Nat.zero_add] at h0 h1 h2 h3 h4 h5
      have A0 := Lib.hid h0
      have A1 := Lib.hid h1
      have A2 := Lib.hid h2
      have A3 := Lib.hid h3
      have A4 := Lib.hid h4
      have A5 := Lib.hid h5
      have HC5 : Hid (wr.cell? ⟨w.heap.size + 1 + 1, 0, none⟩ = some (.slice SA i sc) ∧ wr.cell? ⟨w.heap.size, 0, none⟩ = some (.slice (some ⟨gb, 0, none⟩) n gc)) := Lib.hid ⟨HG.out.2.1.cell 0, (HBX.out.below HG.out.1).cell 0⟩
      have HO := Lib.hid (ho.below HG.out.1)
      have i1 : (i : Int) < (n : Int) := by omega
      have HLT := Lib.hid hlt
      clear ha ho hG hlt h0 h1 h2 h3 h4 h5 hi
      go_wp2_with fail
      refine wp_region_lastL _ _ _ (by simp only [List.dropLast]; rfl) (by simp only [List.getLast?_cons_cons, List.getLast?_singleton]; rfl) (fun X : World => Same (w.heap.size + 1 + 1 + 1) wr X) (by kernel_rfl) (by kernel_rfl) (fun _ _ => rfl) (fun hHeld => ?_)
      refine wpAnyH_take (i := 0) (oi := ?o0x0) (v := ?v0x0) ?hi0x0 (by kernel_rfl) (by kernel_rfl) (by kernel_rfl) ?hQ0x0 ?hy0x0 hHeld ?rest0x0
      case hi0x0 => (simp only [List.getElem?_toArray, List.getElem?_cons_zero]; rfl)
      case hQ0x0 => exact fun _ _ _ h => h
      case hy0x0 => (refine Or.inl ⟨by rfl, ?_⟩; intro W hSw; (try dsimp only at hSw); go_simp; (try with_reducible rfl))
      try simp only [Act.put, List.setIfInBounds_toArray, List.set_cons_zero, List.set_cons_succ]
      refine wpAnyH_take (i := 1) (oi := ?o1x1) (v := ?v1x1) ?hi1x1 (by kernel_rfl) (by kernel_rfl) (by kernel_rfl) ?hQ1x1 ?hy1x1 hHeld ?rest1x1
      case hi1x1 => (simp only [List.getElem?_toArray, List.getElem?_cons_succ, List.getElem?_cons_zero]; rfl)
      case hQ1x1 => exact fun _ _ _ h => h
      case hy1x1 => (refine Or.inl ⟨by rfl, ?_⟩; intro W hSw; (try dsimp only at hSw); have s5 := hSw.cell (by dsimp only; omega) HC5.out.1; have t5 := hSw.cell (by dsimp only; omega) HC5.out.2; go_simp; (try with_reducible rfl))
      try simp only [Act.put, List.setIfInBounds_toArray, List.set_cons_zero, List.set_cons_succ]
      refine wpAnyH_take (i := 2) (oi := ?o2x2) (v := ?v2x2) ?hi2x2 (by kernel_rfl) (by kernel_rfl) (by kernel_rfl) ?hQ2x2 ?hy2x2 hHeld ?rest2x2
      case hi2x2 => (simp only [List.getElem?_toArray, List.getElem?_cons_succ, List.getElem?_cons_zero]; rfl)
      case hQ2x2 => exact fun _ _ _ h => h
      case hy2x2 => (refine Or.inl ⟨by rfl, ?_⟩; intro W hSw; (try dsimp only at hSw); go_simp; (try with_reducible rfl))
      try simp only [Act.put, List.setIfInBounds_toArray, List.set_cons_zero, List.set_cons_succ]
      refine wpAnyH_take (i := 3) (oi := ?o3x3) (v := ?v3x3) ?hi3x3 (by kernel_rfl) (by kernel_rfl) (by kernel_rfl) ?hQ3x3 ?hy3x3 hHeld ?rest3x3
      case hi3x3 => (simp only [List.getElem?_toArray, List.getElem?_cons_succ, List.getElem?_cons_zero]; rfl)
      case hQ3x3 => exact fun _ _ _ h => h
      case hy3x3 => (refine Or.inl ⟨by rfl, ?_⟩; intro W hSw; (try dsimp only at hSw); have s5 := hSw.cell (by dsimp only; omega) HC5.out.1; have t5 := hSw.cell (by dsimp only; omega) HC5.out.2; go_simp; (try with_reducible rfl))
      try simp only [Act.put, List.setIfInBounds_toArray, List.set_cons_zero, List.set_cons_succ]
      refine wpAnyH_take (i := 4) (oi := ?o4x4) (v := ?v4x4) ?hi4x4 (by kernel_rfl) (by kernel_rfl) (by kernel_rfl) ?hQ4x4 ?hy4x4 hHeld ?rest4x4
      case hi4x4 => (simp only [List.getElem?_toArray, List.getElem?_cons_succ, List.getElem?_cons_zero]; rfl)
      case hQ4x4 => exact fun _ _ _ h => h
      case hy4x4 => (refine Or.inl ⟨by rfl, ?_⟩; intro W hSw; (try dsimp only at hSw); go_simp; (try with_reducible rfl))
      try simp only [Act.put, List.setIfInBounds_toArray, List.set_cons_zero, List.set_cons_succ]
      refine wpAnyH_take (i := 5) (oi := ?o5x5) (v := ?v5x5) ?hi5x5 (by kernel_rfl) (by kernel_rfl) (by kernel_rfl) ?hQ5x5 ?hy5x5 hHeld ?rest5x5
      case hi5x5 => (simp only [List.getElem?_toArray, List.getElem?_cons_succ, List.getElem?_cons_zero]; rfl)
      case hQ5x5 => exact fun _ _ _ h => h
      case hy5x5 => (refine Or.inl ⟨by rfl, ?_⟩; intro W hSw; (try dsimp only at hSw); go_simp; (try with_reducible rfl))
      try simp only [Act.put, List.setIfInBounds_toArray, List.set_cons_zero, List.set_cons_succ]
      refine wpAnyH_take (i := 6) (oi := ?o6x6) (v := ?v6x6) ?hi6x6 (by kernel_rfl) (by kernel_rfl) (by kernel_rfl) ?hQ6x6 ?hy6x6 hHeld ?rest6x6
      case hi6x6 => (simp only [List.getElem?_toArray, List.getElem?_cons_succ, List.getElem?_cons_zero]; rfl)
      case hQ6x6 => exact fun _ _ _ h => h
      case hy6x6 => (refine Or.inl ⟨by rfl, ?_⟩; intro W hSw; (try dsimp only at hSw); have a0 := hSw.cell HGL.out A0.out; have a1 := hSw.cell HGL.out A1.out; have a2 := hSw.cell HGL.out A2.out; have a3 := hSw.cell HGL.out A3.out; have a4 := hSw.cell HGL.out A4.out; have a5 := hSw.cell HGL.out A5.out; go_simp; (try with_reducible rfl))
      try simp only [Act.put, List.setIfInBounds_toArray, List.set_cons_zero, List.set_cons_succ]
      refine wpAnyH_take (i := 7) (oi := ?o7x7) (v := (.agg #[.slice SA i sc, .int .i64 (y : Int)])) ?hi7x7 (by kernel_rfl) (by kernel_rfl) (by kernel_rfl) ?hQ7x7 ?hy7x7 hHeld ?rest7x7
      case hi7x7 => (simp only [List.getElem?_toArray, List.getElem?_cons_succ, List.getElem?_cons_zero]; rfl)
      case hQ7x7 => exact fun _ _ _ h => h
      case hy7x7 => exact yields_load_row (by rfl) 24 (.tmp 3) (by rfl) (w.heap.size + 1 + 1) (by rfl) _ _ _ (fun X hX => (hX (w.heap.size + 1 + 1) (by omega)).trans HG.out.2.1) Tryz.underlying24 (by rfl) info_Gr
      try simp only [Act.put, List.setIfInBounds_toArray, List.set_cons_zero, List.set_cons_succ]
      refine wpAnyH_take (i := 8) (oi := ?o8x8) (v := ?v8x8) ?hi8x8 (by kernel_rfl) (by kernel_rfl) (by kernel_rfl) ?hQ8x8 ?hy8x8 hHeld ?rest8x8
      case hi8x8 => (simp only [List.getElem?_toArray, List.getElem?_cons_succ, List.getElem?_cons_zero]; rfl)
      case hQ8x8 => exact fun _ _ _ h => h
      case hy8x8 => (refine Or.inl ⟨by rfl, ?_⟩; intro W hSw; (try dsimp only at hSw); go_simp; (try with_reducible rfl))
      try simp only [Act.put, List.setIfInBounds_toArray, List.set_cons_zero, List.set_cons_succ]
      refine wpAnyH_take (i := 9) (oi := ?o9x9) (v := ?v9x9) ?hi9x9 (by kernel_rfl) (by kernel_rfl) (by kernel_rfl) ?hQ9x9 ?hy9x9 hHeld ?rest9x9
      case hi9x9 => (simp only [List.getElem?_toArray, List.getElem?_cons_succ, List.getElem?_cons_zero]; rfl)
      case hQ9x9 => exact fun _ _ _ h => h
      case hy9x9 => (refine Or.inl ⟨by rfl, ?_⟩; intro W hSw; (try dsimp only at hSw); go_simp; (try with_reducible rfl))
      try simp only [Act.put, List.setIfInBounds_toArray, List.set_cons_zero, List.set_cons_succ]
      refine wpAnyH_ready (rs := [10]) (by kernel_rfl) (by simp) ?_
      refine (AllReadyH.cons rfl (fun K hK => ?_) AllReadyH.nil)
      go_simp
      (with_reducible refine Calls.mono (cleanNode_any F i n HN.out.2 HLT.out _ SA i sc y _ (HO.out.below (by go_grown))) ?_)
      rintro e w3 ⟨⟨v3, rfl, hv3⟩, hk3⟩
      have hk3a : Kept wr w3 := ⟨hk3.os, hk3.tape, hk3.output, hk3.size, hk3.block⟩
      have HV3 : Hid (ND n i (fun b => wr.heap.size ≤ b) w3 v3) := Lib.hid hv3
      have HK3 := Lib.hid hk3a
      have HS3 : Hid (Same (w.heap.size + 1 + 1 + 1) wr w3) := Lib.hid (Same.of_kept hk3a (by have := HG.out.2.1.lt; omega))
      obtain ⟨k3, b3, B3, c3, l3, q3, T3, K3, e3, ks3, rfl, _⟩ := hv3
      clear hk3 hk3a
      refine hK.out _ _ ?_ (fun hHeld => ?_)
      · (exact HS3.out)
      clear hK K
      try simp only [Act.put, List.setIfInBounds_toArray, List.set_cons_zero, List.set_cons_succ]
      refine wpAnyH_ready (rs := [11]) (by kernel_rfl) (by simp) ?_
      refine (AllReadyH.cons rfl (fun K hK => ?_) AllReadyH.nil)
      go_simp
      refine hK.out _ _ ?_ (fun hHeld => ?_)
      · (exact HS3.out.trans (Same.of_kept ((Below.refl _ w3).alloc (Nat.le_refl _) _) (by have := HG.out.2.1.lt; have := HK3.out.size; omega)))
      clear hK K
      try simp only [Act.put, List.setIfInBounds_toArray, List.set_cons_zero, List.set_cons_succ]
      have HXR := Lib.hid HG.out.2.2.1.choose_spec.1
      have hk4 : Kept wr (w3.alloc (.cells #[.int .i64 k3, .bool b3, .slice B3 l3.length c3, .int .u64 (q3 : Int), .string T3, .slice K3 ks3.length e3] 45)) := HK3.out.trans ((Below.refl _ w3).alloc (Nat.le_refl _) _)
      have HG4 := Lib.hid (CI.below (ND.moves n) HG.out hk4)
      obtain ⟨xs, hx4, hv4⟩ := HG4.out.2.2.1
      have HX4 := Lib.hid hx4
      have HV4 := Lib.hid hv4
      have HS4 : Hid (Same (w.heap.size + 1 + 1 + 1) wr (w3.alloc (.cells #[.int .i64 k3, .bool b3, .slice B3 l3.length c3, .int .u64 (q3 : Int), .string T3, .slice K3 ks3.length e3] 45))) := Lib.hid (Same.of_kept hk4 (by have := HG.out.2.1.lt; omega))
      have HNW : Hid (∃ v, Six [.int .i64 k3, .bool b3, .slice B3 l3.length c3, .int .u64 (q3 : Int), .string T3, .slice K3 ks3.length e3] 0 v ∧ ND n i (fun c => (fun c => w.heap.size + 1 + 1 + 1 ≤ c) c ∧ (Value.slice SA i sc).ownBlock ≠ some c) (w3.alloc (.cells #[.int .i64 k3, .bool b3, .slice B3 l3.length c3, .int .u64 (q3 : Int), .string T3, .slice K3 ks3.length e3] 45)) v) := Lib.hid ⟨_, six_lit _ _ _ _ _ _, by
        refine ND.moves n i _ _ w3 (w3.alloc (.cells #[.int .i64 k3, .bool b3, .slice B3 l3.length c3, .int .u64 (q3 : Int), .string T3, .slice K3 ks3.length e3] 45)) _ HV3.out (fun c hc hl => ?_) (fun c _ hl => ((Below.refl _ w3).alloc (Nat.le_refl _) (.cells #[.int .i64 k3, .bool b3, .slice B3 l3.length c3, .int .u64 (q3 : Int), .string T3, .slice K3 ks3.length e3] 45)).block c hl)
        have hlt := HXR.out.lt
        have hzz := HG.out.2.1.lt
        have hc' : wr.heap.size ≤ c := hc
        exact ⟨by omega, fun e => by have := (hlt c e).2; omega⟩⟩
      have HLN : Hid (i < 12) := Lib.hid (by have := HLT.out; have := HN.out; omega)
      clear hk4 hx4 hv4
      refine wpAnyH_ready (rs := [12]) (by kernel_rfl) (by simp) ?_
      refine (AllReadyH.cons rfl (fun K hK => ?_) AllReadyH.nil)
      refine step_append_lies _ rfl (.tmp 26) (.tmp 36) 22 rfl (w.heap.size + 1 + 1 + 1) 45 i0 (.agg #[.int .i64 0, .bool false, .slice none 0 0, .int .u64 0, .string ⟨#[]⟩, .slice none 0 0]) 6 88 Tryz.underlying22 HI.out.1 HI.out.2.1 HI.out.2.2.1 HI.out.2.2.2 rfl (by omega) _ i _ rfl HX4.out ⟨w3.heap.size, 0, none⟩ 1 1 [.int .i64 k3, .bool b3, .slice B3 l3.length c3, .int .u64 (q3 : Int), .string T3, .slice K3 ks3.length e3] rfl rfl (cells_new w3 _ _) (by intro u hu; simp at hu; rcases hu with rfl | rfl | rfl | rfl | rfl | rfl <;> rfl) (by omega) (by simp only [maxLen]; have := HLN.out; omega) (by have := HLN.out; omega) (by have := HG4.out.2.1.lt; omega) _ rfl ?_
      intro g2 cap2 w5 ho2 hg2 hat hgl
      have HST5 := Lib.hid (CI.step (ND.moves n) HG4.out HX4.out HV4.out ho2 hg2 hat HNW.out)
      clear ho2 hg2 hat hgl
      refine hK.out _ _ ?_ (fun hHeld => ?_)
      · (exact HS4.out.trans (HST5.out.2.2.1))
      clear hK K
      try simp only [Act.put, List.setIfInBounds_toArray]
      refine wpAnyH_take (i := 13) (oi := ?o13x10) (v := ?v13x10) ?hi13x10 (by kernel_rfl) (by kernel_rfl) (by kernel_rfl) ?hQ13x10 ?hy13x10 hHeld ?rest13x10
      case hi13x10 => (simp only [List.getElem?_toArray, List.getElem?_cons_succ, List.getElem?_cons_zero]; rfl)
      case hQ13x10 => exact fun _ _ _ h => h
      case hy13x10 => (refine Or.inl ⟨by rfl, ?_⟩; intro W hSw; (try dsimp only at hSw); go_simp; (try with_reducible rfl))
      try simp only [Act.put]
      refine wpAnyH_done (by kernel_rfl) ?_ _
      simp only [lastQ]
      have d5 := HST5.out.1
      have dz := HST5.out.2.1
      have HG5 := Lib.hid HST5.out.2.2.2
      clear hHeld
      go_wp2_with fail
      exact ⟨⟨i + 1, _, by go_num, by have := HLT.out; omega, HG5.out⟩, by have := HLN.out; simp [intOf]; omega⟩
    · have i1 : ¬ (i : Int) < (n : Int) := by omega
      have hin : i = n := by omega
      have hst := run_storeVar_row (P := Tryz.prog) wr (w.heap.size + 1) 24 24 _ #[.slice SA i sc, .int .i64 (y : Int)] (HBZ.out.below HG.out.1) info_Gr rfl (by simp [Value.oneCell'])
      simp [go_sem] at hst
      have HB9 := Lib.hid (setRow_heap _ _ _ #[.slice SA i sc, .int .i64 (y : Int)] _ _ (HBZ.out.below HG.out.1))
      have c0 := HG.out.2.1.cell 0
      have c1 := HG.out.2.1.cell 1
      have HEND : Hid (GraphQ w.heap.size (wr.setRow (w.heap.size + 1) #[.slice SA i sc, .int .i64 (y : Int)]) (.agg #[.slice SA i sc, .int .i64 (y : Int)]) ∧ Kept w (wr.setRow (w.heap.size + 1) #[.slice SA i sc, .int .i64 (y : Int)])) := Lib.hid (by
        refine ⟨?_, below_setRow (HK0.out.trans HG.out.1) (by omega) _⟩
        have hgr := HG.out.2.2.1
        subst hin
        exact ⟨_, i, y, rfl, HN.out.2, HY.out, (hgr.move (ND.moves i) fun c hc _ => setRow_other wr (w.heap.size + 1) c _ (by omega)).weak (ND.moves i) (fun c hc => by have : w.heap.size + 1 + 1 + 1 ≤ c := hc; omega) (by omega)⟩)
      clear hlt hi i0' hG hin
      go_wp2_with fail
      exact bodyPost_blk rfl rfl HB9.out Tryz.underlying24 rfl (by exact info_Gr) rfl ⟨⟨_, rfl, HEND.out.1⟩, HEND.out.2⟩
end Go.Proofs.YtoociokhldakbaaGreat
