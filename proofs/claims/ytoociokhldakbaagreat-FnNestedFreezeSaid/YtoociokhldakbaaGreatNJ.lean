/- What spec.Clean makes of a value of a kind without kids (none, bool, integer, float, text), at any depth. -/
import Derived.Test.YtoociokhldakbaaGreatNI
import Derived.OwnWalk
import Derived.Deep.DeepMust
import Derived.Deep.AppendLies
namespace Go.Proofs.YtoociokhldakbaaGreat
open Go.ChangeShapes Go.WideShapes Go.ChangeAt Go.RowKit
set_option linter.unusedVariables false
/-- the kind that Clean makes of kind x at depth D -/
def knd (x : Int) (D : Int) : Int := let k := (x.tmod 10 + 10).tmod 10; if D ≤ 0 ∧ 6 ≤ k then k - 6 else k
theorem knd_mod (x : Int) : (wrap64 (x.tmod 10 + 10)).tmod 10 = (x.tmod 10 + 10).tmod 10 ∧ 0 ≤ (x.tmod 10 + 10).tmod 10 ∧ (x.tmod 10 + 10).tmod 10 ≤ 9 := by
  have a1 : x.tmod 10 < 10 := Int.tmod_lt_of_pos x (by omega)
  have a2 : -10 < x.tmod 10 := Int.lt_tmod_of_pos x (by omega)
  have e1 : wrap64 (x.tmod 10 + 10) = x.tmod 10 + 10 := by
    unfold wrap64
    omega
  have e2 : (x.tmod 10 + 10).tmod 10 = (x.tmod 10 + 10) % 10 := Int.tmod_eq_emod_of_nonneg (by omega)
  rw [e1, e2]
  omega
/-- a value in six cells: kind k, sign, at most 40 bytes, bits, text, kids as P says; the rows in blocks from B on -/
def O6 (P : Option Addr → Nat → Nat → Prop) (B : Nat) (w : World) (k : Int) (v : Value) : Prop :=
  ∃ (ng : Bool) (A : Option Addr) (c : Nat) (l : List Nat) (bits : Nat) (t : ByteArray) (K : Option Addr) (kn kc : Nat), v = .agg #[.int .i64 k, .bool ng, .slice A l.length c, .int .u64 (bits : Int), .string t, .slice K kn kc] ∧ Sl w A c (by8 l) ∧ Fz B A ∧ l.length ≤ 40 ∧ (∀ d, d ∈ l → d < 256) ∧ (k = 1 → bits ≤ 1) ∧ bits < 18446744073709551616 ∧ 0 ≤ k ∧ k ≤ 9 ∧ kn ≤ 16 ∧ (k = 8 → kn % 2 = 0) ∧ P K kn kc
/-- the i-th six cells behind place o of block g -/
def At6 (w : World) (g o i : Nat) (v : Value) : Prop :=
  ∃ u0 u1 u2 u3 u4 u5, v = .agg #[u0, u1, u2, u3, u4, u5] ∧ w.cell? ⟨g, o + i * 6, none⟩ = some u0 ∧ w.cell? ⟨g, o + i * 6 + 1, none⟩ = some u1 ∧ w.cell? ⟨g, o + i * 6 + 2, none⟩ = some u2 ∧ w.cell? ⟨g, o + i * 6 + 3, none⟩ = some u3 ∧ w.cell? ⟨g, o + i * 6 + 4, none⟩ = some u4 ∧ w.cell? ⟨g, o + i * 6 + 5, none⟩ = some u5
theorem At6.below {w w' : World} {g o i : Nat} {v : Value} (h : At6 w g o i v) (hb : Kept w w') : At6 w' g o i v := by
  obtain ⟨u0, u1, u2, u3, u4, u5, e, h0, h1, h2, h3, h4, h5⟩ := h
  exact ⟨u0, u1, u2, u3, u4, u5, e, (hb.cell (block_lt_of_cell h0)).trans h0, (hb.cell (block_lt_of_cell h1)).trans h1, (hb.cell (block_lt_of_cell h2)).trans h2, (hb.cell (block_lt_of_cell h3)).trans h3, (hb.cell (block_lt_of_cell h4)).trans h4, (hb.cell (block_lt_of_cell h5)).trans h5⟩
theorem At6.same {w w' : World} {g o i : Nat} {v : Value} (h : At6 w g o i v) (hb : w'.heap[g]? = w.heap[g]?) : At6 w' g o i v := by
  obtain ⟨u0, u1, u2, u3, u4, u5, e, h0, h1, h2, h3, h4, h5⟩ := h
  have hc : ∀ k, w'.cell? ⟨g, k, none⟩ = w.cell? ⟨g, k, none⟩ := fun k => World.cell?_of_block hb
  exact ⟨u0, u1, u2, u3, u4, u5, e, (hc _).trans h0, (hc _).trans h1, (hc _).trans h2, (hc _).trans h3, (hc _).trans h4, (hc _).trans h5⟩
theorem At6.lt {w : World} {g o i : Nat} {v : Value} (h : At6 w g o i v) : g < w.heap.size := by
  obtain ⟨u0, u1, u2, u3, u4, u5, e, h0, _⟩ := h
  exact block_lt_of_cell h0
/-- the kids of a made value of at most d levels below it -/
def KV (B : Nat) (w : World) : Nat → Option Addr → Nat → Nat → Prop
  | 0, _, kn, _ => kn = 0
  | d + 1, K, kn, _ => kn = 0 ∨ ∃ g, K = some ⟨g, 0, none⟩ ∧ B ≤ g ∧ ∀ i, i < kn → ∃ k v, At6 w g 0 i v ∧ O6 (KV B w d) B w k v
/-- a made value of at most d levels below it -/
def OV (B : Nat) (w : World) (d : Nat) (k : Int) (v : Value) : Prop := O6 (KV B w d) B w k v
/-- a made value without kids -/
def Flat (B : Nat) (w : World) (k : Int) (v : Value) : Prop := O6 (fun K kn kc => K = none ∧ kn = 0 ∧ kc = 0) B w k v
theorem O6.mono {P Q : Option Addr → Nat → Nat → Prop} {B : Nat} {w : World} {k : Int} {v : Value} (h : O6 P B w k v) (hPQ : ∀ K n c, n ≤ 16 → P K n c → Q K n c) : O6 Q B w k v := by
  obtain ⟨ng, A, c, l, bits, t, K, kn, kc, e, h1, h2, h3, h4, h5, h6, h7, h8, h9, h10, h11⟩ := h
  exact ⟨ng, A, c, l, bits, t, K, kn, kc, e, h1, h2, h3, h4, h5, h6, h7, h8, h9, h10, hPQ _ _ _ h9 h11⟩
theorem Flat.ov {B : Nat} {w : World} {k : Int} {v : Value} (h : Flat B w k v) (d : Nat) : OV B w d k v :=
  O6.mono h fun K n c _ hk => by
    obtain ⟨rfl, rfl, rfl⟩ := hk
    cases d with
    | zero => exact rfl
    | succ d => exact .inl rfl
theorem O6.move {P Q : Option Addr → Nat → Nat → Prop} {B B' : Nat} {w w' : World} {k : Int} {v : Value} (h : O6 P B w k v) (hB : B' ≤ B) (hs : ∀ A c l, Sl w A c (by8 l) → Fz B A → Sl w' A c (by8 l)) (hPQ : ∀ K n c, n ≤ 16 → P K n c → Q K n c) : O6 Q B' w' k v := by
  obtain ⟨ng, A, c, l, bits, t, K, kn, kc, e, h1, h2, h3, h4, h5, h6, h7, h8, h9, h10, h11⟩ := h
  exact ⟨ng, A, c, l, bits, t, K, kn, kc, e, hs _ _ _ h1 h2, h2.mono hB, h3, h4, h5, h6, h7, h8, h9, h10, hPQ _ _ _ h9 h11⟩
theorem KV.move {B B' : Nat} {w w' : World} (hB : B' ≤ B) (hs : ∀ A c l, Sl w A c (by8 l) → Fz B A → Sl w' A c (by8 l)) (hb : ∀ g, B ≤ g → g < w.heap.size → ∀ i v, At6 w g 0 i v → At6 w' g 0 i v) : ∀ (d : Nat) (K : Option Addr) (n c : Nat), KV B w d K n c → KV B' w' d K n c
  | 0, _, _, _, h => h
  | d + 1, K, n, c, h => by
    rcases h with h | ⟨g, e, hg, h⟩
    · exact .inl h
    · refine .inr ⟨g, e, Nat.le_trans hB hg, fun i hi => ?_⟩
      obtain ⟨k, v, ha, ho⟩ := h i hi
      exact ⟨k, v, hb g hg ha.lt i v ha, ho.move hB hs fun K n c _ hk => KV.move hB hs hb d K n c hk⟩
theorem OV.below {B : Nat} {w w' : World} {d : Nat} {k : Int} {v : Value} (h : OV B w d k v) (hb : Kept w w') : OV B w' d k v :=
  O6.move h (Nat.le_refl _) (fun _ _ _ hs _ => hs.below hb) fun K n c _ => KV.move (Nat.le_refl _) (fun _ _ _ hs _ => hs.below hb) (fun _ _ _ _ _ ha => ha.below hb) d K n c
theorem OV.lower {B B' : Nat} {w : World} {d : Nat} {k : Int} {v : Value} (h : OV B w d k v) (hB : B' ≤ B) : OV B' w d k v :=
  O6.move h hB (fun _ _ _ hs _ => hs) fun K n c _ => KV.move hB (fun _ _ _ hs _ => hs) (fun _ _ _ _ _ ha => ha) d K n c
theorem OV.setRow {B : Nat} {w : World} {d : Nat} {k : Int} {v : Value} (h : OV B w d k v) {b : Nat} (hb : b < B) (cs : Array Value) : OV B (w.setRow b cs) d k v :=
  O6.move h (Nat.le_refl _) (fun _ _ _ hs hf => hs.setRow hf hb cs) fun K n c _ => KV.move (Nat.le_refl _) (fun _ _ _ hs hf => hs.setRow hf hb cs) (fun g hg _ _ _ ha => ha.same (setRow_other w b g cs (by omega))) d K n c
/-- where only one block below B, or new ones, have been written -/
theorem OV.grown {B : Nat} {w w' : World} {d : Nat} {k : Int} {v : Value} (h : OV B w d k v) (hs : ∀ A c l, Sl w A c (by8 l) → Fz B A → Sl w' A c (by8 l)) (hb : ∀ g, B ≤ g → g < w.heap.size → w'.heap[g]? = w.heap[g]?) : OV B w' d k v :=
  O6.move h (Nat.le_refl _) hs fun K n c _ => KV.move (Nat.le_refl _) hs (fun g hg hl _ _ ha => ha.same (hb g hg hl)) d K n c
theorem Flat.plain (B : Nat) (w : World) (k : Int) (bits : Nat) (t : ByteArray) (hb : k = 1 → bits ≤ 1) (h64 : bits < 18446744073709551616) (h0 : 0 ≤ k) (h9 : k ≤ 9) : Flat B w k (.agg #[.int .i64 k, .bool false, .slice none 0 0, .int .u64 (bits : Int), .string t, .slice none 0 0]) :=
  ⟨false, none, 0, [], bits, t, none, 0, 0, rfl, Sl.nil w, fun b off e => (by cases e), Nat.zero_le _, fun d hd => (by cases hd), hb, h64, h0, h9, Nat.zero_le _, fun _ => rfl, rfl, rfl, rfl⟩
theorem Flat.setRow {B : Nat} {w : World} {k : Int} {v : Value} (h : Flat B w k v) {b : Nat} (hb : b < B) (cs : Array Value) : Flat B (w.setRow b cs) k v :=
  O6.move h (Nat.le_refl _) (fun _ _ _ hs hf => hs.setRow hf hb cs) fun _ _ _ _ h => h
theorem Flat.lower {B B' : Nat} {w : World} {k : Int} {v : Value} (h : Flat B w k v) (hB : B' ≤ B) : Flat B' w k v :=
  O6.move h hB (fun _ _ _ hs _ => hs) fun _ _ _ _ h => h
theorem Flat.below {B : Nat} {w w' : World} {k : Int} {v : Value} (h : Flat B w k v) (hb : Kept w w') : Flat B w' k v :=
  O6.move h (Nat.le_refl _) (fun _ _ _ hs _ => hs.below hb) fun _ _ _ _ h => h
theorem bvv_form (b : Bool) : ∃ y : Nat, bvv b = #[.int .i64 1, .bool false, .slice none 0 0, .int .u64 (y : Int), .string ⟨#[]⟩, .slice none 0 0] ∧ y ≤ 1 := by
  cases b
  · exact ⟨0, rfl, by omega⟩
  · exact ⟨1, rfl, by omega⟩
theorem clean_end {w : World} {a b : Array Value} {ta tb : TypeId} : Kept w ((w.alloc (.cells a ta)).alloc (.cells b tb)) ∧ Blk ((w.alloc (.cells a ta)).alloc (.cells b tb)) (w.heap.size + 1) tb b := by
  refine ⟨((Below.refl _ w).alloc (Nat.le_refl _) _).alloc (by simp) _, ?_⟩
  have := Blk.new (w.alloc (.cells a ta)) tb b
  rwa [World.size_alloc] at this
/-- the three ways to a kind: two at depth 0, one above -/
theorem knd_ways {x D k' : Int} (hk : knd x D = k') : (D ≤ 0 ∧ 6 ≤ k' + 6 ∧ k' ≤ 3 ∧ (wrap64 (x.tmod 10 + 10)).tmod 10 = k' + 6) ∨ (D ≤ 0 ∧ k' < 6 ∧ (wrap64 (x.tmod 10 + 10)).tmod 10 = k') ∨ (0 < D ∧ (wrap64 (x.tmod 10 + 10)).tmod 10 = k') := by
  obtain ⟨e1, e2, e3⟩ := knd_mod x
  unfold knd at hk
  dsimp only at hk
  rw [e1]
  generalize (x.tmod 10 + 10).tmod 10 = k at *
  by_cases hD : D ≤ 0
  · by_cases h6 : 6 ≤ k
    · rw [if_pos ⟨hD, h6⟩] at hk
      exact .inl ⟨hD, by omega, by omega, by omega⟩
    · rw [if_neg (fun h => h6 h.2)] at hk
      exact .inr (.inl ⟨hD, by omega, hk⟩)
  · rw [if_neg (fun h => hD h.1)] at hk
    exact .inr (.inr ⟨by omega, hk⟩)
set_option maxRecDepth 100000 in
set_option maxHeartbeats 1000000 in
theorem Clean_flt (x D : Int) (ng : Bool) (A : Option Addr) (c m : Nat) (bits : Nat) (t : ByteArray) (K : Option Addr) (kn kc : Nat) (w : World) (h64 : bits < 18446744073709551616) (hk : knd x D = 3) :
    Calls Tryz.prog 14 #[.agg #[.int .i64 x, .bool ng, .slice A m c, .int .u64 (bits : Int), .string t, .slice K kn kc], .int .i64 D] w fun e w' => (∃ v, e = .returned v ∧ Flat w.heap.size w' 3 v) ∧ Kept w w' := by
  have HC := Lib.hid (fun W => Flat.plain w.heap.size W 3 bits ⟨#[]⟩ (fun h => by cases h) h64 (by decide) (by decide))
  clear h64
  rcases knd_ways hk with ⟨hD, _, _, e⟩ | ⟨hD, _, e⟩ | ⟨hD, e⟩ <;> clear hk
  all_goals
    have hD' := hD
    go_enter Tryz.func14, Tryz.ntmps14
    go_wp2_with fail
    exact bodyPost_blk rfl rfl clean_end.2 Tryz.underlying33 rfl (by exact info_Vl) rfl ⟨⟨_, rfl, HC.out _⟩, clean_end.1⟩
set_option maxRecDepth 100000 in
set_option maxHeartbeats 1000000 in
theorem Clean_none (x D : Int) (ng : Bool) (A : Option Addr) (c m : Nat) (bits : Nat) (t : ByteArray) (K : Option Addr) (kn kc : Nat) (w : World) (hk : knd x D = 0) :
    Calls Tryz.prog 14 #[.agg #[.int .i64 x, .bool ng, .slice A m c, .int .u64 (bits : Int), .string t, .slice K kn kc], .int .i64 D] w fun e w' => (∃ v, e = .returned v ∧ Flat w.heap.size w' 0 v) ∧ Kept w w' := by
  have HC := Lib.hid (fun W => Flat.plain w.heap.size W 0 0 ⟨#[]⟩ (fun h => by cases h) (by decide) (by decide) (by decide))
  rcases knd_ways hk with ⟨hD, _, _, e⟩ | ⟨hD, _, e⟩ | ⟨hD, e⟩ <;> clear hk
  all_goals
    have hD' := hD
    go_enter Tryz.func14, Tryz.ntmps14
    go_wp2_with fail
    exact bodyPost_blk rfl rfl clean_end.2 Tryz.underlying33 rfl (by exact info_Vl) rfl ⟨⟨_, rfl, HC.out _⟩, clean_end.1⟩
set_option maxRecDepth 100000 in
set_option maxHeartbeats 1000000 in
theorem Clean_bool (x D : Int) (ng : Bool) (A : Option Addr) (c m : Nat) (bits : Nat) (t : ByteArray) (K : Option Addr) (kn kc : Nat) (w : World) (hk : knd x D = 1) :
    Calls Tryz.prog 14 #[.agg #[.int .i64 x, .bool ng, .slice A m c, .int .u64 (bits : Int), .string t, .slice K kn kc], .int .i64 D] w fun e w' => (∃ v, e = .returned v ∧ Flat w.heap.size w' 1 v) ∧ Kept w w' := by
  rcases knd_ways hk with ⟨hD, _, _, e⟩ | ⟨hD, _, e⟩ | ⟨hD, e⟩ <;> clear hk
  all_goals
    have hD' := hD
    have CB := Lib.hid (fun b => BoolVal_any b ((w.alloc (.cells #[.int .i64 x, .bool ng, .slice A m c, .int .u64 (bits : Int), .string t, .slice K kn kc] 33)).alloc (.cells #[.int .i64 0, .bool false, .slice none 0 0, .int .u64 0, .string ⟨#[]⟩, .slice none 0 0] 33)))
    go_enter Tryz.func14, Tryz.ntmps14
    go_wp2_with fail
    refine (CB.out _).mono ?_
    rintro e w1 ⟨rfl, hk1⟩
    have B2 : Blk w1 (w.heap.size + 1) 33 #[.int .i64 0, .bool false, .slice none 0 0, .int .u64 0, .string ⟨#[]⟩, .slice none 0 0] := Blk.below clean_end.2 hk1
    have HK := Lib.hid (clean_end.1.trans hk1)
    generalize (Go.bits BinOp.and IntKind.u64 (bits : Int) 1 == 1) = b at *
    obtain ⟨y, ey, hy⟩ := bvv_form b
    rw [ey]
    have HY : Hid (y ≤ 1) := Lib.hid hy
    clear CB ey hy hk1
    have hst := run_storeVar_row (P := Tryz.prog) w1 (w.heap.size + 1) 33 33 _ #[.int .i64 1, .bool false, .slice none 0 0, .int .u64 (y : Int), .string ⟨#[]⟩, .slice none 0 0] B2 info_Vl rfl (by simp [Value.oneCell'])
    simp [go_sem] at hst
    go_wp2_with fail
    refine bodyPost_blk (cs := #[.int .i64 1, .bool false, .slice none 0 0, .int .u64 (y : Int), .string ⟨#[]⟩, .slice none 0 0]) rfl rfl (setRow_heap _ _ _ _ _ _ B2) Tryz.underlying33 rfl (by exact info_Vl) rfl ?_
    exact ⟨⟨_, rfl, Flat.plain _ _ 1 y ⟨#[]⟩ (fun _ => HY.out) (by have := HY.out; omega) (by decide) (by decide)⟩, below_setRow HK.out (by omega) _⟩
set_option maxRecDepth 100000 in
set_option maxHeartbeats 1000000 in
theorem Clean_txt (x D : Int) (k' : Int) (hk' : k' = 4 ∨ k' = 5) (ng : Bool) (A : Option Addr) (c m : Nat) (bits : Nat) (t : ByteArray) (K : Option Addr) (kn kc : Nat) (w : World) (hk : knd x D = k') :
    Calls Tryz.prog 14 #[.agg #[.int .i64 x, .bool ng, .slice A m c, .int .u64 (bits : Int), .string t, .slice K kn kc], .int .i64 D] w fun e w' => (∃ v, e = .returned v ∧ Flat w.heap.size w' k' v) ∧ Kept w w' := by
  have HC := Lib.hid (fun W t => Flat.plain w.heap.size W k' 0 t (fun h => by omega) (by decide) (by omega) (by omega))
  have hsz : ∃ q : Nat, q ≤ t.size ∧ min (t.size : Int) 60 = (q : Int) := ⟨min t.size 60, by omega, by omega⟩
  obtain ⟨q, hq1, hq2⟩ := hsz
  have hq3 : (q : Int) ≤ (t.size : Int) := by omega
  rcases knd_ways hk with ⟨hD, h1, h2, e⟩ | ⟨hD, _, e⟩ | ⟨hD, e⟩ <;> clear hk
  · omega
  all_goals
    rcases hk' with rfl | rfl
    all_goals
      have hD' := hD
      go_enter Tryz.func14, Tryz.ntmps14
      go_wp2_with fail
      exact bodyPost_blk rfl rfl clean_end.2 Tryz.underlying33 rfl (by exact info_Vl) rfl ⟨⟨_, rfl, HC.out _ _⟩, clean_end.1⟩
theorem SI.two {w : World} {v : Value} {z : Int} (h : SI w v z) : ∃ b A n c, v = .agg #[.bool b, .slice A n c] := by
  obtain ⟨A, c, l, e, _⟩ := h
  exact ⟨_, A, l.length, c, e⟩
theorem run_hi_by (A : Option Addr) (n c k : Nat) (hk : k ≤ c) (wx : World) :
    (Instr.slice 29 (.slice A n c) none (some (.int .i64 (k : Int))) none).run Tryz.prog wx = .ok (.slice A k c) wx := by
  have h1 : (k : Int) ≤ (c : Int) := by omega
  have h2 : (0 : Int) ≤ (k : Int) := by omega
  by_cases hc : c = 0
  · subst hc
    obtain rfl : k = 0 := by omega
    simp [go_sem, Tryz.underlying29]
  · simp [go_sem, Tryz.underlying29, h1, h2]
theorem BE.len40 {l : List Nat} {N : Nat} (h : BE l N) (k : Nat) (hN : N < 256 ^ k) : l.length ≤ k := by
  have := Num.len_lt 256 (by decide) l.reverse h.1 k (by rw [h.2]; exact hN)
  rwa [List.length_reverse] at this
theorem sgn_abs (b : Bool) (N : Nat) : (sgn b N).natAbs = N := by
  unfold sgn
  cases b <;> simp
/-- an integer's value is made of at most k bytes -/
def Few (k : Nat) (z : Int) : Prop := z.natAbs < 256 ^ k
theorem few_cap {k : Nat} (hk : k ≤ Num.capK) {z : Int} (h : Few k z) : z.natAbs < Num.Cap :=
  Nat.lt_of_lt_of_le h (by unfold Num.Cap; exact Nat.pow_le_pow_right (by decide) hk)
theorem few_of (b : Bool) (l : List Nat) (hd : ∀ d, d ∈ l → d < 256) (k : Nat) (hl : l.length ≤ k) : Few k (sgn b (Num.le 256 l.reverse)) := by
  unfold Few
  rw [sgn_abs]
  have := Num.le_lt 256 (by decide) l.reverse (fun d hd' => hd d (by simpa using hd'))
  rw [List.length_reverse] at this
  exact Nat.lt_of_lt_of_le this (Nat.pow_le_pow_right (by decide) hl)
theorem Flat.int {B : Nat} {w : World} {v : Value} {z : Int} (h : VIf B w v z) (hz : Few 40 z) : Flat B w 2 v := by
  obtain ⟨A, c, l, rfl, hs, hl, hf⟩ := h
  exact ⟨_, A, c, l, 0, _, none, 0, 0, rfl, hs, hf, BE.len40 hl 40 hz, hl.lt, fun h => (by cases h), by decide, by decide, by decide, Nat.zero_le _, fun h => (by cases h), rfl, rfl, rfl⟩
theorem by8_take (l : List Nat) (k : Nat) : by8 (l.take k) = (by8 l).take k := by
  unfold by8
  rw [List.map_take]
set_option maxRecDepth 100000 in
set_option maxHeartbeats 2000000 in
theorem Clean_int (x D : Int) (ng : Bool) (A : Option Addr) (c : Nat) (l : List Nat) (hd : ∀ d, d ∈ l → d < 256) (bits : Nat) (t : ByteArray) (K : Option Addr) (kn kc : Nat) (w : World) (hs : Sl w A c (by8 l)) (hk : knd x D = 2) :
    Calls Tryz.prog 14 #[.agg #[.int .i64 x, .bool ng, .slice A l.length c, .int .u64 (bits : Int), .string t, .slice K kn kc], .int .i64 D] w fun e w' => (∃ v, e = .returned v ∧ Flat w.heap.size w' 2 v) ∧ Kept w w' := by
  obtain ⟨W, hW⟩ : ∃ W, W = ((w.alloc (.cells #[.int .i64 x, .bool ng, .slice A l.length c, .int .u64 (bits : Int), .string t, .slice K kn kc] 33)).alloc (.cells #[.int .i64 0, .bool false, .slice none 0 0, .int .u64 0, .string ⟨#[]⟩, .slice none 0 0] 33)) := ⟨_, rfl⟩
  have hk0 : Kept w W := by rw [hW]; exact clean_end.1
  have b2 : Blk W (w.heap.size + 1) 33 #[.int .i64 0, .bool false, .slice none 0 0, .int .u64 0, .string ⟨#[]⟩, .slice none 0 0] := by rw [hW]; exact clean_end.2
  have b1 : Blk W w.heap.size 33 #[.int .i64 x, .bool ng, .slice A l.length c, .int .u64 (bits : Int), .string t, .slice K kn kc] := by
    rw [hW]
    exact (Blk.new w _ _).below ((Below.refl _ _).alloc (Nat.le_refl _) _)
  have hn : ∃ q : Nat, q = (l.take 40).length ∧ q ≤ l.length ∧ q ≤ 40 ∧ min (l.length : Int) 40 = (q : Int) := ⟨(l.take 40).length, rfl, by rw [List.length_take]; omega, by rw [List.length_take]; omega, by rw [List.length_take]; omega⟩
  obtain ⟨q, hq, hq1, hq2, hq3⟩ := hn
  have hqc : q ≤ c := by have := hs.cap; rw [by8_len] at this; omega
  have hsl : ∀ X, (Instr.slice 29 (.slice A l.length c) none (some (.int .i64 (q : Int))) none).run Tryz.prog X = .ok (.slice A q c) X := run_hi_by A l.length c q hqc
  have HOF : Hid (∀ X, Kept W X → Calls Tryz.prog 22 #[.bool ng, .slice A q c] X (RetSI X (sgn ng (Num.le 256 (l.take 40).reverse)))) := Lib.hid fun X h => by
    have := Of_any ng A c (l.take 40) (by omega) (fun d hd' => hd d (List.mem_of_mem_take hd')) X (by rw [by8_take]; exact ((hs.below hk0).below h).take 40)
    rwa [← hq] at this
  have HIV : Hid (∀ (X : World) (b' : Bool) (A' : Option Addr) (n' c' : Nat), SI X (.agg #[.bool b', .slice A' n' c']) (sgn ng (Num.le 256 (l.take 40).reverse)) → Calls Tryz.prog 21 #[.agg #[.bool b', .slice A' n' c']] X (RetVI X (sgn ng (Num.le 256 (l.take 40).reverse)))) := Lib.hid fun X b' A' n' c' h => IntVal_any _ _ (few_cap (by decide) (few_of ng (l.take 40) (fun d hd' => hd d (List.mem_of_mem_take hd')) 40 (by omega))) X h
  have HFW : Hid (Few 40 (sgn ng (Num.le 256 (l.take 40).reverse))) := Lib.hid (few_of ng (l.take 40) (fun d hd' => hd d (List.mem_of_mem_take hd')) 40 (by omega))
  have c1 := b1.cell 1
  have c2 := b1.cell 2
  have l1 := b1.lt
  have l2 := b2.lt
  have KEEP : Hid (∀ X : World, Kept W X → X.cell? ⟨w.heap.size, 1, none⟩ = some (.bool ng) ∧ X.cell? ⟨w.heap.size, 2, none⟩ = some (.slice A l.length c)) := Lib.hid fun X h => ⟨(h.cell l1).trans c1, (h.cell l1).trans c2⟩
  have KEEP2 : Hid (∀ (X : World) (cs : Array Value), Kept W X → (X.setRow (w.heap.size + 1) cs).cell? ⟨w.heap.size, 1, none⟩ = some (.bool ng) ∧ (X.setRow (w.heap.size + 1) cs).cell? ⟨w.heap.size, 2, none⟩ = some (.slice A l.length c)) := Lib.hid fun X cs h =>
    ⟨(cell_setRow_other _ _ _ _ (by simp)).trans (KEEP.out X h).1, (cell_setRow_other _ _ _ _ (by simp)).trans (KEEP.out X h).2⟩
  generalize sgn ng (Num.le 256 (l.take 40).reverse) = z at *
  have HK0 := Lib.hid hk0
  have HB2 := Lib.hid b2
  have HLT := Lib.hid l2
  clear hs hd hq hq1 hq2 hqc hk0 b1 b2 c1 c2 l1 l2
  rcases knd_ways hk with ⟨hD, _, _, e⟩ | ⟨hD, _, e⟩ | ⟨hD, e⟩ <;> clear hk
  all_goals
    have hD' := hD
    subst hW
    go_enter Tryz.func14, Tryz.ntmps14
    go_wp2_with fail
    generalize ((w.alloc (.cells #[.int .i64 x, .bool ng, .slice A l.length c, .int .u64 (bits : Int), .string t, .slice K kn kc] 33)).alloc (.cells #[.int .i64 0, .bool false, .slice none 0 0, .int .u64 0, .string ⟨#[]⟩, .slice none 0 0] 33)) = W at *
    go_region_held3 (fun X : World => X.cell? ⟨w.heap.size, 1, none⟩ = some (.bool ng) ∧ X.cell? ⟨w.heap.size, 2, none⟩ = some (.slice A l.length c))
      (first
        | exact KEEP2.out _ _ hk5
        | exact KEEP.out _ (by go_grown))
      (first
        | (go_at_call 22
           (with_reducible refine Calls.mono (HOF.out _ ?_) ?_)
           · go_grown
           rintro e w4 ⟨v4, rfl, hv4, hk4'⟩
           have hk4 : Kept W w4 := Below.trans (by go_grown) (hk4'.mono (by go_size))
           have hz4 := hk4.size
           have HV4 := Lib.hid hv4.toSI
           obtain ⟨b4, A4, n4, c4', rfl⟩ := hv4.two
           clear hv4 hk4')
        | (go_at_call 21
           (with_reducible refine Calls.mono (HIV.out _ b4 A4 n4 c4' ?_) ?_)
           · exact HV4.out.below (by go_grown)
           rintro e w5 ⟨v5, rfl, hv5, hk5'⟩
           have hk5 : Kept W w5 := Below.trans (by go_grown) (hk5'.mono (by go_size))
           have HV5 := Lib.hid (hv5.mono (B' := W.heap.size) (by go_size))
           obtain ⟨A5, c5, l5, rfl, _, _, _⟩ := hv5
           have HB3 := Lib.hid (HB2.out.below hk5)
           have hst := run_storeVar_row (P := Tryz.prog) w5 (w.heap.size + 1) 33 33 _ #[.int .i64 2, .bool (decide (z < 0)), .slice A5 l5.length c5, .int .u64 0, .string ⟨#[]⟩, .slice none 0 0] HB3.out info_Vl rfl (by simp [Value.oneCell'])
           clear hk5'
           simp [go_sem] at hst))
    go_wp2_with fail
    refine bodyPost_blk (cs := #[.int .i64 2, .bool (decide (z < 0)), .slice A5 l5.length c5, .int .u64 0, .string ⟨#[]⟩, .slice none 0 0]) rfl rfl (setRow_heap _ _ _ _ _ _ HB3.out) Tryz.underlying33 rfl (by exact info_Vl) rfl ?_
    have hz := HK0.out.size
    exact ⟨⟨_, rfl, ((Flat.int HV5.out HFW.out).setRow HLT.out _).lower hz⟩, below_setRow (Kept.trans HK0.out hk5) (by omega) _⟩
end Go.Proofs.YtoociokhldakbaaGreat
