/- The integers of the laws as both sides have them. -/
import Derived.Test.YtnheiigdgklbcaaIc
namespace Go.Proofs.Ytnheiigdgklbcaa
open Go.ChangeShapes Go.WideShapes Go.ChangeAt Go.RowKit
set_option linter.unusedVariables false
/-- as 'VI', the digits in a block from B on -/
def VIf (B : Nat) (w : World) (v : Value) (z : Int) : Prop :=
  ∃ A c l, v = .agg #[.int .i64 2, .bool (decide (z < 0)), .slice A l.length c, .int .u64 0, .string ⟨#[]⟩, .slice none 0 0] ∧ Sl w A c (by8 l) ∧ BE l z.natAbs ∧ Fz B A
theorem VIf.toVI {B : Nat} {w : World} {v : Value} {z : Int} (h : VIf B w v z) : VI w v z := by
  obtain ⟨A, c, l, e, hs, hl, _⟩ := h
  exact ⟨A, c, l, e, hs, hl⟩
theorem VIf.below {B : Nat} {w w' : World} {v : Value} {z : Int} (h : VIf B w v z) (hb : Kept w w') : VIf B w' v z := by
  obtain ⟨A, c, l, e, hs, hl, hf⟩ := h
  exact ⟨A, c, l, e, hs.below hb, hl, hf⟩
theorem VIf.mono {B B' : Nat} {w : World} {v : Value} {z : Int} (h : VIf B w v z) (hB : B' ≤ B) : VIf B' w v z := by
  obtain ⟨A, c, l, e, hs, hl, hf⟩ := h
  exact ⟨A, c, l, e, hs, hl, hf.mono hB⟩
theorem VIf.setRow {B : Nat} {w : World} {v : Value} {z : Int} (h : VIf B w v z) {k : Nat} (hk : k < B) (cs : Array Value) : VIf B (w.setRow k cs) v z := by
  obtain ⟨A, c, l, e, hs, hl, hf⟩ := h
  exact ⟨A, c, l, e, hs.setRow hf hk cs, hl, hf⟩
def RetVI (w : World) (z : Int) (e : Ending) (w' : World) : Prop := ∃ v, e = .returned v ∧ VIf w.heap.size w' v z ∧ Kept w w'
theorem own_slice {w : World} {B e n : Nat} {v : Value} {xs : List Value} (h : w.ownsRow B e 1 v n xs) : ∃ A c, v = .slice A n c := by
  rcases h.2 with ⟨e1, e2⟩ | ⟨g, cap, cur, e1, _⟩
  · subst e2; exact ⟨_, _, e1⟩
  · exact ⟨_, _, e1⟩
theorem info_Val : (Try.prog.info? 28).map (·.size) = some 6 := by kernel_rfl

set_option maxRecDepth 100000 in
set_option maxHeartbeats 1000000 in
theorem told_any (v : Value) (z : Int) (hz : z.natAbs < Num.Cap) (w : World) (hv : SI w v z) :
    Calls Try.prog 9 #[v] w (RetVI w z) := by
  obtain ⟨A, c, l, rfl, hs, hl⟩ := hv
  obtain ⟨i0, hi0, hz0, hz1, hz2⟩ := info_parts info8
  have hlen := hl.len hz
  have W1 := (Below.refl w.heap.size w).alloc (Nat.le_refl _) (.cells #[.bool (decide (z < 0)), .slice A l.length c] 24)
  have W2 := W1.alloc (by simp) (.cells #[.int .i64 0, .bool false, .slice none 0 0, .int .u64 0, .string ⟨#[]⟩, .slice none 0 0] 28)
  have b1 : Blk ((w.alloc (.cells #[.bool (decide (z < 0)), .slice A l.length c] 24)).alloc (.cells #[.int .i64 0, .bool false, .slice none 0 0, .int .u64 0, .string ⟨#[]⟩, .slice none 0 0] 28)) w.heap.size 24 #[.bool (decide (z < 0)), .slice A l.length c] :=
    (Blk.new w _ _).below ((Below.refl _ _).alloc (Nat.le_refl _) _)
  have b2 : Blk ((w.alloc (.cells #[.bool (decide (z < 0)), .slice A l.length c] 24)).alloc (.cells #[.int .i64 0, .bool false, .slice none 0 0, .int .u64 0, .string ⟨#[]⟩, .slice none 0 0] 28)) (w.heap.size + 1) 28 #[.int .i64 0, .bool false, .slice none 0 0, .int .u64 0, .string ⟨#[]⟩, .slice none 0 0] := by
    have := Blk.new (w.alloc (.cells #[.bool (decide (z < 0)), .slice A l.length c] 24)) 28 #[.int .i64 0, .bool false, .slice none 0 0, .int .u64 0, .string ⟨#[]⟩, .slice none 0 0]
    rwa [World.size_alloc] at this
  go_enter Try.func9, Try.ntmps9
  go_wp2_with fail
  have c1 : ((w.alloc (.cells #[.bool (decide (z < 0)), .slice A l.length c] 24)).alloc (.cells #[.int .i64 0, .bool false, .slice none 0 0, .int .u64 0, .string ⟨#[]⟩, .slice none 0 0] 28)).cell? ⟨w.heap.size, 0, none⟩ = some (.bool (decide (z < 0))) := b1.cell 0
  have c2 : ((w.alloc (.cells #[.bool (decide (z < 0)), .slice A l.length c] 24)).alloc (.cells #[.int .i64 0, .bool false, .slice none 0 0, .int .u64 0, .string ⟨#[]⟩, .slice none 0 0] 28)).cell? ⟨w.heap.size, 1, none⟩ = some (.slice A l.length c) := b1.cell 1
  have hsz : ((w.alloc (.cells #[.bool (decide (z < 0)), .slice A l.length c] 24)).alloc (.cells #[.int .i64 0, .bool false, .slice none 0 0, .int .u64 0, .string ⟨#[]⟩, .slice none 0 0] 28)).heap.size = w.heap.size + 1 + 1 := by simp
  generalize ((w.alloc (.cells #[.bool (decide (z < 0)), .slice A l.length c] 24)).alloc (.cells #[.int .i64 0, .bool false, .slice none 0 0, .int .u64 0, .string ⟨#[]⟩, .slice none 0 0] 28)) = W at *
  have hown : (W.alloc (.cells #[] 5)).drew.ownsRow (w.heap.size + 1 + 1) 5 1 (.slice (some ⟨w.heap.size + 1 + 1, 0, none⟩) 0 0) 0 [] := by
    rw [← hsz]
    exact World.ownsRow_lit W #[] 0 (Nat.le_refl _) (Nat.zero_le _) rfl
  have hs' : Sl (W.alloc (.cells #[] 5)).drew A c (by8 l) := (hs.below W2).below (Below.drew ((Below.refl _ _).alloc (Nat.le_refl _) _))
  have l1 : w.heap.size < W.heap.size := by omega
  have l2 : w.heap.size + 1 < W.heap.size := by omega
  have d1 : (W.alloc (.cells #[] 5)).drew.cell? ⟨w.heap.size, 0, none⟩ = some (.bool (decide (z < 0))) := (World.cell?_of_block (heap_alloc_old W _ l1)).trans c1
  have d2 : (W.alloc (.cells #[] 5)).drew.cell? ⟨w.heap.size, 1, none⟩ = some (.slice A l.length c) := (World.cell?_of_block (heap_alloc_old W _ l1)).trans c2
  have b2' : (W.alloc (.cells #[] 5)).drew.heap[w.heap.size + 1]? = some (.cells #[.int .i64 0, .bool false, .slice none 0 0, .int .u64 0, .string ⟨#[]⟩, .slice none 0 0] 28 (0, 0)) := (heap_alloc_old W _ l2).trans b2
  go_region_held3 (fun X : World => X.cell? ⟨w.heap.size, 0, none⟩ = some (.bool (decide (z < 0))) ∧ X.cell? ⟨w.heap.size, 1, none⟩ = some (.slice A l.length c))
    (first
      | exact ⟨c1, c2⟩
      | exact ⟨d1, d2⟩
      | exact ⟨e1, e2⟩
      | exact ⟨(cell_setRow_other _ _ _ _ (by simp)).trans e1, (cell_setRow_other _ _ _ _ (by simp)).trans e2⟩)
    (first
      | (
          refine step_append_sl rfl (.tmp 5) (.tmp 7) 22 rfl (w.heap.size + 1 + 1) 5 i0 _ _ Try.underlying22 hi0 hz0 hz1 hz2 rfl _ 0 [] rfl hown A l.length c (by8 l) rfl (by8_len l) hs' (by8_one l) (by unfold maxLen; omega) (by omega) (by show _ ≤ (W.alloc (.cells #[] 5)).heap.size; simp only [World.size_alloc]; omega) ?_
          intro v' w' h2 h3
          rw [Nat.zero_add, List.nil_append] at h2
          obtain ⟨A1, k1, rfl⟩ := own_slice h2
          have e1 : w'.cell? ⟨w.heap.size, 0, none⟩ = some (.bool (decide (z < 0))) := h3.cell d1 (by simp only [Value.ownBlock]; intro h; injection h with h; simp only at h; omega)
          have e2 : w'.cell? ⟨w.heap.size, 1, none⟩ = some (.slice A l.length c) := h3.cell d2 (by simp only [Value.ownBlock]; intro h; injection h with h; simp only at h; omega)
          have B2 : Blk w' (w.heap.size + 1) 28 #[.int .i64 0, .bool false, .slice none 0 0, .int .u64 0, .string ⟨#[]⟩, .slice none 0 0] := (h3.block _ (by show _ < (W.alloc (.cells #[] 5)).heap.size; simp only [World.size_alloc]; omega) (by simp only [Value.ownBlock]; intro h; injection h with h; simp only at h; omega)).trans b2'
          have hst := run_storeVar_row (P := Try.prog) w' (w.heap.size + 1) 28 28 _ #[.int .i64 2, .bool (decide (z < 0)), .slice A1 l.length k1, .int .u64 0, .string ⟨#[]⟩, .slice none 0 0] B2 info_Val rfl (by simp [Value.oneCell'])
          simp [go_sem] at hst)
      | fail)
  go_wp2_with fail
  refine bodyPost_blk (cs := #[.int .i64 2, .bool (decide (z < 0)), .slice A1 l.length k1, .int .u64 0, .string ⟨#[]⟩, .slice none 0 0]) rfl rfl (setRow_heap _ _ _ _ _ _ B2) Try.underlying28 rfl (by exact info_Val) rfl ?_
  have hsl := Sl.of_own h2
  have hfz : Fz (w.heap.size + 1 + 1) A1 := fun b off e => (h2.lt b (by rw [e]; rfl)).1
  have hkw : Kept w w' := by
    refine Below.grown (w := (W.alloc (.cells #[] 5)).drew) (W2.drew.alloc ?_ _) h3 ?_ ?_
    · show w.heap.size ≤ W.heap.size; omega
    · show _ ≤ (W.alloc (.cells #[] 5)).heap.size; simp only [World.size_alloc]; omega
    · intro k e; cases e; simp only; omega
  refine ⟨_, rfl, ⟨A1, k1, l, rfl, ?_, hl, hfz.mono (by omega)⟩, below_setRow hkw (by omega) _⟩
  exact hsl.1.setRow hfz (by omega) _
theorem results_cell_cell {fn : Func} {p q : Tmp} {ty ty' : TypeId} (h : fn.results = #[.cell p ty, .cell q ty']) (P : Program) (tmps : Array Value) (w : World) (g g' : Nat) (t t' : TypeId) (cs cs' : Array Value) (fr fr' : Nat × Nat) (d d' : Array Field)
    (hp : tmps.getD p undef = .pointer (some ⟨g, 0, none⟩)) (hg : w.heap[g]? = some (.cells cs t fr))
    (hu : P.underlying ty = some (.struct d)) (hi : (P.info? ty).map (·.size) = some cs.size)
    (hp' : tmps.getD q undef = .pointer (some ⟨g', 0, none⟩)) (hg' : w.heap[g']? = some (.cells cs' t' fr'))
    (hu' : P.underlying ty' = some (.struct d')) (hi' : (P.info? ty').map (·.size) = some cs'.size) :
    (results fn tmps).run P w = .ok (.tuple #[.agg cs, .agg cs']) w := by
  have e : tmps[p]?.getD undef = .pointer (some ⟨g, 0, none⟩) := by simpa using hp
  have e' : tmps[q]?.getD undef = .pointer (some ⟨g', 0, none⟩) := by simpa using hp'
  simp [results, h, e, e', asAddr, run_loadVar_row w g t ty cs fr _ hg hu rfl hi, run_loadVar_row w g' t' ty' cs' fr' _ hg' hu' rfl hi']
/-- two structs that are handed back, each out of a block of its own -/
theorem bodyPost_blk2 {P : Program} {fn : Func} {R : Ending → World → Prop} {a : Act} {w : World} {p q : Tmp} {ty ty' : TypeId} {g g' : Nat} {t t' : TypeId} {cs cs' : Array Value} {fr fr' : Nat × Nat} {d d' : Array Field} (h : fn.results = #[.cell p ty, .cell q ty'])
    (hp : a.tmps.getD p undef = .pointer (some ⟨g, 0, none⟩)) (hg : w.heap[g]? = some (.cells cs t fr)) (hu : P.underlying ty = some (.struct d)) (hi : (P.info? ty).map (·.size) = some cs.size)
    (hp' : a.tmps.getD q undef = .pointer (some ⟨g', 0, none⟩)) (hg' : w.heap[g']? = some (.cells cs' t' fr')) (hu' : P.underlying ty' = some (.struct d')) (hi' : (P.info? ty').map (·.size) = some cs'.size)
    (hdf : a.defers = []) (hR : R (.returned (.tuple #[.agg cs, .agg cs'])) w) : bodyPost P fn R .ret a w :=
  bodyPost_ret (results_cell_cell h P _ w g g' t t' cs cs' fr fr' d d' hp hg hu hi hp' hg' hu' hi') hdf hR
theorem run_to8 (A : Option Addr) (n c k : Nat) (hk : k ≤ c) (wx : World) :
    (Instr.slice 22 (.slice A n c) none (some (.int .i64 (k : Int))) none).run Try.prog wx = .ok (.slice A k c) wx := by
  have h1 : (k : Int) ≤ (c : Int) := by omega
  have h2 : (0 : Int) ≤ (k : Int) := by omega
  by_cases hc : c = 0
  · subst hc
    obtain rfl : k = 0 := by omega
    simp [go_sem, Try.underlying22]
  · simp [go_sem, Try.underlying22, h1, h2]
/-- as laws.whole hands them back: the reference's integer, the package's -/
def RetWhole (w : World) (z : Int) (e : Ending) (w' : World) : Prop := ∃ v1 v2, e = .returned (.tuple #[v1, v2]) ∧ SIf w.heap.size w' v1 z ∧ VIf w.heap.size w' v2 z ∧ Kept w w'
/-- the integer that a law makes of its bytes -/
def zof (b : Bool) (l : List Nat) (most : Nat) : Int := sgn b (Num.le 256 (l.take (min l.length most)).reverse)
theorem zof_cap (b : Bool) (l : List Nat) (most : Nat) (hd : ∀ d ∈ l, d < 256) (hm : most ≤ 4096) : (zof b l most).natAbs < Num.Cap := by
  have h1 := Num.le_lt 256 (by omega) (l.take (min l.length most)).reverse (fun d h => hd d (List.mem_of_mem_take (List.mem_reverse.1 h)))
  have h0 : (l.take (min l.length most)).reverse.length ≤ Num.capK := by
    show _ ≤ 4096
    rw [List.length_reverse, List.length_take]
    omega
  have h2 : 256 ^ (l.take (min l.length most)).reverse.length ≤ Num.Cap := Nat.pow_le_pow_right (by omega) h0
  have h3 : (zof b l most).natAbs = Num.le 256 (l.take (min l.length most)).reverse := by unfold zof sgn; split <;> simp
  rw [h3]
  omega
set_option maxRecDepth 100000 in
set_option maxHeartbeats 1000000 in
theorem whole2_any (b : Bool) (A : Option Addr) (c : Nat) (l : List Nat) (most : Nat) (hl : l.length ≤ 2147483647) (hm : most ≤ 4096) (hd : ∀ d ∈ l, d < 256) (w : World) (hs : Sl w A c (by8 l)) :
    Calls Try.prog 4 #[.bool b, .slice A l.length c, .int .i64 (most : Int)] w (RetWhole w (zof b l most)) := by
  have hcap := hs.cap
  rw [by8_len] at hcap
  have hrun := run_to8 A l.length c (min l.length most) (by omega)
  have hmin : min (l.length : Int) (most : Int) = ((min l.length most : Nat) : Int) := by omega
  have hmin2 : (if (most : Int) < (l.length : Int) then (most : Int) else (l.length : Int)) = ((min l.length most : Nat) : Int) := by split <;> omega
  have hmin3 : (if (l.length : Int) ≤ (most : Int) then (l.length : Int) else (most : Int)) = ((min l.length most : Nat) : Int) := by split <;> omega
  go_enter Try.func4, Try.ntmps4
  go_wp2_with fail
  have W1 := ((Below.refl w.heap.size w).alloc (Nat.le_refl _) (.cells #[.bool false, .slice none 0 0] 24)).alloc (by simp) (.cells #[.int .i64 0, .bool false, .slice none 0 0, .int .u64 0, .string ⟨#[]⟩, .slice none 0 0] 28)
  have hlk : (l.take (min l.length most)).length = min l.length most := by rw [List.length_take]; omega
  have hs1 : Sl w A c (by8 (l.take (min l.length most))) := by
    have := hs.take (min l.length most)
    rwa [by8, ← List.map_take] at this
  have hOf := Of_any b A c (l.take (min l.length most)) (by omega) (fun d h => hd d (List.mem_of_mem_take h)) _ (hs1.below W1)
  rw [hlk] at hOf
  refine hOf.mono ?_
  rintro e w1 ⟨v, rfl, hv, hk1⟩
  have hw1 : Below w.heap.size w w1 := W1.trans (hk1.mono (by simp only [World.size_alloc]; omega))
  have k1 : Blk w1 w.heap.size 24 #[.bool false, .slice none 0 0] := ((Blk.new w 24 #[.bool false, .slice none 0 0]).below ((Below.refl _ _).alloc (Nat.le_refl _) (.cells #[.int .i64 0, .bool false, .slice none 0 0, .int .u64 0, .string ⟨#[]⟩, .slice none 0 0] 28))).below hk1
  have k2 : Blk w1 (w.heap.size + 1) 28 #[.int .i64 0, .bool false, .slice none 0 0, .int .u64 0, .string ⟨#[]⟩, .slice none 0 0] := by
    have := (Blk.new (w.alloc (.cells #[.bool false, .slice none 0 0] 24)) 28 #[.int .i64 0, .bool false, .slice none 0 0, .int .u64 0, .string ⟨#[]⟩, .slice none 0 0]).below hk1
    rwa [World.size_alloc] at this
  have hs1z := k2.lt
  have hvm := hv.mono (show w.heap.size + 1 + 1 ≤ _ by simp only [World.size_alloc]; omega)
  obtain ⟨b1, A1, n1, c1, rfl⟩ := hv.two
  have hzc := zof_cap b l most hd hm
  have hvv : SIf (w.heap.size + 1 + 1) w1 (.agg #[.bool b1, .slice A1 n1 c1]) (zof b l most) := hvm
  clear hv hvm hk1 W1 hOf hs1 hs hmin hmin2 hmin3 hrun hlk hcap
  generalize zof b l most = z at *
  have K1 := Lib.hid k1
  have K2 := Lib.hid k2
  clear k1 k2
  have HV := Lib.hid hvv
  clear hvv
  have c1' : (w1.alloc (.cells #[.bool b1, .slice A1 n1 c1] 24)).cell? ⟨w1.heap.size, 0, none⟩ = some (.bool b1) := (Blk.new w1 _ _).cell 0
  have c2' : (w1.alloc (.cells #[.bool b1, .slice A1 n1 c1] 24)).cell? ⟨w1.heap.size, 1, none⟩ = some (.slice A1 n1 c1) := (Blk.new w1 _ _).cell 1
  go_wp2_with fail
  have W2 : Below w.heap.size w (w1.alloc (.cells #[.bool b1, .slice A1 n1 c1] 24)) := hw1.alloc hw1.size _
  have hsz : (w1.alloc (.cells #[.bool b1, .slice A1 n1 c1] 24)).heap.size = w1.heap.size + 1 := World.size_alloc _ _
  have HV2 : Hid (SIf (w.heap.size + 1 + 1) (w1.alloc (.cells #[.bool b1, .slice A1 n1 c1] 24)) (.agg #[.bool b1, .slice A1 n1 c1]) z) := Lib.hid (HV.out.below ((Below.refl _ _).alloc (Nat.le_refl _) _))
  have K1' : Hid (Blk (w1.alloc (.cells #[.bool b1, .slice A1 n1 c1] 24)) w.heap.size 24 #[.bool false, .slice none 0 0]) := Lib.hid (K1.out.below ((Below.refl _ _).alloc (Nat.le_refl _) _))
  have K2' : Hid (Blk (w1.alloc (.cells #[.bool b1, .slice A1 n1 c1] 24)) (w.heap.size + 1) 28 #[.int .i64 0, .bool false, .slice none 0 0, .int .u64 0, .string ⟨#[]⟩, .slice none 0 0]) := Lib.hid (K2.out.below ((Below.refl _ _).alloc (Nat.le_refl _) _))
  clear HV K1 K2 hw1
  generalize (w1.alloc (.cells #[.bool b1, .slice A1 n1 c1] 24)) = W at *
  go_region_held3 (fun X : World => X.cell? ⟨w1.heap.size, 0, none⟩ = some (.bool b1) ∧ X.cell? ⟨w1.heap.size, 1, none⟩ = some (.slice A1 n1 c1))
    (first
      | exact ⟨c1', c2'⟩
      | exact ⟨e1, e2⟩
      | exact ⟨(cell_setRow_other _ _ _ _ (by simp only; omega)).trans e1, (cell_setRow_other _ _ _ _ (by simp only; omega)).trans e2⟩
      | exact ⟨(cell_setRow_other _ _ _ _ (by simp only; omega)).trans ((cell_setRow_other _ _ _ _ (by simp only; omega)).trans e1), (cell_setRow_other _ _ _ _ (by simp only; omega)).trans ((cell_setRow_other _ _ _ _ (by simp only; omega)).trans e2)⟩)
    ((
          go_at_call 9
          refine (told_any _ z hzc W.drew (HV2.out.below (Below.drew (Below.refl _ _))).toSI).mono ?_
          rintro e w3 ⟨v2, rfl, hv2, hk2⟩
          have e1 : w3.cell? ⟨w1.heap.size, 0, none⟩ = some (.bool b1) := (hk2.cell (p := ⟨w1.heap.size, 0, none⟩) (by show w1.heap.size < W.heap.size; omega)).trans c1'
          have e2 : w3.cell? ⟨w1.heap.size, 1, none⟩ = some (.slice A1 n1 c1) := (hk2.cell (p := ⟨w1.heap.size, 1, none⟩) (by show w1.heap.size < W.heap.size; omega)).trans c2'
          have B1 : Blk w3 w.heap.size 24 #[.bool false, .slice none 0 0] := Blk.below (w := W.drew) K1'.out hk2
          have B2 : Blk w3 (w.heap.size + 1) 28 #[.int .i64 0, .bool false, .slice none 0 0, .int .u64 0, .string ⟨#[]⟩, .slice none 0 0] := Blk.below (w := W.drew) K2'.out hk2
          obtain ⟨A2, k2, l2, rfl, q1, q2, q3⟩ := hv2
          have Q1 := Lib.hid q1
          have Q2 := Lib.hid q2
          have Q3 := Lib.hid q3
          clear q1 q2 q3
          have HB1 := Lib.hid B1
          have HB2 := Lib.hid B2
          have hst := run_storeVar_row (P := Try.prog) w3 w.heap.size 24 24 _ #[.bool b1, .slice A1 n1 c1] B1 info_SI rfl (by simp [Value.oneCell'])
          have hst2 := run_storeVar_row (P := Try.prog) (w3.setRow w.heap.size #[.bool b1, .slice A1 n1 c1]) (w.heap.size + 1) 28 28 _ #[.int .i64 2, .bool (decide (z < 0)), .slice A2 l2.length k2, .int .u64 0, .string ⟨#[]⟩, .slice none 0 0] ((setRow_other _ _ _ _ (by omega)).trans B2) info_Val rfl (by simp [Value.oneCell'])
          clear B1 B2
          simp [go_sem] at hst hst2))
  go_wp2_with fail
  refine bodyPost_blk2 (cs := #[.bool b1, .slice A1 n1 c1]) (cs' := #[.int .i64 2, .bool (decide (z < 0)), .slice A2 l2.length k2, .int .u64 0, .string ⟨#[]⟩, .slice none 0 0]) rfl rfl
    ((setRow_other _ _ _ _ (by omega)).trans (setRow_heap _ _ _ _ _ _ HB1.out)) Try.underlying24 (by exact info_SI) rfl (setRow_heap _ _ _ _ _ _ ((setRow_other _ _ _ _ (by omega)).trans HB2.out)) Try.underlying28 (by exact info_Val) rfl ?_
  have hW : W.drew.heap.size = w1.heap.size + 1 := hsz
  refine ⟨_, _, rfl, ?_, ⟨A2, k2, l2, rfl, ((Q1.out).setRow Q3.out (by omega) _).setRow Q3.out (by omega) _, Q2.out, Q3.out.mono (by omega)⟩, below_setRow (below_setRow ?_ (by omega) _) (by omega) _⟩
  · exact (((((HV2.out).below (w' := W.drew) (Below.drew (Below.refl _ _))).below hk2).setRow (by omega) _).setRow (by omega) _).mono (by omega)
  · exact Below.trans (W2.drew) (hk2.mono (by omega))
set_option maxRecDepth 100000 in
theorem get_any (x : Int) (p : Option Addr) (w : World) :
    Calls Try.prog 28 #[.agg #[.int .i64 x, .pointer p]] w fun e w' => e = .returned (.tuple #[.int .i64 x, .pointer p]) ∧ Kept w w' := by
  go_enter Try.func28, Try.ntmps28
  go_wp2_with fail
  go_quiet (fail)
  go_wp2_with fail
  go_ret2
  exact ⟨rfl, ((Below.refl _ _).alloc (Nat.le_refl _) _).trans ⟨rfl, rfl, rfl, Nat.le_refl _, fun _ _ => rfl⟩⟩
/-- bytes that came in as a row read as a slice of bytes -/
theorem row_sl {w : World} {a : Option Addr} {len cap : Nat} {zs : List Int}
    (h : (a = none ∧ len = 0 ∧ cap = 0 ∧ zs = []) ∨
      ∃ x, a = some x ∧ len ≤ cap ∧ cap ≤ maxLen ∧ zs.length = cap ∧ (∀ i, i < zs.length → w.cell? (x.add i) = some (.int .u8 (zs.getD i 0))) ∧ ∀ n ∈ zs, (Lit.int .u8 n).wf = true) :
    ∃ l : List Nat, len = l.length ∧ Sl w a cap (by8 l) ∧ (∀ d ∈ l, d < 256) := by
  rcases h with ⟨rfl, rfl, rfl, rfl⟩ | ⟨x, rfl, h1, h2, h3, h4, h5⟩
  · exact ⟨[], rfl, Sl.nil w, by simp⟩
  · have hb : ∀ n ∈ zs, 0 ≤ n ∧ n < 256 := fun n hn => by
      have := h5 n hn
      simp [Lit.wf, IntKind.min, IntKind.max, IntKind.signed, IntKind.bits] at this
      omega
    refine ⟨(zs.take len).map Int.toNat, by simp; omega, ⟨by rw [by8_len]; simp; omega, h2, fun hx => ?_⟩, ?_⟩
    · have hne : 0 < zs.length := by
        rcases Nat.eq_zero_or_pos zs.length with h0 | h0
        · exact absurd (by rw [List.eq_nil_of_length_eq_zero h0]; simp [by8]) hx
        · exact h0
      have hspot := World.cell?_spot (h4 0 hne)
      obtain ⟨b, off, spot⟩ := x
      have hsp : spot = none := by simpa [Addr.add] using hspot
      subst hsp
      refine ⟨b, off, rfl, fun j u hu => ?_⟩
      have hj : j < zs.length ∧ j < len := by
        have := (List.getElem?_eq_some_iff.1 hu).1
        rw [by8_len] at this
        simp at this
        omega
      have hg := h4 j hj.1
      have e : (⟨b, off, none⟩ : Addr).add j = ⟨b, off + j, none⟩ := by by_cases h0 : j = 0 <;> simp [Addr.add, h0]
      rw [e] at hg
      rw [hg]
      rw [by8_get _ _ (by simp; omega)] at hu
      simp only [List.getElem_map, List.getElem_take] at hu
      have hm := hb _ (List.getElem_mem hj.1)
      rw [← hu, List.getD_eq_getElem?_getD, List.getElem?_eq_getElem hj.1, Option.getD_some]
      congr 2
      omega
    · intro d hd
      obtain ⟨n, hn, rfl⟩ := List.mem_map.1 hd
      have := hb n (List.mem_of_mem_take hn)
      omega
end Go.Proofs.Ytnheiigdgklbcaa
