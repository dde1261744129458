/- The sizes of the given graph; the law's pokes; the law's loops, over its frame -/
import Derived.Test.YtoociokhldakbaaGreatOT
import Derived.OwnWalk
import Derived.Deep.DeepMust
import Derived.Deep.AppendLies
import Derived.Deep.RegionHeld3
import Derived.Orders
namespace Go.Proofs.YtoociokhldakbaaGreat
open Go.ChangeShapes Go.WideShapes Go.ChangeAt Go.RowKit
set_option linter.unusedVariables false
/-- a node of the graph that was given -/
def NIn (w : World) (GA : Option Addr) (i : Nat) : Prop := ∃ g o v, GA = some ⟨g, o, none⟩ ∧ At6 w g o i v ∧ RN (fun _ => True) i (fun _ => True) w v
theorem NIn.below {w w' : World} {GA : Option Addr} {i : Nat} (h : NIn w GA i) (hk : Kept w w') : NIn w' GA i := by
  obtain ⟨g, o, v, e, h1, h2⟩ := h
  exact ⟨g, o, v, e, h1.below hk, h2.below hk⟩
set_option maxRecDepth 100000 in
theorem zzFits10_any (x : Int) (ng : Bool) (A KA : Option Addr) (ln c zn kc : Nat) (q : Value) (t : ByteArray) (w : World) : Calls Tryz.prog 18 #[.agg #[.int .i64 x, .bool ng, .slice A ln c, q, .string t, .slice KA zn kc]] w fun e w' => AnsB e ∧ Kept w w' := by
  have hk : Kept w (w.alloc (.cells #[.int .i64 x, .bool ng, .slice A ln c, q, .string t, .slice KA zn kc] 45)) := (Below.refl _ _).alloc (Nat.le_refl _) _
  have HK := Lib.hid hk
  clear hk
  by_cases h1 : (ln : Int) ≤ 2147483647
  · have h1' : ¬ (2147483647 : Int) < (ln : Int) := by omega
    by_cases h2 : (t.size : Int) ≤ 2147483647
    · have h2' : ¬ (2147483647 : Int) < (t.size : Int) := by omega
      by_cases h3 : (zn : Int) ≤ 2147483647
      · have h3' : ¬ (2147483647 : Int) < (zn : Int) := by omega
        go_enter Tryz.func18, Tryz.ntmps18
        go_wp2_with fail
        go_ret
        exact ⟨⟨_, rfl⟩, HK.out⟩
      · have h3' : (2147483647 : Int) < (zn : Int) := by omega
        go_enter Tryz.func18, Tryz.ntmps18
        go_wp2_with fail
        go_ret
        exact ⟨⟨_, rfl⟩, HK.out⟩
    · have h2' : (2147483647 : Int) < (t.size : Int) := by omega
      go_enter Tryz.func18, Tryz.ntmps18
      go_wp2_with fail
      go_ret
      exact ⟨⟨_, rfl⟩, HK.out⟩
  · have h1' : (2147483647 : Int) < (ln : Int) := by omega
    go_enter Tryz.func18, Tryz.ntmps18
    go_wp2_with fail
    go_ret
    exact ⟨⟨_, rfl⟩, HK.out⟩
set_option maxRecDepth 100000 in
set_option maxHeartbeats 2000000 in
theorem zzFits9_any (GA : Option Addr) (n0 gc : Nat) (hn0 : n0 ≤ 9223372036854775807) (w : World) (hg : ∀ i, i < n0 → NIn w GA i) : Calls Tryz.prog 10 #[.slice GA n0 gc] w fun e w' => AnsB e ∧ Kept w w' := by
  have HX := Lib.hid hg
  have hnI : (n0 : Int) ≤ 9223372036854775807 := by omega
  clear hg
  by_cases h1 : (n0 : Int) ≤ 2147483647
  · have h1' : ¬ (2147483647 : Int) < (n0 : Int) := by omega
    go_enter Tryz.func10, Tryz.ntmps10
    go_wp2_with fail
    go_loopw [10] (fun iv wr => ∃ i : Nat, iv = .int .i64 (i : Int) ∧ i ≤ n0 ∧ Kept w wr) (fun iv _ => n0 - (intOf iv).toNat)
    case atStart => exact ⟨0, rfl, by omega, Below.refl _ _⟩
    case round =>
      obtain ⟨i, rfl, hi, hkW⟩ := hrel
      have HKW := Lib.hid hkW
      have i0' : (0 : Int) ≤ (i : Int) := by omega
      by_cases hlt : i < n0
      · obtain ⟨g, o, v, rfl, ha, x, ng, A, c, l, bits, t, KA, kc, zs, rfl, _⟩ := (HX.out i hlt).below HKW.out
        obtain ⟨u0, u1, u2, u3, u4, u5, e, a0, a1, a2, a3, a4, a5⟩ := ha
        injection e with e; injection e with e
        injection e with e0 e; injection e with e1 e; injection e with e2 e; injection e with e3 e; injection e with e4 e; injection e with e5 _
        subst e0 e1 e2 e3 e4 e5
        have i1 : (i : Int) < (n0 : Int) := by omega
        have HLT := Lib.hid hlt
        have hka : Kept wr (wr.alloc (.cells #[.int .i64 x, .bool ng, .slice A l.length c, .int .u64 (bits : Int), .string t, .slice KA zs.length kc] 45)) := (Below.refl _ _).alloc (Nat.le_refl _) _
        have HKA := Lib.hid (HKW.out.trans hka)
        clear hka hkW hlt hi
        go_wp2_with fail
        refine (zzFits10_any x ng A KA l.length c zs.length kc _ t _).mono ?_
        rintro e w1 ⟨⟨r, rfl⟩, hk1⟩
        have HK1 := Lib.hid (HKA.out.trans hk1)
        clear hk1 a0 a1 a2 a3 a4 a5
        cases r
        · go_wp2_with fail
          go_ret
          exact ⟨⟨_, rfl⟩, HK1.out⟩
        · go_wp2_with fail
          exact ⟨⟨i + 1, by go_num, by have := HLT.out; omega, HK1.out⟩, by have := HLT.out; simp [intOf]; omega⟩
      · have i1 : ¬ (i : Int) < (n0 : Int) := by omega
        clear hkW hlt hi
        go_wp2_with fail
        go_ret
        exact ⟨⟨_, rfl⟩, HKW.out⟩
  · have h1' : (2147483647 : Int) < (n0 : Int) := by omega
    go_enter Tryz.func10, Tryz.ntmps10
    go_wp2_with fail
    go_ret
    exact ⟨⟨_, rfl⟩, Below.refl _ _⟩
set_option maxRecDepth 100000 in
theorem zzFits8_any (GA : Option Addr) (n0 gc : Nat) (root : Int) (hn0 : n0 ≤ 9223372036854775807) (w : World) (hg : ∀ i, i < n0 → NIn w GA i) : Calls Tryz.prog 4 #[.agg #[.slice GA n0 gc, .int .i64 root]] w fun e w' => AnsB e ∧ Kept w w' := by
  have hk : Kept w (w.alloc (.cells #[.slice GA n0 gc, .int .i64 root] 24)) := (Below.refl _ _).alloc (Nat.le_refl _) _
  have C9 := Lib.hid (zzFits9_any GA n0 gc hn0 _ (fun i hi => (hg i hi).below hk))
  have HK := Lib.hid hk
  clear hk hg
  go_enter Tryz.func4, Tryz.ntmps4
  go_wp2_with fail
  refine C9.out.mono ?_
  rintro e w1 ⟨⟨r, rfl⟩, hk1⟩
  have HK1 := Lib.hid (HK.out.trans hk1)
  clear hk1
  cases r
  all_goals
    go_wp2_with fail
    go_ret
    exact ⟨⟨_, rfl⟩, HK1.out⟩
/-- a poke of the law: its node, and a scalar -/
def PS13 (n : Nat) (kk : Nat → Int) (F : Nat → Prop) (w : World) (cs : List Value) : Prop :=
  ∃ (N : Nat) (k : Int) (ng : Bool) (A : Option Addr) (c : Nat) (l : List Nat) (bits : Nat) (t : ByteArray), cs = [.int .i64 (N : Int), .int .i64 k, .bool ng, .slice A l.length c, .int .u64 (bits : Int), .string t, .slice none 0 0, .int .i64 0, .bool false, .slice none 0 0, .int .u64 0, .string ⟨#[]⟩, .slice none 0 0] ∧ N < n ∧ kk N = 6 ∧ 0 ≤ k ∧ k ≤ 5 ∧ (k = 1 → bits ≤ 1) ∧ l.length ≤ 40 ∧ (∀ d, d ∈ l → d < 256) ∧ Sl w A c (by8 l) ∧ (∀ b off, A = some ⟨b, off, none⟩ → by8 l ≠ [] → F b)
theorem PS13.moves (n : Nat) (kk : Nat → Int) : MovesZ (PS13 n kk) := fun F F' w w' cs ⟨N, k, ng, A, c, l, bits, t, e, h1, h2, h3, h4, h5, h6, h7, h8, h9⟩ hF hs =>
  ⟨N, k, ng, A, c, l, bits, t, e, h1, h2, h3, h4, h5, h6, h7, sl_same2 h8 h9 hs, fun b off e hl => hF b (h9 b off e hl) (sl_lt2 h8 hl b off e)⟩
theorem PS13.of {n : Nat} {kk : Nat → Int} {F : Nat → Prop} {w : World} {N : Nat} {k : Int} {v : Value} {B : Nat} (hN : N < n) (hk6 : kk N = 6) (hk : k ≤ 5) (h : Flat B w k v) (hF : ∀ b, B ≤ b → F b) : ∃ a0 a1 a2 a3 a4 a5, v = .agg #[a0, a1, a2, a3, a4, a5] ∧ PS13 n kk F w [.int .i64 (N : Int), a0, a1, a2, a3, a4, a5, .int .i64 0, .bool false, .slice none 0 0, .int .u64 0, .string ⟨#[]⟩, .slice none 0 0] := by
  obtain ⟨ng, A, c, l, bits, t, K, kn, kc, rfl, g1, g2, g3, g4, g5, g6, g7, g8, g9, g10, rfl, rfl, rfl⟩ := h
  exact ⟨_, _, _, _, _, _, rfl, N, k, ng, A, c, l, bits, t, rfl, hN, hk6, g7, hk, g5, g3, g4, g1, fun b off e _ => hF b (g2 b off e)⟩
/-- the pokes as NestedFreeze takes them -/
theorem pk_of {n m : Nat} {kk : Nat → Int} {F : Nat → Prop} {B : Nat} {w : World} {sv : Value} (hm : m ≤ 1000) (h : GrZ (PS13 n kk) 13 35 F B w m sv) :
    ∃ (pa : Option Addr) (pc : Nat) (N : Nat → Nat) (ak : Nat → Int) (ag : Nat → Bool) (am : Nat → List Nat) (ab : Nat → Nat) (tx : Nat → ByteArray), sv = .slice pa m pc ∧ POk n m kk N ak am ab ∧ (0 < m → ∃ pb, pa = some ⟨pb, 0, none⟩ ∧ GPk w pb m (fun i => (N i : Int)) ak ag am ab tx) := by
  obtain ⟨pa, pc, rfl⟩ := h.slice
  by_cases h0 : m = 0
  · subst h0
    exact ⟨pa, pc, fun _ => 0, fun _ => 0, fun _ => false, fun _ => [], fun _ => 0, fun _ => ⟨#[]⟩, rfl, ⟨by omega, fun i hi => absurd hi (by omega), fun i hi => absurd hi (by omega), fun i hi => absurd hi (by omega), fun i hi => absurd hi (by omega)⟩, fun h => absurd h (by omega)⟩
  · obtain ⟨g, c, e, _, _, hv⟩ := h.form (PS13.moves n kk) (by omega)
    have hq : ∀ i : Nat, ∃ p : Nat × Int × Bool × List Nat × Nat × ByteArray, i < m → p.1 < n ∧ kk p.1 = 6 ∧ 0 ≤ p.2.1 ∧ p.2.1 ≤ 5 ∧ (p.2.1 = 1 → p.2.2.2.2.1 ≤ 1) ∧ p.2.2.2.1.length ≤ 40 ∧ (∀ d, d ∈ p.2.2.2.1 → d < 256) ∧ ∃ A c', Sl w A c' (by8 p.2.2.2.1) ∧ ∀ j u, [Value.int .i64 (p.1 : Int), .int .i64 p.2.1, .bool p.2.2.1, .slice A p.2.2.2.1.length c', .int .u64 (p.2.2.2.2.1 : Int), .string p.2.2.2.2.2, .slice none 0 0, .int .i64 0, .bool false, .slice none 0 0, .int .u64 0, .string ⟨#[]⟩, .slice none 0 0][j]? = some u → w.cell? ⟨g, i * 13 + j, none⟩ = some u := fun i => by
      by_cases hi : i < m
      · obtain ⟨cs, hc, N, k, ng, A, c', l, bits, t, rfl, h1, h2, h3, h4, h5, h6, h7, h8, _⟩ := hv i hi
        exact ⟨(N, k, ng, l, bits, t), fun _ => ⟨h1, h2, h3, h4, h5, h6, h7, A, c', h8, hc⟩⟩
      · exact ⟨(0, 0, false, [], 0, ⟨#[]⟩), fun h => absurd h hi⟩
    obtain ⟨f, hf⟩ := Classical.axiomOfChoice hq
    refine ⟨pa, pc, fun i => (f i).1, fun i => (f i).2.1, fun i => (f i).2.2.1, fun i => (f i).2.2.2.1, fun i => (f i).2.2.2.2.1, fun i => (f i).2.2.2.2.2, rfl, ⟨hm, fun i hi => ⟨(hf i hi).1, (hf i hi).2.1⟩, fun i hi => ⟨(hf i hi).2.2.1, (hf i hi).2.2.2.1⟩, fun i hi => (hf i hi).2.2.2.2.1, fun i hi => ⟨(hf i hi).2.2.2.2.2.1, (hf i hi).2.2.2.2.2.2.1⟩⟩, fun _ => ⟨g, ?_, fun i hi => ?_⟩⟩
    · injection e
    · obtain ⟨_, _, _, _, _, _, _, A, c', hs, hc⟩ := hf i hi
      exact ⟨A, c', none, 0, 0, 0, false, none, 0, 0, 0, ⟨#[]⟩, none, 0, 0, by have := hc 0 _ rfl; rwa [Nat.add_zero] at this, hc 1 _ rfl, hc 2 _ rfl, hc 3 _ rfl, hc 4 _ rfl, hc 5 _ rfl, hc 6 _ rfl, hc 7 _ rfl, hc 8 _ rfl, hc 9 _ rfl, hc 10 _ rfl, hc 11 _ rfl, hc 12 _ rfl, hs⟩
theorem GM.kids {w : World} {gb n : Nat} {kk : Nat → Int} {ng : Nat → Bool} {mg : Nat → List Nat} {bt : Nat → Nat} {tx : Nat → ByteArray} {ks : Nat → List Nat} (h : GM w gb n kk ng mg bt tx ks) : KidsAt w gb n ks := fun i hi => by
  obtain ⟨MA, mc, KA, kc, h0, h1, h2, h3, h4, h5, h6, h7⟩ := h i hi
  exact ⟨KA, kc, h5, h7⟩
theorem mem_cut {xs : List Value} {n z : Nat} (hx : xs.length = n * z) (hz : 0 < z) {u : Value} (hu : u ∈ xs) : ∃ i, i < n ∧ u ∈ (xs.drop (i * z)).take z := by
  obtain ⟨j, hj, rfl⟩ := List.getElem_of_mem hu
  have h1 : j / z < n := Nat.div_lt_of_lt_mul (by rw [Nat.mul_comm]; omega)
  refine ⟨j / z, h1, ?_⟩
  have h2 : j % z < z := Nat.mod_lt _ hz
  have h3 : j / z * z + j % z = j := by rw [Nat.mul_comm]; exact Nat.div_add_mod j z
  have h4 : ((xs.drop (j / z * z)).take z)[j % z]? = some xs[j] := by
    rw [List.getElem?_take, if_pos h2, List.getElem?_drop, h3, List.getElem?_eq_getElem hj]
  exact List.mem_of_getElem? h4
theorem OG.one {F : Nat → Prop} {w : World} {d : Nat} {k : Int} {a0 a1 a2 a3 a4 a5 : Value} (h : OG F w d k (.agg #[a0, a1, a2, a3, a4, a5])) : a0.oneCell' = true ∧ a1.oneCell' = true ∧ a2.oneCell' = true ∧ a3.oneCell' = true ∧ a4.oneCell' = true ∧ a5.oneCell' = true := by
  obtain ⟨ng, A, c, l, bits, t, K, kn, kc, e, _⟩ := h
  injection e with e; injection e with e
  injection e with e0 e; injection e with e1 e; injection e with e2 e; injection e with e3 e; injection e with e4 e; injection e with e5 _
  subst e0 e1 e2 e3 e4 e5
  exact ⟨rfl, rfl, rfl, rfl, rfl, rfl⟩
theorem PK13.one {n : Nat} {kk : Nat → Int} {F : Nat → Prop} {w : World} {cs : List Value} (h : PK13 n kk F w cs) : ∀ u, u ∈ cs → u.oneCell' = true := by
  obtain ⟨N, ka, kb, a0, a1, a2, a3, a4, a5, b0, b1, b2, b3, b4, b5, rfl, _, _, h3, h4⟩ := h
  obtain ⟨p0, p1, p2, p3, p4, p5⟩ := h3.one
  obtain ⟨q0, q1, q2, q3, q4, q5⟩ := h4.one
  intro u hu
  simp only [List.mem_cons, List.not_mem_nil, or_false] at hu
  rcases hu with rfl | rfl | rfl | rfl | rfl | rfl | rfl | rfl | rfl | rfl | rfl | rfl | rfl
  · rfl
  all_goals assumption
/-- the row of the second pokes, as a source of an append -/
theorem GrZ.src {n m : Nat} {kk : Nat → Int} {F : Nat → Prop} {B : Nat} {w : World} {sv : Value} (hm : 0 < m) (h : GrZ (PK13 n kk) 13 35 F B w m sv) : ∃ (g c : Nat) (xs : List Value), sv = .slice (some ⟨g, 0, none⟩) m c ∧ B ≤ g ∧ xs.length = m * 13 ∧ (∀ j u, xs[j]? = some u → w.cell? ((⟨g, 0, none⟩ : Addr).add j) = some u) ∧ (∀ u : Value, u ∈ xs → u.oneCell' = true) ∧ ∀ j, j < m → PK13 n kk F w ((xs.drop (j * 13)).take 13) := by
  obtain ⟨xs, ho, hv⟩ := h
  rcases ho.2 with ⟨e1, e2⟩ | ⟨g, cap, cur, e1, e2, e3⟩
  · omega
  · refine ⟨g, cap, xs, e1, e2, ho.1, fun j u hj => ho.cells (by rw [e1]; rfl) j u hj, fun u hu => ?_, fun j hj => PK13.moves n kk _ _ w w _ (hv j hj) (fun b hb _ => hb.1) fun _ _ _ => rfl⟩
    obtain ⟨i, hi, hu2⟩ := mem_cut ho.1 (by decide) hu
    exact (hv i hi).one u hu2
theorem step_append_nil {w : World} {ops : Array Oper} {o : Oper} {a : Act} {K : Act → World → Prop} {Q : Exit → Act → World → Prop} {E : Prop} (hgd : o.guard = none) (s x : Operand) (t : TypeId)
    (ho : o.op = .call { callee := .builtin .append, args := #[s, x], argTypes := #[t, t] })
    (e : TypeId) (i : TypeInfo) (ht : Tryz.prog.underlying t = some (.slice e)) (hi : Tryz.prog.info? e = some i)
    (B : Option Addr) (L C : Nat) (hs : a.eval s = .slice B L C) (hLC : L ≤ C) (hx : a.eval x = .slice none 0 0)
    (h : K (a.put o.dst (.slice B L C)) w) : if Region.wanted o (yielded ops a.tmps) = true then Oper.wp Tryz.prog o a w K Q else E := by
  have hw : Region.wanted o (yielded ops a.tmps) = true := by simp [Region.wanted, hgd]
  rw [if_pos hw]
  have hr := run_append_nothing (P := Tryz.prog) w t t o.type e i ht hi B L C hLC (.slice none 0 0) (Src.ofNil w ht 0)
  unfold Oper.wp execOp
  simp only [ho, resolve, invoke, builtin, Sem.run_bind, Sem.run_pure, Result.andThen_ok, List.map_toArray, List.map_cons, List.map_nil, hs, hx, hr]
  exact h
theorem GrZ.slice2 {E : (Nat → Prop) → World → List Value → Prop} {z : Nat} {ty : TypeId} {F : Nat → Prop} {B : Nat} {w : World} {n : Nat} {sv : Value} (h : GrZ E z ty F B w n sv) : ∃ A c, sv = .slice A n c ∧ n ≤ c := by
  obtain ⟨xs, ho, _⟩ := h
  rcases ho.2 with ⟨e1, e2⟩ | ⟨g, cap, cur, e1, _, _, e4, _⟩
  · exact ⟨none, 0, by rw [e2]; exact e1, by omega⟩
  · exact ⟨_, cap, e1, e4⟩
theorem GrZ.lt {E : (Nat → Prop) → World → List Value → Prop} {z : Nat} {ty : TypeId} {F : Nat → Prop} {B : Nat} {w : World} {n : Nat} {sv : Value} (h : GrZ E z ty F B w n sv) : ∀ k, sv.ownBlock = some k → B ≤ k ∧ k < w.heap.size := by
  obtain ⟨xs, ho, _⟩ := h
  exact ho.lt
/-- the two rows of pokes, one behind the other -/
theorem GrZ.both {n m1 m2 g cap : Nat} {kk : Nat → Int} {B B2 : Nat} {w w' : World} {s1 : Value} {xs1 xs2 : List Value} (hx : w.ownsRow B 35 13 s1 m1 xs1) (hv : ∀ i, i < m1 → PK13 n kk (fun b => B ≤ b ∧ s1.ownBlock ≠ some b) w ((xs1.drop (i * 13)).take 13)) (hB : B ≤ B2) (hlt : ∀ k, s1.ownBlock = some k → k < B2)
    (ho : w'.ownsRow B 35 13 (.slice (some ⟨g, 0, none⟩) (m1 + m2) cap) (m1 + m2) (xs1 ++ xs2)) (hg : w.grownBy w' s1.ownBlock) (hat : s1.ownBlock = some g ∨ g = w.heap.size)
    (h2 : ∀ j, j < m2 → PK13 n kk (fun b => B2 ≤ b) w ((xs2.drop (j * 13)).take 13)) : GrZ (PK13 n kk) 13 35 (fun b => B ≤ b) B w' (m1 + m2) (.slice (some ⟨g, 0, none⟩) (m1 + m2) cap) :=
  GrZ.push (PK13.moves n kk) hx hv ho hg hat fun j hj => PK13.moves n kk _ _ w w _ (h2 j hj) (fun b hb _ => ⟨Nat.le_trans hB hb, fun e => by have := hlt b e; have hb' : B2 ≤ b := hb; omega⟩) fun _ _ _ => rfl
theorem PS13.one {n : Nat} {kk : Nat → Int} {F : Nat → Prop} {w : World} {cs : List Value} (h : PS13 n kk F w cs) : ∀ u, u ∈ cs → u.oneCell' = true := by
  obtain ⟨N, k, ng, A, c, l, bits, t, rfl, _⟩ := h
  intro u hu
  simp only [List.mem_cons, List.not_mem_nil, or_false] at hu
  rcases hu with rfl | rfl | rfl | rfl | rfl | rfl | rfl | rfl | rfl | rfl | rfl | rfl | rfl <;> rfl
theorem OG.r6 {F : Nat → Prop} {w : World} {d : Nat} {k : Int} {v : Value} (h : OG F w d k v) : R6 (RK w 0) w k v := h.rv
def fstC : Code → Code
  | .seq a _ => a
  | c => c
def sndC : Code → Code
  | .seq _ b => b
  | c => c
/-- the law's code behind its first four regions -/
noncomputable def lawC : Code := sndC (sndC (sndC (sndC (Tryz.f3.body.getD .skip))))
set_option maxRecDepth 100000 in
set_option maxHeartbeats 4000000 in
/-- the law's first loop: of each poke its node and the scalar of its first value -/
theorem law_loop1 (Q : Exit → Act → World → Prop) (K : Act → World → Prop) (W : World) (B n M c31 : Nat) (A31 : Option Addr) (kk : Nat → Int) (y0 y1 y2 y3 y4 y5 y7 y8 y9 y10 y11 y12 y13 y14 y15 y16 y17 y18 y19 y20 y21 y22 y23 y24 y25 y26 y27 y28 y29 y30 y34 y35 y36 y37 y38 y39 y40 y41 y42 y43 y44 y45 y46 y47 y48 y49 y50 y51 y52 y53 y54 y55 y56 y57 y58 y59 y60 y61 y62 y63 y64 y65 y66 y67 y68 y69 y70 y71 y72 y73 y74 y75 y76 y77 y78 y79 y80 y81 : Value) (hM : M ≤ 120) (hg : GrZ (PK13 n kk) 13 35 (fun b => B ≤ b) B W M (.slice A31 M c31))
    (hQP : ∀ (c : List PanicEntry) (a : Act) (d : Option Nat) (v : Value) (w : World), Q (.panic c) (a.put d v) w → Q (.panic c) a w) (hexit : ∀ (pv : Value) (w' : World) (u8 u33 u34 u35 u36 u37 u38 u39 u40 u41 u42 u43 u44 u45 u46 : Value), GrZ (PS13 n kk) 13 35 (fun b => W.heap.size ≤ b) W.heap.size w' M pv → Kept W w' → K ⟨#[y0, y1, y2, y3, y4, y5, pv, y7, u8, y9, y10, y11, y12, y13, y14, y15, y16, y17, y18, y19, y20, y21, y22, y23, y24, y25, y26, y27, y28, y29, y30, .slice A31 M c31, .int .i64 (M : Int), u33, u34, u35, u36, u37, u38, u39, u40, u41, u42, u43, u44, u45, u46, y47, y48, y49, y50, y51, y52, y53, y54, y55, y56, y57, y58, y59, y60, y61, y62, y63, y64, y65, y66, y67, y68, y69, y70, y71, y72, y73, y74, y75, y76, y77, y78, y79, y80, y81], []⟩ w') :
    Code.wp Tryz.prog (sndC (fstC lawC)) (Exit.then K Q) ⟨#[y0, y1, y2, y3, y4, y5, .slice none 0 0, y7, y8, y9, y10, y11, y12, y13, y14, y15, y16, y17, y18, y19, y20, y21, y22, y23, y24, y25, y26, y27, y28, y29, y30, .slice A31 M c31, .int .i64 (M : Int), .int .i64 0, y34, y35, y36, y37, y38, y39, y40, y41, y42, y43, y44, y45, y46, y47, y48, y49, y50, y51, y52, y53, y54, y55, y56, y57, y58, y59, y60, y61, y62, y63, y64, y65, y66, y67, y68, y69, y70, y71, y72, y73, y74, y75, y76, y77, y78, y79, y80, y81], []⟩ W := by
  obtain ⟨j0, hj0, hj1, hj2, hj3⟩ := info_Pk
  have HJ : Hid (Tryz.prog.info? 35 = some j0 ∧ j0.zero = some (.agg #[.int .i64 0, .int .i64 0, .bool false, .slice none 0 0, .int .u64 0, .string ⟨#[]⟩, .slice none 0 0, .int .i64 0, .bool false, .slice none 0 0, .int .u64 0, .string ⟨#[]⟩, .slice none 0 0]) ∧ j0.size = 13 ∧ j0.bytes = 184) := Lib.hid ⟨hj0, hj1, hj2, hj3⟩
  have HG := Lib.hid hg
  have HM := Lib.hid hM
  have hMI : (M : Int) ≤ 120 := by omega
  have HEX := Lib.hid hexit
  have HQP := Lib.hid hQP
  clear hj0 hj1 hj2 hj3 hg hM hexit hQP
  conv => arg 2; whnf
  go_wp2_with fail
  go_loopw [6, 33] (fun pv iv wr => ∃ (i : Nat), iv = .int .i64 (i : Int) ∧ i ≤ M ∧ Kept W wr ∧ GrZ (PS13 n kk) 13 35 (fun b => W.heap.size ≤ b) W.heap.size wr i pv) (fun _ iv _ => 130 - (intOf iv).toNat)
  case atStart => exact ⟨0, rfl, by omega, Below.refl _ _, GrZ.start _ _ _ _ _ _⟩
  case round =>
    obtain ⟨i, rfl, hi, hkj, hgs⟩ := hrel
    have HKJ := Lib.hid hkj
    have HGS := Lib.hid hgs
    have i0' : (0 : Int) ≤ (i : Int) := by omega
    by_cases hlt : i < M
    · obtain ⟨g, cc, e, hB, hgl, hf⟩ := (HG.out.below (PK13.moves n kk) hkj).form (PK13.moves n kk) (by omega)
      injection e with ee1 ee2 ee3
      subst ee1
      obtain ⟨SA, sc, esv⟩ := hgs.slice
      subst esv
      obtain ⟨cs, hc, N, ka, kb, p0, p1, p2, p3, p4, p5, r0, r1, r2, r3, r4, r5, rfl, hN, h6, ha, hb⟩ := hf i hlt
      have HA0 := Lib.hid ha
      obtain ⟨b1, B1, c1, l1, q1, T1, K1, n1, e1, ea, _⟩ := ha
      injection ea with ea; injection ea with ea
      injection ea with ea0 ea; injection ea with ea1 ea; injection ea with ea2 ea; injection ea with ea3 ea; injection ea with ea4 ea; injection ea with ea5 _
      subst ea0 ea1 ea2 ea3 ea4 ea5
      obtain ⟨b2, B2, c2, l2, q2, T2, K2, n2, e2, eb, _⟩ := hb
      injection eb with eb; injection eb with eb
      injection eb with eb0 eb; injection eb with eb1 eb; injection eb with eb2 eb; injection eb with eb3 eb; injection eb with eb4 eb; injection eb with eb5 _
      subst eb0 eb1 eb2 eb3 eb4 eb5
      obtain ⟨k1, rfl⟩ : ∃ k, k = ka := ⟨_, rfl⟩
      obtain ⟨k2, rfl⟩ : ∃ k, k = kb := ⟨_, rfl⟩
      have c0' := hc 0 _ rfl
      rw [Nat.add_zero] at c0'
      have c1' := hc 1 _ rfl
      have c2' := hc 2 _ rfl
      have c3' := hc 3 _ rfl
      have c4' := hc 4 _ rfl
      have c5' := hc 5 _ rfl
      have c6' := hc 6 _ rfl
      have c7' := hc 7 _ rfl
      have c8' := hc 8 _ rfl
      have c9' := hc 9 _ rfl
      have c10' := hc 10 _ rfl
      have c11' := hc 11 _ rfl
      have c12' := hc 12 _ rfl
      have hk2 : Kept wr (wr.alloc (.cells #[.int .i64 (N : Int), .int .i64 k1, .bool b1, .slice B1 l1.length c1, .int .u64 (q1 : Int), .string T1, .slice K1 n1 e1, .int .i64 k2, .bool b2, .slice B2 l2.length c2, .int .u64 (q2 : Int), .string T2, .slice K2 n2 e2] 35)) := (Below.refl _ _).alloc (Nat.le_refl _) _
      have HA := Lib.hid (HA0.out.below hk2)
      have HK2 := Lib.hid hk2
      have HB8 := Lib.hid (Blk.new wr 35 #[.int .i64 (N : Int), .int .i64 k1, .bool b1, .slice B1 l1.length c1, .int .u64 (q1 : Int), .string T1, .slice K1 n1 e1, .int .i64 k2, .bool b2, .slice B2 l2.length c2, .int .u64 (q2 : Int), .string T2, .slice K2 n2 e2])
      have HNN := Lib.hid (And.intro hN h6)
      have HLT := Lib.hid hlt
      have i1 : (i : Int) < (M : Int) := by omega
      clear hc hf hB hgl hN h6 hk2 HA0 hkj hgs hlt hi ee2 ee3
      go_wp2_with fail
      refine wp_region_lastL _ _ _ (by simp only [List.dropLast]; rfl) (by simp only [List.getLast?_cons_cons, List.getLast?_singleton]; rfl) (fun X : World => Blk X wr.heap.size 35 #[.int .i64 (N : Int), .int .i64 k1, .bool b1, .slice B1 l1.length c1, .int .u64 (q1 : Int), .string T1, .slice K1 n1 e1, .int .i64 k2, .bool b2, .slice B2 l2.length c2, .int .u64 (q2 : Int), .string T2, .slice K2 n2 e2]) (by kernel_rfl) (by kernel_rfl) (HB8.out) (fun hHeld => ?_)
      refine wpAnyH_take (i := 0) (oi := ?o0x0) (v := ?v0x0) ?hi0x0 (by kernel_rfl) (by kernel_rfl) (by kernel_rfl) ?hQ0x0 ?hy0x0 hHeld ?rest0x0
      case hi0x0 => (simp only [List.getElem?_toArray, List.getElem?_cons_zero]; rfl)
      case hQ0x0 => exact fun _ _ _ h => HQP.out _ _ _ _ _ h
      case hy0x0 => (refine Or.inl ⟨by rfl, ?_⟩; intro W hSw; (try dsimp only at hSw); go_simp; (try with_reducible rfl))
      try simp only [Act.put, List.setIfInBounds_toArray, List.set_cons_zero, List.set_cons_succ]
      refine wpAnyH_take (i := 1) (oi := ?o1x1) (v := ?v1x1) ?hi1x1 (by kernel_rfl) (by kernel_rfl) (by kernel_rfl) ?hQ1x1 ?hy1x1 hHeld ?rest1x1
      case hi1x1 => (simp only [List.getElem?_toArray, List.getElem?_cons_succ, List.getElem?_cons_zero]; rfl)
      case hQ1x1 => exact fun _ _ _ h => HQP.out _ _ _ _ _ h
      case hy1x1 => (refine Or.inl ⟨by rfl, ?_⟩; intro W hSw; (try dsimp only at hSw); go_simp; (try with_reducible rfl))
      try simp only [Act.put, List.setIfInBounds_toArray, List.set_cons_zero, List.set_cons_succ]
      refine wpAnyH_take (i := 2) (oi := ?o2x2) (v := ?v2x2) ?hi2x2 (by kernel_rfl) (by kernel_rfl) (by kernel_rfl) ?hQ2x2 ?hy2x2 hHeld ?rest2x2
      case hi2x2 => (simp only [List.getElem?_toArray, List.getElem?_cons_succ, List.getElem?_cons_zero]; rfl)
      case hQ2x2 => exact fun _ _ _ h => HQP.out _ _ _ _ _ h
      case hy2x2 => (refine Or.inl ⟨by rfl, ?_⟩; intro W hSw; (try dsimp only at hSw); have z0 := hSw.cell 0; go_simp; (try with_reducible rfl))
      try simp only [Act.put, List.setIfInBounds_toArray, List.set_cons_zero, List.set_cons_succ]
      refine wpAnyH_take (i := 3) (oi := ?o3x3) (v := ?v3x3) ?hi3x3 (by kernel_rfl) (by kernel_rfl) (by kernel_rfl) ?hQ3x3 ?hy3x3 hHeld ?rest3x3
      case hi3x3 => (simp only [List.getElem?_toArray, List.getElem?_cons_succ, List.getElem?_cons_zero]; rfl)
      case hQ3x3 => exact fun _ _ _ h => HQP.out _ _ _ _ _ h
      case hy3x3 => (refine Or.inl ⟨by rfl, ?_⟩; intro W hSw; (try dsimp only at hSw); go_simp; (try with_reducible rfl))
      try simp only [Act.put, List.setIfInBounds_toArray, List.set_cons_zero, List.set_cons_succ]
      refine wpAnyH_take (i := 4) (oi := ?o4x4) (v := ?v4x4) ?hi4x4 (by kernel_rfl) (by kernel_rfl) (by kernel_rfl) ?hQ4x4 ?hy4x4 hHeld ?rest4x4
      case hi4x4 => (simp only [List.getElem?_toArray, List.getElem?_cons_succ, List.getElem?_cons_zero]; rfl)
      case hQ4x4 => exact fun _ _ _ h => HQP.out _ _ _ _ _ h
      case hy4x4 => (refine Or.inl ⟨by rfl, ?_⟩; intro W hSw; (try dsimp only at hSw); have z1 := hSw.cell 1; have z2 := hSw.cell 2; have z3 := hSw.cell 3; have z4 := hSw.cell 4; have z5 := hSw.cell 5; have z6 := hSw.cell 6; go_simp; (try with_reducible rfl))
      try simp only [Act.put, List.setIfInBounds_toArray, List.set_cons_zero, List.set_cons_succ]
      refine wpAnyH_ready (rs := [5]) (by kernel_rfl) (by simp) ?_
      refine (AllReadyH.cons rfl (fun K hK => ?_) AllReadyH.nil)
      go_simp
      (with_reducible refine Calls.mono (Scalar_any k1 (RK (wr.alloc (.cells #[.int .i64 (N : Int), .int .i64 k1, .bool b1, .slice B1 l1.length c1, .int .u64 (q1 : Int), .string T1, .slice K1 n1 e1, .int .i64 k2, .bool b2, .slice B2 l2.length c2, .int .u64 (q2 : Int), .string T2, .slice K2 n2 e2] 35)).drew 0) _ _ (OG.r6 (HA.out.below (by go_grown)))) ?_)
      rintro e w3 ⟨⟨k3, u3, rfl, hk3, hfl⟩, hkw3⟩
      have hk3a : Kept (wr.alloc (.cells #[.int .i64 (N : Int), .int .i64 k1, .bool b1, .slice B1 l1.length c1, .int .u64 (q1 : Int), .string T1, .slice K1 n1 e1, .int .i64 k2, .bool b2, .slice B2 l2.length c2, .int .u64 (q2 : Int), .string T2, .slice K2 n2 e2] 35)) w3 := ⟨hkw3.os, hkw3.tape, hkw3.output, hkw3.size, hkw3.block⟩
      have HK3 := Lib.hid hk3a
      obtain ⟨a0, a1, a2, a3, a4, a5, rfl, hps⟩ := PS13.of (F := fun b => (wr.alloc (.cells #[.int .i64 (N : Int), .int .i64 k1, .bool b1, .slice B1 l1.length c1, .int .u64 (q1 : Int), .string T1, .slice K1 n1 e1, .int .i64 k2, .bool b2, .slice B2 l2.length c2, .int .u64 (q2 : Int), .string T2, .slice K2 n2 e2] 35)).heap.size ≤ b) HNN.out.1 HNN.out.2 hk3 hfl (fun b hb => hb)
      have HPS := Lib.hid hps
      have HONE := Lib.hid hps.one
      clear hkw3 hk3a hps hfl hk3
      refine hK.out _ _ ?_ (fun hHeld => ?_)
      · (exact HB8.out.below HK3.out)
      clear hK K
      try simp only [Act.put, List.setIfInBounds_toArray, List.set_cons_zero, List.set_cons_succ]
      refine wpAnyH_take (i := 6) (oi := ?o6x5) (v := ?v6x5) ?hi6x5 (by kernel_rfl) (by kernel_rfl) (by kernel_rfl) ?hQ6x5 ?hy6x5 hHeld ?rest6x5
      case hi6x5 => (simp only [List.getElem?_toArray, List.getElem?_cons_succ, List.getElem?_cons_zero]; rfl)
      case hQ6x5 => exact fun _ _ _ h => HQP.out _ _ _ _ _ h
      case hy6x5 => (refine Or.inl ⟨by rfl, ?_⟩; intro W hSw; (try dsimp only at hSw); go_simp; (try with_reducible rfl))
      try simp only [Act.put, List.setIfInBounds_toArray, List.set_cons_zero, List.set_cons_succ]
      refine wpAnyH_ready (rs := [7]) (by kernel_rfl) (by simp) ?_
      refine (AllReadyH.cons rfl (fun K hK => ?_) AllReadyH.nil)
      go_simp
      refine hK.out _ _ ?_ (fun hHeld => ?_)
      · (exact Blk.below (HB8.out.below HK3.out) ((Below.refl _ w3).alloc (Nat.le_refl _) _))
      clear hK K
      try simp only [Act.put, List.setIfInBounds_toArray, List.set_cons_zero, List.set_cons_succ]
      have hk7 : Kept wr (w3.alloc (.cells #[.int .i64 (N : Int), a0, a1, a2, a3, a4, a5, .int .i64 0, .bool false, .slice none 0 0, .int .u64 0, .string ⟨#[]⟩, .slice none 0 0] 35)) := (HK2.out.trans HK3.out).trans ((Below.refl _ w3).alloc (Nat.le_refl _) _)
      have HK7 := Lib.hid hk7
      have HB7 : Hid (Blk (w3.alloc (.cells #[.int .i64 (N : Int), a0, a1, a2, a3, a4, a5, .int .i64 0, .bool false, .slice none 0 0, .int .u64 0, .string ⟨#[]⟩, .slice none 0 0] 35)) wr.heap.size 35 #[.int .i64 (N : Int), .int .i64 k1, .bool b1, .slice B1 l1.length c1, .int .u64 (q1 : Int), .string T1, .slice K1 n1 e1, .int .i64 k2, .bool b2, .slice B2 l2.length c2, .int .u64 (q2 : Int), .string T2, .slice K2 n2 e2]) := Lib.hid (Blk.below (HB8.out.below HK3.out) ((Below.refl _ w3).alloc (Nat.le_refl _) _))
      obtain ⟨xs, hx7, hv7⟩ := HGS.out.below (PS13.moves n kk) hk7
      have HX7 := Lib.hid hx7
      have HV7 := Lib.hid hv7
      have HLT8 : Hid (∀ k, (Value.slice SA i sc).ownBlock = some k → W.heap.size ≤ k ∧ k < wr.heap.size) := Lib.hid HGS.out.lt
      have HNW : Hid (∀ j', j' < 1 → PS13 n kk (fun b => W.heap.size ≤ b ∧ (Value.slice SA i sc).ownBlock ≠ some b) (w3.alloc (.cells #[.int .i64 (N : Int), a0, a1, a2, a3, a4, a5, .int .i64 0, .bool false, .slice none 0 0, .int .u64 0, .string ⟨#[]⟩, .slice none 0 0] 35)) (([.int .i64 (N : Int), a0, a1, a2, a3, a4, a5, .int .i64 0, .bool false, .slice none 0 0, .int .u64 0, .string ⟨#[]⟩, .slice none 0 0].drop (j' * 13)).take 13)) := Lib.hid fun j' hj' => by
        obtain rfl : j' = 0 := by omega
        have hlt := HLT8.out
        have hz := HKJ.out.size
        have hz2 := HK2.out.size
        exact PS13.moves n kk _ _ w3 _ _ HPS.out (fun c hc hl => ⟨Nat.le_trans hz (Nat.le_trans hz2 hc), fun e => by have := (hlt c e).2; have hc' : (wr.alloc (.cells #[.int .i64 (N : Int), .int .i64 k1, .bool b1, .slice B1 l1.length c1, .int .u64 (q1 : Int), .string T1, .slice K1 n1 e1, .int .i64 k2, .bool b2, .slice B2 l2.length c2, .int .u64 (q2 : Int), .string T2, .slice K2 n2 e2] 35)).heap.size ≤ c := hc; omega⟩) fun c _ hl => ((Below.refl _ w3).alloc (Nat.le_refl _) (.cells #[.int .i64 (N : Int), a0, a1, a2, a3, a4, a5, .int .i64 0, .bool false, .slice none 0 0, .int .u64 0, .string ⟨#[]⟩, .slice none 0 0] 35)).block c hl
      clear hk7 hx7 hv7
      refine wpAnyH_ready (rs := [8]) (by kernel_rfl) (by simp) ?_
      refine (AllReadyH.cons rfl (fun K hK => ?_) AllReadyH.nil)
      refine step_append_lies _ rfl (.tmp 37) (.tmp 44) 25 rfl W.heap.size 35 j0 (.agg #[.int .i64 0, .int .i64 0, .bool false, .slice none 0 0, .int .u64 0, .string ⟨#[]⟩, .slice none 0 0, .int .i64 0, .bool false, .slice none 0 0, .int .u64 0, .string ⟨#[]⟩, .slice none 0 0]) 13 184 Tryz.underlying25 HJ.out.1 HJ.out.2.1 HJ.out.2.2.1 HJ.out.2.2.2 rfl (by omega) _ i _ rfl HX7.out ⟨w3.heap.size, 0, none⟩ 1 1 [.int .i64 (N : Int), a0, a1, a2, a3, a4, a5, .int .i64 0, .bool false, .slice none 0 0, .int .u64 0, .string ⟨#[]⟩, .slice none 0 0] rfl rfl (cells_new w3 _ _) (HONE.out) (by omega) (by simp only [maxLen]; have h1 := HLT.out; have h2 := HM.out; omega) (by have h1 := HLT.out; have h2 := HM.out; omega) (by have h1 := HKJ.out.size; have h2 := HK7.out.size; omega) _ rfl ?_
      intro g2 cap2 w8 ho2 hg2 hat hgl
      have HST := Lib.hid (GrZ.push (PS13.moves n kk) HX7.out HV7.out ho2 hg2 hat HNW.out)
      have HKS := Lib.hid (own_kept6 (HKJ.out.trans HK7.out) HX7.out (Nat.le_refl _) hg2)
      refine hK.out _ _ ?_ (fun hHeld => ?_)
      · (exact (hg2.block wr.heap.size HB7.out.lt (fun e => absurd (HLT8.out _ e.symm).2 (by omega))).trans HB7.out)
      clear hK K
      try simp only [Act.put, List.setIfInBounds_toArray]
      refine wpAnyH_done (by kernel_rfl) ?_ _
      simp only [lastQ]
      clear hHeld ho2 hg2 hat hgl
      go_wp2_with fail
      exact ⟨⟨i + 1, by go_num, by have := HLT.out; omega, HKS.out, HST.out⟩, by have := HLT.out; have := HM.out; simp [intOf]; omega⟩
    · have i1 : ¬ (i : Int) < (M : Int) := by omega
      obtain rfl : i = M := by omega
      clear hkj hgs hi hlt
      go_wp2_with fail
      exact HEX.out _ _ _ _ _ _ _ _ _ _ _ _ _ _ _ _ _ HGS.out HKJ.out
set_option maxRecDepth 100000 in
set_option maxHeartbeats 4000000 in
/-- the law behind its first loop: what was refused is what is reached -/
theorem law_rest (Q : Exit → Act → World → Prop) (W : World) (F : Nat → Prop) (B gb n nc g5 rt M : Nat) (sv : Value) (kk : Nat → Int) (ng : Nat → Bool) (mg : Nat → List Nat) (bt : Nat → Nat) (tx : Nat → ByteArray) (ks : Nat → List Nat) (y0 y1 y2 y3 y4 y7 y8 y9 y10 y11 y12 y13 y14 y15 y16 y17 y18 y19 y20 y21 y22 y23 y24 y25 y26 y27 y28 y29 y30 y31 y32 y33 y34 y35 y36 y37 y38 y39 y40 y41 y42 y43 y44 y45 y46 y47 y48 y49 y50 y51 y52 y53 y54 y55 y56 y57 y58 y59 y60 y61 y62 y63 y64 y65 y66 y67 y68 y69 y70 y71 y72 y73 y74 y75 y76 y77 y78 y79 y80 y81 : Value) (hM : M ≤ 120) (hok : GOk n kk mg bt ks) (hrt : rt < n) (hgm : GM W gb n kk ng mg bt tx ks) (hb5 : Blk W g5 24 #[.slice (some ⟨gb, 0, none⟩) n nc, .int .i64 (rt : Int)]) (hps : GrZ (PS13 n kk) 13 35 F B W M sv)
    (hQP : ∀ (c : List PanicEntry) (a : Act) (d : Option Nat) (v : Value) (w : World), Q (.panic c) (a.put d v) w → Q (.panic c) a w) (hexit : ∀ (w' : World) (u0 u1 u2 u3 u5 u6 u7 u8 u9 u10 u11 u12 u13 u14 u15 u16 u17 u18 u19 u20 u21 u22 u23 u24 u25 u26 u27 u28 u29 u30 u31 u32 u33 u34 u35 u36 u37 u38 u39 u40 u41 u42 u43 u44 u45 u46 u47 u48 u49 u50 u51 u52 u53 u54 u55 u56 u57 u58 u59 u60 u61 u62 u63 u64 u65 u66 u67 u68 u69 u70 u71 u72 u73 u74 u75 u76 u77 u78 u79 u80 u81 : Value), Kept W w' → Q .ret ⟨#[u0, u1, u2, u3, .bool true, u5, u6, u7, u8, u9, u10, u11, u12, u13, u14, u15, u16, u17, u18, u19, u20, u21, u22, u23, u24, u25, u26, u27, u28, u29, u30, u31, u32, u33, u34, u35, u36, u37, u38, u39, u40, u41, u42, u43, u44, u45, u46, u47, u48, u49, u50, u51, u52, u53, u54, u55, u56, u57, u58, u59, u60, u61, u62, u63, u64, u65, u66, u67, u68, u69, u70, u71, u72, u73, u74, u75, u76, u77, u78, u79, u80, u81], []⟩ w') :
    Code.wp Tryz.prog (sndC lawC) Q ⟨#[y0, y1, y2, y3, y4, .pointer (some ⟨g5, 0, none⟩), sv, y7, y8, y9, y10, y11, y12, y13, y14, y15, y16, y17, y18, y19, y20, y21, y22, y23, y24, y25, y26, y27, y28, y29, y30, y31, y32, y33, y34, y35, y36, y37, y38, y39, y40, y41, y42, y43, y44, y45, y46, y47, y48, y49, y50, y51, y52, y53, y54, y55, y56, y57, y58, y59, y60, y61, y62, y63, y64, y65, y66, y67, y68, y69, y70, y71, y72, y73, y74, y75, y76, y77, y78, y79, y80, y81], []⟩ W := by
  obtain ⟨pa, pc, N, ak, ag, am, ab, atx, rfl, hpk, hgp⟩ := pk_of (by omega : M ≤ 1000) hps
  have CNF := Lib.hid (NestedFreeze_any gb n nc rt M pc pa kk ng mg bt tx ks N ak ag am ab atx hok hrt hpk W hgm hgp)
  have HGP := Lib.hid hgp
  have HPK := Lib.hid hpk
  have HOK := Lib.hid hok
  have HRT := Lib.hid hrt
  have HGM := Lib.hid hgm
  have HB5 := Lib.hid hb5
  have HM := Lib.hid hM
  have HEX := Lib.hid hexit
  have HQP := Lib.hid hQP
  have x0 := hb5.cell 0
  have x1 := hb5.cell 1
  have hMI : (M : Int) ≤ 120 := by omega
  clear hpk hgp hok hrt hgm hb5 hM hexit hQP hps
  conv => arg 2; whnf
  go_wp2_with fail
  refine CNF.out.mono ?_
  rintro e w3 ⟨hk3, R, F', rfl, hiff, hown⟩
  obtain ⟨RA, rc, eR, hsR, _⟩ := own_sl (xs := (List.range M).map fun i => Value.bool (F' (N i))) (by rw [show ((List.range M).map fun i => Value.bool (F' (N i))).length = M by simp]; exact hown)
  rw [show ((List.range M).map fun i => Value.bool (F' (N i))).length = M by simp] at eR
  subst eR
  have HSR := Lib.hid hsR
  have HIFF := Lib.hid hiff
  have HK3 := Lib.hid hk3
  have x0 := (HB5.out.below hk3).cell 0
  have x1 := (HB5.out.below hk3).cell 1
  have CR := Lib.hid (Reached_any gb n nc rt ks (by have := HOK.out.size; omega) HRT.out HOK.out.kid (fun i hi => by have := HOK.out.len i hi; omega) w3 ((HGM.out.below hk3).kids))
  clear hsR hiff hk3 hown CNF
  go_wp2_with fail
  refine CR.out.mono ?_
  rintro e w4 ⟨ob, Rr, rfl, hob, hrow, hR, hk4⟩
  have HROW := Lib.hid hrow
  have HR := Lib.hid hR
  have HK4 := Lib.hid hk4
  clear hob hrow hR hk4 CR x0 x1
  go_wp2_with fail
  go_loopw [66] (fun iv wr => ∃ (i : Nat), iv = .int .i64 (i : Int) ∧ i ≤ M ∧ Kept w4 wr) (fun iv _ => 130 - (intOf iv).toNat)
  case atStart => exact ⟨0, rfl, by omega, Below.refl _ _⟩
  case round =>
    obtain ⟨i, rfl, hi, hkr⟩ := hrel
    have HKR := Lib.hid hkr
    have i0' : (0 : Int) ≤ (i : Int) := by omega
    by_cases hlt : i < M
    · obtain ⟨pb, rfl, hgp⟩ := HGP.out (by omega)
      obtain ⟨MA, mc, KA, kn, kc, k2, n2, M2, m2, c2, b2, t2, K2, l2, d2, p0, p1, p2, p3, p4, p5, p6, p7, p8, p9, p10, p11, p12, _⟩ := (hgp.below ((HK3.out.trans HK4.out).trans hkr)) i hlt
      obtain ⟨hNn, h6⟩ := HPK.out.node i hlt
      obtain ⟨rg, ro, rfl, hrc⟩ := (HSR.out.below (HK4.out.trans hkr)).at_ (fun e2 => by have h9 := congrArg List.length e2; simp only [List.length_map, List.length_range, List.length_nil] at h9; omega)
      have hr1 := hrc i (.bool (F' (N i))) (by rw [List.getElem?_map, List.getElem?_range hlt]; rfl)
      have hr2 := (hkr.cell (block_lt_of_cell (HROW.out.cell hNn))).trans (HROW.out.cell hNn)
      have hbb : F' (N i) = Rr (N i) := by
        have h1 := HIFF.out _ hNn h6
        have h2 := HR.out (N i)
        cases h3 : F' (N i) <;> cases h4 : Rr (N i) <;> simp [h3, h4] at h1 h2 ⊢ <;> first | exact absurd (h2.1) (by simpa using h1) | exact absurd h1 (by simpa using h2) | skip
      have i1 : (i : Int) < (M : Int) := by omega
      dsimp only at p0 hr2
      rw [← hbb] at hr2
      generalize F' (N i) = bb at *
      generalize hNi : N i = q at *
      have n1 : (q : Int) < (n : Int) := by omega
      have n0 : (0 : Int) ≤ (q : Int) := by omega
      have hk8 : Kept wr (wr.alloc (.cells #[.int .i64 (q : Int), .int .i64 (ak i), .bool (ag i), .slice MA (am i).length mc, .int .u64 (ab i : Int), .string (atx i), .slice KA kn kc, .int .i64 k2, .bool n2, .slice M2 m2 c2, .int .u64 b2, .string t2, .slice K2 l2 d2] 35)) := (Below.refl _ _).alloc (Nat.le_refl _) _
      have HR1 := Lib.hid ((hk8.cell (block_lt_of_cell hr1)).trans hr1)
      have HR2 := Lib.hid ((hk8.cell (block_lt_of_cell hr2)).trans hr2)
      have HB8 := Lib.hid (Blk.new wr 35 #[.int .i64 (q : Int), .int .i64 (ak i), .bool (ag i), .slice MA (am i).length mc, .int .u64 (ab i : Int), .string (atx i), .slice KA kn kc, .int .i64 k2, .bool n2, .slice M2 m2 c2, .int .u64 b2, .string t2, .slice K2 l2 d2])
      have HK8 := Lib.hid hk8
      have HLT := Lib.hid hlt
      clear hgp hNn h6 hrc hr1 hr2 hbb hNi hlt hi hkr hk8
      go_wp2_with fail
      refine wp_region_lastL _ _ _ (by simp only [List.dropLast]; rfl) (by simp only [List.getLast?_cons_cons, List.getLast?_singleton]; rfl) (fun X : World => Kept (wr.alloc (.cells #[.int .i64 (q : Int), .int .i64 (ak i), .bool (ag i), .slice MA (am i).length mc, .int .u64 (ab i : Int), .string (atx i), .slice KA kn kc, .int .i64 k2, .bool n2, .slice M2 m2 c2, .int .u64 b2, .string t2, .slice K2 l2 d2] 35)) X) (by kernel_rfl) (by kernel_rfl) (by go_grown) (fun hHeld => ?_)
      refine wpAnyH_take (i := 0) (oi := ?o0x0) (v := ?v0x0) ?hi0x0 (by kernel_rfl) (by kernel_rfl) (by kernel_rfl) ?hQ0x0 ?hy0x0 hHeld ?rest0x0
      case hi0x0 => (simp only [List.getElem?_toArray, List.getElem?_cons_zero]; rfl)
      case hQ0x0 => exact fun _ _ _ h => HQP.out _ _ _ _ _ h
      case hy0x0 => (refine Or.inl ⟨by rfl, ?_⟩; intro W hSw; (try dsimp only at hSw); go_simp; (try with_reducible rfl))
      try simp only [Act.put, List.setIfInBounds_toArray, List.set_cons_zero, List.set_cons_succ]
      refine wpAnyH_take (i := 1) (oi := ?o1x1) (v := ?v1x1) ?hi1x1 (by kernel_rfl) (by kernel_rfl) (by kernel_rfl) ?hQ1x1 ?hy1x1 hHeld ?rest1x1
      case hi1x1 => (simp only [List.getElem?_toArray, List.getElem?_cons_succ, List.getElem?_cons_zero]; rfl)
      case hQ1x1 => exact fun _ _ _ h => HQP.out _ _ _ _ _ h
      case hy1x1 => (refine Or.inl ⟨by rfl, ?_⟩; intro W hSw; (try dsimp only at hSw); go_simp; (try with_reducible rfl))
      try simp only [Act.put, List.setIfInBounds_toArray, List.set_cons_zero, List.set_cons_succ]
      refine wpAnyH_take (i := 2) (oi := ?o2x2) (v := ?v2x2) ?hi2x2 (by kernel_rfl) (by kernel_rfl) (by kernel_rfl) ?hQ2x2 ?hy2x2 hHeld ?rest2x2
      case hi2x2 => (simp only [List.getElem?_toArray, List.getElem?_cons_succ, List.getElem?_cons_zero]; rfl)
      case hQ2x2 => exact fun _ _ _ h => HQP.out _ _ _ _ _ h
      case hy2x2 => (refine Or.inl ⟨by rfl, ?_⟩; intro W hSw; (try dsimp only at hSw); go_simp; (try with_reducible rfl))
      try simp only [Act.put, List.setIfInBounds_toArray, List.set_cons_zero, List.set_cons_succ]
      refine wpAnyH_take (i := 3) (oi := ?o3x3) (v := ?v3x3) ?hi3x3 (by kernel_rfl) (by kernel_rfl) (by kernel_rfl) ?hQ3x3 ?hy3x3 hHeld ?rest3x3
      case hi3x3 => (simp only [List.getElem?_toArray, List.getElem?_cons_succ, List.getElem?_cons_zero]; rfl)
      case hQ3x3 => exact fun _ _ _ h => HQP.out _ _ _ _ _ h
      case hy3x3 => (refine Or.inl ⟨by rfl, ?_⟩; intro W hSw; (try dsimp only at hSw); have z0 := (hSw.cell (block_lt_of_cell HR1.out)).trans HR1.out; go_simp; (try with_reducible rfl))
      try simp only [Act.put, List.setIfInBounds_toArray, List.set_cons_zero, List.set_cons_succ]
      refine wpAnyH_take (i := 4) (oi := ?o4x4) (v := ?v4x4) ?hi4x4 (by kernel_rfl) (by kernel_rfl) (by kernel_rfl) ?hQ4x4 ?hy4x4 hHeld ?rest4x4
      case hi4x4 => (simp only [List.getElem?_toArray, List.getElem?_cons_succ, List.getElem?_cons_zero]; rfl)
      case hQ4x4 => exact fun _ _ _ h => HQP.out _ _ _ _ _ h
      case hy4x4 => (refine Or.inl ⟨by rfl, ?_⟩; intro W hSw; (try dsimp only at hSw); go_simp; (try with_reducible rfl))
      try simp only [Act.put, List.setIfInBounds_toArray, List.set_cons_zero, List.set_cons_succ]
      refine wpAnyH_take (i := 5) (oi := ?o5x5) (v := ?v5x5) ?hi5x5 (by kernel_rfl) (by kernel_rfl) (by kernel_rfl) ?hQ5x5 ?hy5x5 hHeld ?rest5x5
      case hi5x5 => (simp only [List.getElem?_toArray, List.getElem?_cons_succ, List.getElem?_cons_zero]; rfl)
      case hQ5x5 => exact fun _ _ _ h => HQP.out _ _ _ _ _ h
      case hy5x5 => (refine Or.inl ⟨by rfl, ?_⟩; intro W hSw; (try dsimp only at hSw); go_simp; (try with_reducible rfl))
      try simp only [Act.put, List.setIfInBounds_toArray, List.set_cons_zero, List.set_cons_succ]
      refine wpAnyH_take (i := 6) (oi := ?o6x6) (v := ?v6x6) ?hi6x6 (by kernel_rfl) (by kernel_rfl) (by kernel_rfl) ?hQ6x6 ?hy6x6 hHeld ?rest6x6
      case hi6x6 => (simp only [List.getElem?_toArray, List.getElem?_cons_succ, List.getElem?_cons_zero]; rfl)
      case hQ6x6 => exact fun _ _ _ h => HQP.out _ _ _ _ _ h
      case hy6x6 => (refine Or.inl ⟨by rfl, ?_⟩; intro W hSw; (try dsimp only at hSw); have z0 := (HB8.out.below hSw).cell 0; go_simp; (try with_reducible rfl))
      try simp only [Act.put, List.setIfInBounds_toArray, List.set_cons_zero, List.set_cons_succ]
      refine wpAnyH_take (i := 7) (oi := ?o7x7) (v := ?v7x7) ?hi7x7 (by kernel_rfl) (by kernel_rfl) (by kernel_rfl) ?hQ7x7 ?hy7x7 hHeld ?rest7x7
      case hi7x7 => (simp only [List.getElem?_toArray, List.getElem?_cons_succ, List.getElem?_cons_zero]; rfl)
      case hQ7x7 => exact fun _ _ _ h => HQP.out _ _ _ _ _ h
      case hy7x7 => (refine Or.inl ⟨by rfl, ?_⟩; intro W hSw; (try dsimp only at hSw); go_simp; (try with_reducible rfl))
      try simp only [Act.put, List.setIfInBounds_toArray, List.set_cons_zero, List.set_cons_succ]
      refine wpAnyH_take (i := 8) (oi := ?o8x8) (v := ?v8x8) ?hi8x8 (by kernel_rfl) (by kernel_rfl) (by kernel_rfl) ?hQ8x8 ?hy8x8 hHeld ?rest8x8
      case hi8x8 => (simp only [List.getElem?_toArray, List.getElem?_cons_succ, List.getElem?_cons_zero]; rfl)
      case hQ8x8 => exact fun _ _ _ h => HQP.out _ _ _ _ _ h
      case hy8x8 => (refine Or.inl ⟨by rfl, ?_⟩; intro W hSw; (try dsimp only at hSw); have z0 := (hSw.cell (block_lt_of_cell HR2.out)).trans HR2.out; go_simp; (try with_reducible rfl))
      try simp only [Act.put, List.setIfInBounds_toArray, List.set_cons_zero, List.set_cons_succ]
      refine wpAnyH_done (by kernel_rfl) ?_ _
      simp only [lastQ]
      clear hHeld
      cases bb <;> go_wp2_with fail
      all_goals exact ⟨⟨i + 1, by go_num, by have := HLT.out; omega, by have h8 := HKR.out.trans HK8.out; exact ⟨h8.os, h8.tape, h8.output, h8.size, h8.block⟩⟩, by have := HLT.out; have := HM.out; simp [intOf]; omega⟩
    · have i1 : ¬ (i : Int) < (M : Int) := by omega
      clear hi hlt hkr
      go_wp2_with fail
      exact HEX.out _ _ _ _ _ _ _ _ _ _ _ _ _ _ _ _ _ _ _ _ _ _ _ _ _ _ _ _ _ _ _ _ _ _ _ _ _ _ _ _ _ _ _ _ _ _ _ _ _ _ _ _ _ _ _ _ _ _ _ _ _ _ _ _ _ _ _ _ _ _ _ _ _ _ _ _ _ _ _ _ _ _ ((HK3.out.trans HK4.out).trans HKR.out)
end Go.Proofs.YtoociokhldakbaaGreat
