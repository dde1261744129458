/- Three parts made. -/
import Derived.Test.YtdbdpllafknlcaaGreatEg
import Derived.Deep.MidRow
namespace Go.Proofs.YtdbdpllafknlcaaGreat
open Go.ChangeShapes Go.WideShapes Go.ChangeAt Go.RowKit
set_option linter.unusedVariables false
/-- a load of a whole row out of its own block, whatever the number of its cells -/
theorem wpList_load_blk {P : Program} {ops : Array Oper} {rest : List Oper} {op : Oper} {a : Act} {w : World} {Q : Exit → Act → World → Prop} (hgd : op.guard = none) (ty : TypeId) (x : Operand) (ho : op.op = .load ty x)
    (g : Nat) (hx : a.eval x = .pointer (some ⟨g, 0, none⟩)) (t : TypeId) (cs : Array Value) (hb : Blk w g t cs) (d : TypeDesc)
    (hu : P.underlying ty = some d) (hd : d.isRow = true) (hi : (P.info? ty).map (·.size) = some cs.size)
    (h : wpList P ops Q rest (a.put op.dst (.agg cs)) w) : wpList P ops Q (op :: rest) a w := by
  have hl : w.rangeAt g 0 cs.toList := fun j v hv => by
    rw [Nat.zero_add, hb.cell j]
    simpa using hv
  exact wpList_load_mid hgd ty x ho g 0 hx cs.toList d hl hu hd (by simpa using hi) (by simpa using h)
theorem AV.any {w w' : World} {v : Value} {o : Option (Option Int)} (h : AV w v o) : AV w' v o := by
  rcases o with _ | _ | z
  · exact h
  · exact h
  · obtain ⟨x, p, e, hs, h1, h2⟩ := h
    rcases hs with hs | ⟨g, _, _, h3⟩
    · exact ⟨x, p, e, .inl hs, h1, h2⟩
    · rw [h1] at h3; cases h3
theorem AV.form {w : World} {v : Value} {o : Option (Option Int)} (h : AV w v o) : ∃ t x, v = .iface t x := by
  rcases o with _ | _ | z
  · exact ⟨_, _, h⟩
  · exact ⟨_, _, h⟩
  · obtain ⟨x, p, e, _⟩ := h; exact ⟨_, _, e⟩
theorem AV.one {w : World} {v : Value} {o : Option (Option Int)} (h : AV w v o) : v.oneCell' = true := by
  rcases o with _ | _ | z
  · obtain rfl : v = _ := h; rfl
  · obtain rfl : v = _ := h; rfl
  · obtain ⟨x, p, rfl, _⟩ := h; rfl
theorem info_three : (Tryz.prog.info? 49).map (·.size) = some 3 := by kernel_rfl
theorem results_arr_tmp {fn : Func} {p q : Tmp} {ty : TypeId} (h : fn.results = #[.cell p ty, .tmp q]) (P : Program) (tmps : Array Value) (w : World) (g : Nat) (t : TypeId) (cs : Array Value) (fr : Nat × Nat) (d : Nat) (el : TypeId)
    (hp : tmps.getD p undef = .pointer (some ⟨g, 0, none⟩)) (hg : w.heap[g]? = some (.cells cs t fr))
    (hu : P.underlying ty = some (.array d el)) (hi : (P.info? ty).map (·.size) = some cs.size) :
    (results fn tmps).run P w = .ok (.tuple #[.agg cs, tmps.getD q undef]) w := by
  have e : tmps[p]?.getD undef = .pointer (some ⟨g, 0, none⟩) := by simpa using hp
  simp [results, h, e, asAddr, run_loadVar_row w g t ty cs fr _ hg hu rfl hi]
set_option maxRecDepth 100000 in
set_option maxHeartbeats 2000000 in
theorem triple_any (k0 k1 k2 : Int) (b0 b1 b2 : Bool) (A0 A1 A2 : Option Addr) (n0 n1 n2 c0 c1 c2 : Nat) (p0 p1 p2 : Option (Option Int)) (w : World) (h0 : IV w k0 b0 A0 n0 c0 p0) (h1 : IV w k1 b1 A1 n1 c1 p1) (h2 : IV w k2 b2 A2 n2 c2 p2) :
    Calls Tryz.prog 15 #[.agg #[.int .i64 k0, .bool b0, .slice A0 n0 c0, .int .u64 0, .string ⟨#[]⟩, .slice none 0 0, .int .i64 k1, .bool b1, .slice A1 n1 c1, .int .u64 0, .string ⟨#[]⟩, .slice none 0 0, .int .i64 k2, .bool b2, .slice A2 n2 c2, .int .u64 0, .string ⟨#[]⟩, .slice none 0 0]] w
      fun e w' => ∃ u0 u1 u2, e = .returned (.tuple #[.agg #[u0, u1, u2], .bool true]) ∧ AV w' u0 p0 ∧ AV w' u1 p1 ∧ AV w' u2 p2 ∧ Kept w w' := by
  have H0 := fun W (k : Kept w W) => Lib.hid (scalar_any k0 b0 A0 n0 c0 p0 W (h0.below k))
  have H1 := fun W (k : Kept w W) => Lib.hid (scalar_any k1 b1 A1 n1 c1 p1 W (h1.below k))
  have H2 := fun W (k : Kept w W) => Lib.hid (scalar_any k2 b2 A2 n2 c2 p2 W (h2.below k))
  clear h0 h1 h2
  obtain ⟨cs, hcs⟩ : ∃ cs : Array Value, cs = #[.int .i64 k0, .bool b0, .slice A0 n0 c0, .int .u64 0, .string ⟨#[]⟩, .slice none 0 0, .int .i64 k1, .bool b1, .slice A1 n1 c1, .int .u64 0, .string ⟨#[]⟩, .slice none 0 0, .int .i64 k2, .bool b2, .slice A2 n2 c2, .int .u64 0, .string ⟨#[]⟩, .slice none 0 0] := ⟨_, rfl⟩
  rw [← hcs]
  have hb : Blk ((w.alloc (.cells cs 27)).alloc (.cells #[.nilIface, .nilIface, .nilIface] 49)) w.heap.size 27 cs := (Blk.new w _ _).below ((Below.refl _ _).alloc (Nat.le_refl _) _)
  have hr : Blk ((w.alloc (.cells cs 27)).alloc (.cells #[.nilIface, .nilIface, .nilIface] 49)) (w.heap.size + 1) 49 #[.nilIface, .nilIface, .nilIface] := by have := Blk.new (w.alloc (.cells cs 27)) 49 #[.nilIface, .nilIface, .nilIface]; rwa [World.size_alloc] at this
  have hk : Kept w ((w.alloc (.cells cs 27)).alloc (.cells #[.nilIface, .nilIface, .nilIface] 49)) := ((Below.refl _ _).alloc (Nat.le_refl _) _).alloc (by simp) _
  have hix0 : ∀ X : World, (Instr.index 27 (.agg cs) (.int .i64 0)).run Tryz.prog X = .ok (.agg #[.int .i64 k0, .bool b0, .slice A0 n0 c0, .int .u64 0, .string ⟨#[]⟩, .slice none 0 0]) X := fun X => by rw [hcs]; kernel_rfl
  have hix1 : ∀ X : World, (Instr.index 27 (.agg cs) (.int .i64 1)).run Tryz.prog X = .ok (.agg #[.int .i64 k1, .bool b1, .slice A1 n1 c1, .int .u64 0, .string ⟨#[]⟩, .slice none 0 0]) X := fun X => by rw [hcs]; kernel_rfl
  have hix2 : ∀ X : World, (Instr.index 27 (.agg cs) (.int .i64 2)).run Tryz.prog X = .ok (.agg #[.int .i64 k2, .bool b2, .slice A2 n2 c2, .int .u64 0, .string ⟨#[]⟩, .slice none 0 0]) X := fun X => by rw [hcs]; kernel_rfl
  have hz : (Tryz.prog.info? 27).map (·.size) = some cs.size := by rw [hcs]; kernel_rfl
  have HBL := Lib.hid hb
  have HR := Lib.hid hr
  have HK := Lib.hid hk
  clear hb hr hk hcs
  go_enter Tryz.func15, Tryz.ntmps15
  go_wp2_with (refine wpList_load_blk rfl 27 (.tmp 1) rfl w.heap.size rfl 27 cs HBL.out _ Tryz.underlying27 rfl hz ?_)
  clear hz HBL
  
  generalize ((w.alloc (.cells cs 27)).alloc (.cells #[.nilIface, .nilIface, .nilIface] 49)) = W0 at *
  go_loopw [9] (fun iv wr => ∃ k : Nat, iv = .int .i64 k ∧ k ≤ 3 ∧ ∃ u0 u1 u2, Blk wr (w.heap.size + 1) 49 #[u0, u1, u2] ∧ (1 ≤ k → AV wr u0 p0) ∧ (2 ≤ k → AV wr u1 p1) ∧ (3 ≤ k → AV wr u2 p2) ∧ Kept w wr) (fun iv _ => 3 - (intOf iv).toNat)
  case atStart => exact ⟨0, rfl, by omega, _, _, _, HR.out, fun h => absurd h (by omega), fun h => absurd h (by omega), fun h => absurd h (by omega), HK.out⟩
  case round =>
    obtain ⟨k, rfl, hk, u0, u1, u2, hb, q0, q1, q2, hkw⟩ := hrel
    obtain rfl | rfl | rfl | rfl : k = 0 ∨ k = 1 ∨ k = 2 ∨ k = 3 := by omega
    · have ha : Kept w (wr.alloc (.cells #[.int .i64 k0, .bool b0, .slice A0 n0 c0, .int .u64 0, .string ⟨#[]⟩, .slice none 0 0] 26)) := hkw.alloc hkw.size _
      have hbA : Blk (wr.alloc (.cells #[.int .i64 k0, .bool b0, .slice A0 n0 c0, .int .u64 0, .string ⟨#[]⟩, .slice none 0 0] 26)) (w.heap.size + 1) 49 #[u0, u1, u2] := hb.below ((Below.refl _ _).alloc (Nat.le_refl _) _)
      have HS := H0 _ ha
      have HA := Lib.hid ha
      have HB := Lib.hid hbA
      clear ha hb hbA hkw q0 q1 q2
      go_wp2_with fail
      refine HS.out.mono ?_
      rintro e w1 ⟨v, rfl, hv, hk1⟩
      obtain ⟨vt, vx, rfl⟩ := hv.form
      have hb1 := HB.out.below hk1
      have f1 : w1.frozen? ⟨w.heap.size + 1, 0, none⟩ = false := hb1.frozen 0
      have g1 : w1.cell? ⟨w.heap.size + 1, 0, none⟩ = some u0 := hb1.cell 0
      have HB2 := Lib.hid (hb1.set 0 (.iface vt vx))
      have hkk : Kept w w1 := Kept.trans HA.out hk1
      have hst : Kept w1 (w1.setCell ⟨w.heap.size + 1, 0, none⟩ (.iface vt vx)) ∨ True := .inr trivial
      have HK2 : Hid (Kept w (w1.setCell ⟨w.heap.size + 1, 0, none⟩ (.iface vt vx))) := Lib.hid (hkk.setCell (by simp only; omega) _)
      have HV := Lib.hid hv
      clear hkk hst hv hk1 hb1 HS
      go_wp2_with fail
      exact ⟨⟨1, by go_num, by omega, .iface vt vx, u1, u2, HB2.out, fun _ => HV.out.any, fun h => absurd h (by omega), fun h => absurd h (by omega), HK2.out⟩, by simp [intOf]⟩
    · have ha : Kept w (wr.alloc (.cells #[.int .i64 k1, .bool b1, .slice A1 n1 c1, .int .u64 0, .string ⟨#[]⟩, .slice none 0 0] 26)) := hkw.alloc hkw.size _
      have hbA : Blk (wr.alloc (.cells #[.int .i64 k1, .bool b1, .slice A1 n1 c1, .int .u64 0, .string ⟨#[]⟩, .slice none 0 0] 26)) (w.heap.size + 1) 49 #[u0, u1, u2] := hb.below ((Below.refl _ _).alloc (Nat.le_refl _) _)
      have HS := H1 _ ha
      have HA := Lib.hid ha
      have HB := Lib.hid hbA
      have HP0 := Lib.hid (q0 (by omega))
      clear ha hb hbA hkw q0 q1 q2
      go_wp2_with fail
      refine HS.out.mono ?_
      rintro e w1 ⟨v, rfl, hv, hk1⟩
      obtain ⟨vt, vx, rfl⟩ := hv.form
      have hb1 := HB.out.below hk1
      have f1 : w1.frozen? ⟨w.heap.size + 1, 1, none⟩ = false := hb1.frozen 1
      have g1 : w1.cell? ⟨w.heap.size + 1, 1, none⟩ = some u1 := hb1.cell 1
      have HB2 := Lib.hid (hb1.set 1 (.iface vt vx))
      have hkk : Kept w w1 := Kept.trans HA.out hk1
      have hst : Kept w1 (w1.setCell ⟨w.heap.size + 1, 1, none⟩ (.iface vt vx)) ∨ True := .inr trivial
      have HK2 : Hid (Kept w (w1.setCell ⟨w.heap.size + 1, 1, none⟩ (.iface vt vx))) := Lib.hid (hkk.setCell (by simp only; omega) _)
      have HV := Lib.hid hv
      clear hkk hst hv hk1 hb1 HS
      go_wp2_with fail
      exact ⟨⟨2, by go_num, by omega, u0, .iface vt vx, u2, HB2.out, fun _ => (HP0.out).any, fun _ => HV.out.any, fun h => absurd h (by omega), HK2.out⟩, by simp [intOf]⟩
    · have ha : Kept w (wr.alloc (.cells #[.int .i64 k2, .bool b2, .slice A2 n2 c2, .int .u64 0, .string ⟨#[]⟩, .slice none 0 0] 26)) := hkw.alloc hkw.size _
      have hbA : Blk (wr.alloc (.cells #[.int .i64 k2, .bool b2, .slice A2 n2 c2, .int .u64 0, .string ⟨#[]⟩, .slice none 0 0] 26)) (w.heap.size + 1) 49 #[u0, u1, u2] := hb.below ((Below.refl _ _).alloc (Nat.le_refl _) _)
      have HS := H2 _ ha
      have HA := Lib.hid ha
      have HB := Lib.hid hbA
      have HP0 := Lib.hid (q0 (by omega))
      have HP1 := Lib.hid (q1 (by omega))
      clear ha hb hbA hkw q0 q1 q2
      go_wp2_with fail
      refine HS.out.mono ?_
      rintro e w1 ⟨v, rfl, hv, hk1⟩
      obtain ⟨vt, vx, rfl⟩ := hv.form
      have hb1 := HB.out.below hk1
      have f1 : w1.frozen? ⟨w.heap.size + 1, 2, none⟩ = false := hb1.frozen 2
      have g1 : w1.cell? ⟨w.heap.size + 1, 2, none⟩ = some u2 := hb1.cell 2
      have HB2 := Lib.hid (hb1.set 2 (.iface vt vx))
      have hkk : Kept w w1 := Kept.trans HA.out hk1
      have hst : Kept w1 (w1.setCell ⟨w.heap.size + 1, 2, none⟩ (.iface vt vx)) ∨ True := .inr trivial
      have HK2 : Hid (Kept w (w1.setCell ⟨w.heap.size + 1, 2, none⟩ (.iface vt vx))) := Lib.hid (hkk.setCell (by simp only; omega) _)
      have HV := Lib.hid hv
      clear hkk hst hv hk1 hb1 HS
      go_wp2_with fail
      exact ⟨⟨3, by go_num, by omega, u0, u1, .iface vt vx, HB2.out, fun _ => (HP0.out).any, fun _ => (HP1.out).any, fun _ => HV.out.any, HK2.out⟩, by simp [intOf]⟩
    · have g0 : wr.cell? ⟨w.heap.size + 1, 0, none⟩ = some u0 := hb.cell 0
      have g1 : wr.cell? ⟨w.heap.size + 1, 1, none⟩ = some u1 := hb.cell 1
      have g2 : wr.cell? ⟨w.heap.size + 1, 2, none⟩ = some u2 := hb.cell 2
      have a0 := q0 (by omega)
      have a1 := q1 (by omega)
      have a2 := q2 (by omega)
      have hst := run_storeVar_row (P := Tryz.prog) wr (w.heap.size + 1) 49 49 _ #[u0, u1, u2] hb info_three rfl (by simp [a0.one, a1.one, a2.one])
      have HB2 : Hid (Blk (wr.setRow (w.heap.size + 1) #[u0, u1, u2]) (w.heap.size + 1) 49 #[u0, u1, u2]) := Lib.hid (setRow_heap _ _ _ _ _ _ hb)
      have HK2 := Lib.hid (below_setRow hkw (show w.heap.size ≤ w.heap.size + 1 by omega) #[u0, u1, u2])
      have HA0 := Lib.hid a0
      have HA1 := Lib.hid a1
      have HA2 := Lib.hid a2
      simp [go_sem] at hst
      clear a0 a1 a2 q0 q1 q2 hkw hb H0 H1 H2 hix0 hix1 hix2
      go_wp2_with fail
      refine bodyPost_ret (results_arr_tmp rfl _ _ _ (w.heap.size + 1) 49 #[u0, u1, u2] _ _ _ rfl HB2.out Tryz.underlying49 (by exact info_three)) rfl ?_
      exact ⟨u0, u1, u2, rfl, HA0.out.any, HA1.out.any, HA2.out.any, HK2.out⟩
end Go.Proofs.YtdbdpllafknlcaaGreat
