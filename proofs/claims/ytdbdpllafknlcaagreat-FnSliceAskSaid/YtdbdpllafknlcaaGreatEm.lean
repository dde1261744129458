/- The law's argument out of its reading. -/
import Derived.Test.YtdbdpllafknlcaaGreatEk
import Derived.WalkKit
import Derived.ProofKit
import Derived.OpenShut
import Derived.ShutString
import Derived.ChangeOld
import Derived.SizedLaws
import Derived.Lib.SmallJoins
namespace Go.Proofs.YtdbdpllafknlcaaGreat
open Go.ChangeShapes Go.WideShapes Go.ChangeAt Go.RowKit
set_option linter.unusedVariables false
section
variable {H : Type} {enc : TypeId × Value → H}
theorem list6 {α : Type} {xs : List α} (h : xs.length = 6) : ∃ a b c d e f, xs = [a, b, c, d, e, f] := by
  match xs, h with
  | [a, b, c, d, e, f], _ => exact ⟨a, b, c, d, e, f, rfl⟩
theorem list3 {α : Type} {xs : List α} (h : xs.length = 3) : ∃ a b c, xs = [a, b, c] := by
  match xs, h with
  | [a, b, c], _ => exact ⟨a, b, c, rfl⟩
/-- one part out of its reading -/
theorem part_of {W : World} {base fuel : Nat} {held : Bool} {c0 c1 c2 c3 c4 c5 : Value} {x : DataW H × List MemPlace} (h : DataW.trod enc Tryz.prog W base (fun _ => true) held fuel 26 [c0, c1, c2, c3, c4, c5] = some x)
    (hsz : ∀ n ∈ DataW.weights Tryz.prog 26 x.1, n ≤ reachBytes) :
    ∃ (k q : Int) (b : Bool) (A K : Option Addr) (c m e : Nat) (T : ByteArray) (l : List Nat), c0 = .int .i64 k ∧ c1 = .bool b ∧ c2 = .slice A l.length c ∧ c3 = .int .u64 q ∧ c4 = .string T ∧ c5 = .slice K m e ∧
      l.length ≤ 140737488351232 ∧ (∀ d ∈ l, d < 256) ∧ Sl W A c (by8 l) := by
  have t1 : Tryz.prog.cellsOf 3 = 1 := by kernel_rfl
  have t2 : Tryz.prog.cellsOf 4 = 1 := by kernel_rfl
  have t3 : Tryz.prog.cellsOf 22 = 1 := by kernel_rfl
  have t4 : Tryz.prog.cellsOf 23 = 1 := by kernel_rfl
  have t5 : Tryz.prog.cellsOf 9 = 1 := by kernel_rfl
  have t6 : Tryz.prog.cellsOf 24 = 1 := by kernel_rfl
  have t7 : Tryz.prog.cellsOf 5 = 1 := by kernel_rfl
  have t8 : Tryz.prog.bytesOf 5 = 1 := by kernel_rfl
  obtain ⟨xs, n, rfl, rfl, hl, hlen, hf⟩ := DataW.trod_struct Tryz.underlying26 h
  obtain ⟨y0, y1, y2, y3, y4, y5, rfl⟩ := list6 hlen
  have h0 := hf 0 _ rfl
  have h1 := hf 1 _ rfl
  have h2 := hf 2 _ rfl
  have h3 := hf 3 _ rfl
  have h4 := hf 4 _ rfl
  have h5 := hf 5 _ rfl
  simp [t1, t2, t3, t4, t5, t6] at h0 h1 h2 h3 h4 h5
  obtain ⟨k, e0, _, _⟩ := DataW.trod_int Tryz.underlying3 h0
  obtain ⟨b, e1, _⟩ := DataW.trod_bool Tryz.underlying4 h1
  obtain ⟨q, e3, _, _⟩ := DataW.trod_int Tryz.underlying23 h3
  obtain ⟨T, e4, _, _⟩ := DataW.trod_string Tryz.underlying9 h4
  obtain ⟨K, m, e, e5⟩ := Joins.slice_form Tryz.underlying24 h5
  have hw : ∀ n ∈ DataW.weights Tryz.prog 22 y2.1, n ≤ reachBytes := fun n hn => hsz n (by
    simp only [List.map_cons, List.map_nil, DataW.weights, Tryz.underlying26]
    exact DataW.weights_mem_each (j := 2) rfl rfl n hn)
  have hr : ∃ (A : Option Addr) (len cap : Nat) (zs : List Int), c2 = .slice A len cap ∧ len ≤ 140737488351232 ∧ ((A = none ∧ len = 0 ∧ cap = 0 ∧ zs = []) ∨
      ∃ x, A = some x ∧ len ≤ cap ∧ cap ≤ maxLen ∧ zs.length = cap ∧ (∀ i, i < zs.length → W.cell? (x.add i) = some (.int .u8 (zs.getD i 0))) ∧ ∀ n ∈ zs, (Lit.int .u8 n).wf = true) := by
    rcases open_ints Tryz.underlying22 Tryz.underlying5 t7 h2 with ⟨hcs, _⟩ | ⟨a, len, cap, zs, hcs, _, hl', hm, hz, hy, hcell, hwz⟩
    · simp at hcs
      exact ⟨none, 0, 0, [], hcs, by omega, .inl ⟨rfl, rfl, rfl, rfl⟩⟩
    · simp at hcs
      have hz' : zs.length = cap := by simpa using hz
      have h9 := hw ((lits .u8 (zs.take len)).length + (lits .u8 (zs.drop len)).length) (by
        rw [hy]
        simp [DataW.weights, Tryz.underlying22, t8]
        exact Or.inl rfl)
      refine ⟨some a, len, cap, zs, hcs, ?_, .inr ⟨a, rfl, hl', hm, hz', hcell, hwz⟩⟩
      have hre : reachBytes = 140737488351232 := by decide
      simp [lits, hre] at h9
      omega
  obtain ⟨A, len, cap, zs, e2, hle, hrow⟩ := hr
  obtain ⟨l, rfl, hs, hd⟩ := row_sl hrow
  simp at e0 e1 e3 e4 e5
  exact ⟨k, q, b, A, K, cap, m, e, T, l, e0, e1, e2, e3, e4, e5, hle, hd, hs⟩
end
section
variable {H : Type} {enc : TypeId × Value → H}
set_option maxRecDepth 100000 in
theorem list18 {α : Type} {cs : Array α} (h : cs.size = 18) : ∃ a0 a1 a2 a3 a4 a5 b0 b1 b2 b3 b4 b5 c0 c1 c2 c3 c4 c5, cs = #[a0, a1, a2, a3, a4, a5, b0, b1, b2, b3, b4, b5, c0, c1, c2, c3, c4, c5] := by
  obtain ⟨l⟩ := cs
  match l, h with
  | [a0, a1, a2, a3, a4, a5, b0, b1, b2, b3, b4, b5, c0, c1, c2, c3, c4, c5], _ => exact ⟨a0, a1, a2, a3, a4, a5, b0, b1, b2, b3, b4, b5, c0, c1, c2, c3, c4, c5, rfl⟩
set_option maxRecDepth 100000 in
/-- three parts out of their reading -/
theorem parts_of {W : World} {r : Reach} {b0' : Nat} {v : Value} {d : DataW H} {p : List MemPlace} (hv : Value.okWide Tryz.prog W r b0' 27 v) (h : DataW.Trod enc Tryz.prog W 0 (fun _ => true) true 27 v d p)
    (hsz : ∀ n ∈ DataW.weights Tryz.prog 27 d, n ≤ reachBytes) :
    ∃ (k0 q0 k1 q1 k2 q2 : Int) (b0 b1 b2 : Bool) (A0 A1 A2 K0 K1 K2 : Option Addr) (c0 c1 c2 m0 m1 m2 e0 e1 e2 : Nat) (T0 T1 T2 : ByteArray) (l0 l1 l2 : List Nat),
      v = .agg #[.int .i64 k0, .bool b0, .slice A0 l0.length c0, .int .u64 q0, .string T0, .slice K0 m0 e0, .int .i64 k1, .bool b1, .slice A1 l1.length c1, .int .u64 q1, .string T1, .slice K1 m1 e1, .int .i64 k2, .bool b2, .slice A2 l2.length c2, .int .u64 q2, .string T2, .slice K2 m2 e2] ∧
      (l0.length ≤ 140737488351232 ∧ (∀ d ∈ l0, d < 256) ∧ Sl W A0 c0 (by8 l0)) ∧ (l1.length ≤ 140737488351232 ∧ (∀ d ∈ l1, d < 256) ∧ Sl W A1 c1 (by8 l1)) ∧ (l2.length ≤ 140737488351232 ∧ (∀ d ∈ l2, d < 256) ∧ Sl W A2 c2 (by8 l2)) := by
  have t1 : Tryz.prog.cellsOf 27 = 18 := by kernel_rfl
  have t2 : Tryz.prog.cellsOf 26 = 6 := by kernel_rfl
  obtain ⟨cs, rfl, hcs⟩ : ∃ cs, v = .agg cs ∧ cs.size = 18 := by
    simp only [Value.okWide, Tryz.underlying27] at hv
    obtain ⟨cs, h1, h2, _⟩ := hv
    exact ⟨cs, h1, h2.trans t1⟩
  obtain ⟨a0, a1, a2, a3, a4, a5, b0, b1, b2, b3, b4, b5, c0, c1, c2, c3, c4, c5, rfl⟩ := list18 hcs
  obtain ⟨fuel, hf⟩ := h
  obtain ⟨xs, m, rfl, hx, hl, hlen, hfi⟩ := DataW.trod_array Tryz.underlying27 hf
  obtain ⟨y0, y1, y2, rfl⟩ := list3 hlen
  simp only [Prod.mk.injEq] at hx
  have h0 := hfi 0 (by omega)
  have h1 := hfi 1 (by omega)
  have h2 := hfi 2 (by omega)
  simp [t2, Value.cells] at h0 h1 h2
  have hw : ∀ y, (y = y0 ∨ y = y1 ∨ y = y2) → ∀ n ∈ DataW.weights Tryz.prog 26 y.1, n ≤ reachBytes := fun y hy n hn => hsz n (by
    rw [hx.1]
    simp only [List.map_cons, List.map_nil, DataW.weights, Tryz.underlying27, DataW.weightsAll, List.mem_append]
    rcases hy with rfl | rfl | rfl
    · exact .inl hn
    · exact .inr (.inl hn)
    · exact .inr (.inr (.inl hn)))
  obtain ⟨k0, q0, f0, A0, K0, d0, m0, e0, T0, l0, rfl, rfl, rfl, rfl, rfl, rfl, r0⟩ := part_of h0 (hw y0 (.inl rfl))
  obtain ⟨k1, q1, f1, A1, K1, d1, m1, e1, T1, l1, rfl, rfl, rfl, rfl, rfl, rfl, r1⟩ := part_of h1 (hw y1 (.inr (.inl rfl)))
  obtain ⟨k2, q2, f2, A2, K2, d2, m2, e2, T2, l2, rfl, rfl, rfl, rfl, rfl, rfl, r2⟩ := part_of h2 (hw y2 (.inr (.inr rfl)))
  exact ⟨k0, q0, k1, q1, k2, q2, f0, f1, f2, A0, A1, A2, K0, K1, K2, d0, d1, d2, m0, m1, m2, e0, e1, e2, T0, T1, T2, l0, l1, l2, rfl, r0, r1, r2⟩
end
end Go.Proofs.YtdbdpllafknlcaaGreat
