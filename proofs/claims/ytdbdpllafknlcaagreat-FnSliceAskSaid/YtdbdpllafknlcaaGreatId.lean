/- The integers of the laws as both sides have them. -/
import Derived.Test.YtdbdpllafknlcaaGreatIc
namespace Go.Proofs.YtdbdpllafknlcaaGreat
open Go.ChangeShapes Go.WideShapes Go.ChangeAt Go.RowKit
set_option linter.unusedVariables false
/-- as 'VI', the digits in a block from B on -/
def VIf (B : Nat) (w : World) (v : Value) (z : Int) : Prop :=
  ∃ A c l, v = .agg #[.int .i64 2, .bool (decide (z < 0)), .slice A l.length c, .int .u64 0, .string ⟨#[]⟩, .slice none 0 0] ∧ Sl w A c (by8 l) ∧ BE l z.natAbs ∧ Fz B A
theorem VIf.toVI {B : Nat} {w : World} {v : Value} {z : Int} (h : VIf B w v z) : VI w v z := by
  obtain ⟨A, c, l, e, hs, hl, _⟩ := h
  exact ⟨A, c, l, e, hs, hl⟩
theorem VIf.below {B : Nat} {w w' : World} {v : Value} {z : Int} (h : VIf B w v z) (hb : Kept w w') : VIf B w' v z := by
  obtain ⟨A, c, l, e, hs, hl, hf⟩ := h
  exact ⟨A, c, l, e, hs.below hb, hl, hf⟩
theorem VIf.mono {B B' : Nat} {w : World} {v : Value} {z : Int} (h : VIf B w v z) (hB : B' ≤ B) : VIf B' w v z := by
  obtain ⟨A, c, l, e, hs, hl, hf⟩ := h
  exact ⟨A, c, l, e, hs, hl, hf.mono hB⟩
theorem VIf.setRow {B : Nat} {w : World} {v : Value} {z : Int} (h : VIf B w v z) {k : Nat} (hk : k < B) (cs : Array Value) : VIf B (w.setRow k cs) v z := by
  obtain ⟨A, c, l, e, hs, hl, hf⟩ := h
  exact ⟨A, c, l, e, hs.setRow hf hk cs, hl, hf⟩
def RetVI (w : World) (z : Int) (e : Ending) (w' : World) : Prop := ∃ v, e = .returned v ∧ VIf w.heap.size w' v z ∧ Kept w w'
theorem own_slice {w : World} {B e n : Nat} {v : Value} {xs : List Value} (h : w.ownsRow B e 1 v n xs) : ∃ A c, v = .slice A n c := by
  rcases h.2 with ⟨e1, e2⟩ | ⟨g, cap, cur, e1, _⟩
  · subst e2; exact ⟨_, _, e1⟩
  · exact ⟨_, _, e1⟩
theorem info_Val : (Tryz.prog.info? 26).map (·.size) = some 6 := by kernel_rfl

set_option maxRecDepth 100000 in
theorem get_any (x : Int) (p : Option Addr) (w : World) :
    Calls Tryz.prog 38 #[.agg #[.int .i64 x, .pointer p]] w fun e w' => e = .returned (.tuple #[.int .i64 x, .pointer p]) ∧ Kept w w' := by
  go_enter Tryz.func38, Tryz.ntmps38
  go_wp2_with fail
  go_quiet (fail)
  go_wp2_with fail
  go_ret2
  exact ⟨rfl, ((Below.refl _ _).alloc (Nat.le_refl _) _).trans ⟨rfl, rfl, rfl, Nat.le_refl _, fun _ _ => rfl⟩⟩
/-- bytes that came in as a row read as a slice of bytes -/
theorem row_sl {w : World} {a : Option Addr} {len cap : Nat} {zs : List Int}
    (h : (a = none ∧ len = 0 ∧ cap = 0 ∧ zs = []) ∨
      ∃ x, a = some x ∧ len ≤ cap ∧ cap ≤ maxLen ∧ zs.length = cap ∧ (∀ i, i < zs.length → w.cell? (x.add i) = some (.int .u8 (zs.getD i 0))) ∧ ∀ n ∈ zs, (Lit.int .u8 n).wf = true) :
    ∃ l : List Nat, len = l.length ∧ Sl w a cap (by8 l) ∧ (∀ d ∈ l, d < 256) := by
  rcases h with ⟨rfl, rfl, rfl, rfl⟩ | ⟨x, rfl, h1, h2, h3, h4, h5⟩
  · exact ⟨[], rfl, Sl.nil w, by simp⟩
  · have hb : ∀ n ∈ zs, 0 ≤ n ∧ n < 256 := fun n hn => by
      have := h5 n hn
      simp [Lit.wf, IntKind.min, IntKind.max, IntKind.signed, IntKind.bits] at this
      omega
    refine ⟨(zs.take len).map Int.toNat, by simp; omega, ⟨by rw [by8_len]; simp; omega, h2, fun hx => ?_⟩, ?_⟩
    · have hne : 0 < zs.length := by
        rcases Nat.eq_zero_or_pos zs.length with h0 | h0
        · exact absurd (by rw [List.eq_nil_of_length_eq_zero h0]; simp [by8]) hx
        · exact h0
      have hspot := World.cell?_spot (h4 0 hne)
      obtain ⟨b, off, spot⟩ := x
      have hsp : spot = none := by simpa [Addr.add] using hspot
      subst hsp
      refine ⟨b, off, rfl, fun j u hu => ?_⟩
      have hj : j < zs.length ∧ j < len := by
        have := (List.getElem?_eq_some_iff.1 hu).1
        rw [by8_len] at this
        simp at this
        omega
      have hg := h4 j hj.1
      have e : (⟨b, off, none⟩ : Addr).add j = ⟨b, off + j, none⟩ := by by_cases h0 : j = 0 <;> simp [Addr.add, h0]
      rw [e] at hg
      rw [hg]
      rw [by8_get _ _ (by simp; omega)] at hu
      simp only [List.getElem_map, List.getElem_take] at hu
      have hm := hb _ (List.getElem_mem hj.1)
      rw [← hu, List.getD_eq_getElem?_getD, List.getElem?_eq_getElem hj.1, Option.getD_some]
      congr 2
      omega
    · intro d hd
      obtain ⟨n, hn, rfl⟩ := List.mem_map.1 hd
      have := hb n (List.mem_of_mem_take hn)
      omega
end Go.Proofs.YtdbdpllafknlcaaGreat
