/- One step of reading a literal of bytes. -/
import Derived.Test.YtmcemcpnhlmbhaaDoorBo
open Go.Lib
namespace Go.Proofs.YtmcemcpnhlmbhaaDoor
open Go.ChangeShapes Go.WideShapes Go.ChangeAt Go.RowKit
set_option linter.unusedVariables false
theorem hexDigits4 (r : Nat) (h : r < 65536) : ∃ ds : List Nat, ds.length = 4 ∧ (∀ x ∈ ds, x < 16) ∧ Lib.hexDigits r 4 = ds.map Lib.hexDigit ∧ hexv ds = r := by
  refine ⟨[r / 4096 % 16, r / 256 % 16, r / 16 % 16, r / 1 % 16], rfl, ?_, by simp [Lib.hexDigits], ?_⟩
  · intro x hx
    simp only [List.mem_cons, List.not_mem_nil, or_false] at hx
    omega
  · simp only [hexv, List.foldl_cons, List.foldl_nil]
    omega
theorem hexDigits8 (r : Nat) (h : r < 4294967296) : ∃ ds : List Nat, ds.length = 8 ∧ (∀ x ∈ ds, x < 16) ∧ Lib.hexDigits r 8 = ds.map Lib.hexDigit ∧ hexv ds = r := by
  refine ⟨[r / 268435456 % 16, r / 16777216 % 16, r / 1048576 % 16, r / 65536 % 16, r / 4096 % 16, r / 256 % 16, r / 16 % 16, r / 1 % 16], rfl, ?_, by simp [Lib.hexDigits], ?_⟩
  · intro x hx
    simp only [List.mem_cons, List.not_mem_nil, or_false] at hx
    omega
  · simp only [hexv, List.foldl_cons, List.foldl_nil]
    omega
/-- one step of reading: a plain byte, or an escape that gives so many bytes -/
theorem step_any (T : PrintTabs) (I : ByteArray) (p : Nat) (hp : p < I.size) (o tot : List Int) (h : RdSt T ((bz I).drop p) o tot) :
    (∃ e, plain e ∧ (∃ hi : p < I.size, ((I[p]'hi).toNat : Int) = e) ∧ RdSt T ((bz I).drop (p + 1)) (o ++ [e]) tot) ∨
    (∃ ys size, (∃ hi : p < I.size, ((I[p]'hi).toNat : Int) = 92) ∧ 0 < size ∧ p + size ≤ I.size ∧ ys.length ≤ 4 ∧ RdSt T ((bz I).drop (p + size)) (o ++ ys) tot ∧
      ∀ w, Calls Tryd.prog 6 #[.string (I.extract p I.size), .bool true] w (RetPart w ys size)) := by
  have hne : (bz I).drop p ≠ [] := by
    intro e
    have := congrArg List.length e
    rw [List.length_drop, bz_len, List.length_nil] at this
    omega
  have hx := bz_rest I p
  have hat : ∀ (x : Int) (B' : List Int), (bz I).drop p = x :: B' → ∃ hi : p < I.size, ((I[p]'hi).toNat : Int) = x := fun x B' e => by
    refine bz_at rfl p x ?_
    have : ((bz I).drop p)[0]? = some x := by rw [e]; rfl
    rw [List.getElem?_drop] at this
    simpa using this
  have hrest : ∀ (pre B' : List Int), (bz I).drop p = pre ++ B' → (bz I).drop (p + pre.length) = B' ∧ p + pre.length ≤ I.size := fun pre B' e => by
    refine ⟨?_, ?_⟩
    · rw [← List.drop_drop, e, List.drop_left]
    · have := congrArg List.length e
      rw [List.length_drop, bz_len, List.length_append] at this
      omega
  rcases next T _ o tot h hne with ⟨e, B', hB, he, hR⟩ | ⟨c, d, B', hB, hm, hR⟩ | ⟨a, b, B', ha, hb, hB, hR⟩ | ⟨r, B', h1, h2, hv, hB, hR⟩ | ⟨r, B', h1, h2, hB, hR⟩
  · left
    obtain ⟨hd, _⟩ := hrest [e] B' (by rw [hB]; rfl)
    exact ⟨e, he, hat e B' hB, by rw [show p + 1 = p + [e].length from rfl, hd]; exact hR⟩
  · right
    obtain ⟨hd, hl⟩ := hrest [92, c] B' (by rw [hB]; rfl)
    exact ⟨[d], 2, hat 92 _ hB, by omega, hl, by simp, by rw [show p + 2 = p + [92, c].length from rfl, hd]; exact hR, fun w => escape_letter c d hm _ B' (by rw [hx, hB]) w⟩
  · right
    obtain ⟨hd, hl⟩ := hrest [92, 120, Lib.hexDigit a, Lib.hexDigit b] B' (by rw [hB]; rfl)
    refine ⟨[((16 * a + b : Nat) : Int)], 4, hat 92 _ hB, by omega, hl, by simp, by rw [show p + 4 = p + [92, 120, Lib.hexDigit a, Lib.hexDigit b].length from rfl, hd]; exact hR, fun w => escape_x [a, b] rfl ?_ _ B' (by rw [hx, hB]; rfl) _ w ?_⟩
    · intro x hx
      simp only [List.mem_cons, List.not_mem_nil, or_false] at hx
      omega
    · intro w'
      have e : hexv [a, b] = 16 * a + b := by simp [hexv]
      rw [e]
      exact coded_byte (16 * a + b) 4 (by omega) w'
  · right
    obtain ⟨ds, hl4, hd16, hds, hvv⟩ := hexDigits4 r h2
    rw [hds] at hB
    obtain ⟨hd, hl⟩ := hrest (92 :: 117 :: ds.map Lib.hexDigit) B' (by rw [hB]; rfl)
    simp only [List.length_cons, List.length_map, hl4] at hd hl
    refine ⟨Lib.encodeRuneZ r, 6, hat 92 _ hB, by omega, hl, Lib.encodeRuneZ_length_le _, by rw [hd]; exact hR, fun w => escape_u ds hl4 hd16 _ B' (by rw [hx, hB]) _ w ?_⟩
    intro w'
    rw [hvv]
    exact coded_rune r 6 (by omega) hv w'
  · right
    obtain ⟨ds, hl8, hd16, hds, hvv⟩ := hexDigits8 r (by omega)
    rw [hds] at hB
    obtain ⟨hd, hl⟩ := hrest (92 :: 85 :: ds.map Lib.hexDigit) B' (by rw [hB]; rfl)
    simp only [List.length_cons, List.length_map, hl8] at hd hl
    refine ⟨Lib.encodeRuneZ r, 10, hat 92 _ hB, by omega, hl, Lib.encodeRuneZ_length_le _, by rw [hd]; exact hR, fun w => escape_v ds hl8 hd16 _ B' (by rw [hx, hB]) _ w ?_⟩
    intro w'
    rw [hvv]
    exact coded_rune r 10 (by omega) (by simp [Lib.validRune]; omega) w'
theorem rd_len {T : PrintTabs} {B o tot : List Int} (h : RdSt T B o tot) : o.length ≤ tot.length := by
  obtain ⟨E, f, rest, _, _, _, ht⟩ := h
  have := congrArg List.length ht
  simp only [List.length_append] at this
  omega
end Go.Proofs.YtmcemcpnhlmbhaaDoor
