/- One more, one less. -/
import Derived.Test.YtamocmelhnmkeaaGreatW6
import Derived.Test.YtamocmelhnmkeaaGreatSz
import Derived.Laws.BitsAllLaws
namespace Go.Proofs.YtamocmelhnmkeaaGreat
open Go.ChangeShapes Go.WideShapes Go.ChangeAt Go.RowKit
set_option linter.unusedVariables false
def RetOne (w : World) (e : Ending) (w' : World) : Prop := ∃ A c, e = .returned (.slice A 1 c) ∧ Sl w' A c (w64 [1]) ∧ Kept w w'
set_option maxRecDepth 100000 in
theorem natOne_any (w : World) : Calls Tryz.prog 114 #[] w (RetOne w) := by
  go_enter Tryz.func114, Tryz.ntmps114
  go_wp2_with fail
  go_ret
  refine ⟨_, _, rfl, ⟨by simp [w64], by unfold maxLen; omega, fun _ => ⟨_, _, rfl, fun j u hu => ?_⟩⟩, (Below.refl _ _).alloc (Nat.le_refl _) _⟩
  rw [Nat.zero_add, cell_of_row _ _ j _ _ _ (heap_alloc_new w _)]
  rw [← hu]
  exact (List.getElem?_toArray ..)
theorem one_lt : ∀ d ∈ ([1] : List Nat), d < Num.B64 := fun d hd => by
  have : d = 1 := by simpa using hd
  subst this
  decide
theorem RetNat.of_ws {w : World} {ws : List Nat} {N : Nat} (hl : LW ws N) (e : Ending) (w' : World) (h : RetWs w ws e w') : RetNat w N e w' := by
  obtain ⟨A, c, e1, hs, hf, hk⟩ := h
  exact ⟨A, c, ws, e1, hs, hf, hl, hk⟩
/-- one more -/
theorem natInc_any (Ax A1 : Option Addr) (cx c1 : Nat) (xs : List Nat) (X : Nat) (hX : LW xs X) (h3 : xs.length ≤ 100000) (w : World) (hs : Sl w Ax cx (w64 xs)) (ht : Sl w A1 c1 (w64 [1])) :
    Calls Tryz.prog 110 #[.slice none 0 0, .slice Ax xs.length cx, .slice A1 1 c1] w (RetNat w (X + 1)) := by
  rcases Nat.eq_zero_or_pos xs.length with h0 | h0
  · have hx : xs = [] := List.length_eq_zero_iff.1 h0
    subst hx
    have hX0 : X = 0 := by rw [← hX.2]; rfl
    subst hX0
    exact (addL_any Ax cx A1 c1 [1] (by simp) (by simp) w ht).mono (fun e w' h => RetNat.of_ws (lw_one 1 (by decide) (by decide)) e w' h)
  · have := natAdd_core Ax A1 cx c1 xs [1] (by simp) (by simp; omega) h3 hX.1.1 one_lt w hs ht
    rw [hX.2] at this
    exact this
/-- one less -/
theorem natDec_any (Ax A1 : Option Addr) (cx c1 : Nat) (xs : List Nat) (X : Nat) (hX : LW xs (X + 1)) (h3 : xs.length ≤ 100000) (w : World) (hs : Sl w Ax cx (w64 xs)) (ht : Sl w A1 c1 (w64 [1])) :
    Calls Tryz.prog 112 #[.slice none 0 0, .slice Ax xs.length cx, .slice A1 1 c1] w (RetNat w X) := by
  have h0 : 0 < xs.length := by
    rcases Nat.eq_zero_or_pos xs.length with h0 | h0
    · have hx : xs = [] := List.length_eq_zero_iff.1 h0
      subst hx
      have := hX.2
      simp [Num.le] at this
    · exact h0
  exact natSub_core Ax A1 cx c1 xs [1] X (by rw [hX.2]; simp [Num.le]) (by simp) (by simp; omega) h3 hX.1.1 one_lt w hs ht
end Go.Proofs.YtamocmelhnmkeaaGreat
