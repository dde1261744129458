import Derived.Test.YtikjdibngkcpkaaW7
import Derived.Laws.BitsAllLaws
namespace Go.Proofs.Ytikjdibngkcpkaa
open Go.ChangeShapes Go.WideShapes Go.ChangeAt Go.RowKit
set_option linter.unusedVariables false
set_option maxRecDepth 100000 in
theorem addR_any (A0 : Option Addr) (c0 : Nat) (A : Option Addr) (c : Nat) (ws : List Nat) (hl : ws.length ≤ 268435456) (h0 : 0 < ws.length) (w : World) (hs : Sl w A c (w64 ws)) :
    Calls Try.prog 102 #[.slice none 0 0, .slice A ws.length c, .slice A0 0 c0] w (RetWs w ws) := by
  have HS := Lib.hid (set_any A c ws hl w hs)
  have n1 : ¬ ((ws.length : Int) < 0) := by omega
  have n2 : ((ws.length : Int) == 0) = false := by rw [beq_eq_false_iff_ne]; omega
  clear hs
  go_enter Try.func102, Try.ntmps102
  go_wp2_with fail
  refine (HS.out).mono ?_
  rintro e w1 ⟨A1, c1, rfl, q⟩
  have Q := Lib.hid q
  clear q
  go_wp2_with fail
  go_ret
  exact ⟨A1, c1, rfl, Q.out⟩
set_option maxRecDepth 100000 in
theorem addL_any (A0 : Option Addr) (c0 : Nat) (A : Option Addr) (c : Nat) (ws : List Nat) (hl : ws.length ≤ 268435456) (h0 : 0 < ws.length) (w : World) (hs : Sl w A c (w64 ws)) :
    Calls Try.prog 102 #[.slice none 0 0, .slice A0 0 c0, .slice A ws.length c] w (RetWs w ws) := by
  have HS := Lib.hid (addR_any A0 c0 A c ws hl h0 w hs)
  have n1 : (0 : Int) < (ws.length : Int) := by omega
  clear hs
  go_enter Try.func102, Try.ntmps102
  go_wp2_with fail
  refine (HS.out).mono ?_
  rintro e w1 ⟨A1, c1, rfl, q⟩
  have Q := Lib.hid q
  clear q
  go_wp2_with fail
  go_ret
  exact ⟨A1, c1, rfl, Q.out⟩
def RetOne (w : World) (e : Ending) (w' : World) : Prop := ∃ A c, e = .returned (.slice A 1 c) ∧ Sl w' A c (w64 [1]) ∧ Kept w w'
set_option maxRecDepth 100000 in
theorem natOne_any (w : World) : Calls Try.prog 100 #[] w (RetOne w) := by
  go_enter Try.func100, Try.ntmps100
  go_wp2_with fail
  go_ret
  refine ⟨_, _, rfl, ⟨by simp [w64], by unfold maxLen; omega, fun _ => ⟨_, _, rfl, fun j u hu => ?_⟩⟩, (Below.refl _ _).alloc (Nat.le_refl _) _⟩
  rw [Nat.zero_add, cell_of_row _ _ j _ _ _ (heap_alloc_new w _)]
  rw [← hu]
  exact (List.getElem?_toArray ..)
theorem one_lt : ∀ d ∈ ([1] : List Nat), d < Num.B64 := fun d hd => by
  have : d = 1 := by simpa using hd
  subst this
  decide
theorem RetNat.of_ws {w : World} {ws : List Nat} {N : Nat} (hl : LW ws N) (e : Ending) (w' : World) (h : RetWs w ws e w') : RetNat w N e w' := by
  obtain ⟨A, c, e1, hs, hf, hk⟩ := h
  exact ⟨A, c, ws, e1, hs, hf, hl, hk⟩
/-- one more -/
theorem natInc_any (Ax A1 : Option Addr) (cx c1 : Nat) (xs : List Nat) (X : Nat) (hX : LW xs X) (h3 : xs.length ≤ 100000) (w : World) (hs : Sl w Ax cx (w64 xs)) (ht : Sl w A1 c1 (w64 [1])) :
    Calls Try.prog 102 #[.slice none 0 0, .slice Ax xs.length cx, .slice A1 1 c1] w (RetNat w (X + 1)) := by
  rcases Nat.eq_zero_or_pos xs.length with h0 | h0
  · have hx : xs = [] := List.length_eq_zero_iff.1 h0
    subst hx
    have hX0 : X = 0 := by rw [← hX.2]; rfl
    subst hX0
    exact (addL_any Ax cx A1 c1 [1] (by simp) (by simp) w ht).mono (fun e w' h => RetNat.of_ws (lw_one 1 (by decide) (by decide)) e w' h)
  · have := natAdd_core Ax A1 cx c1 xs [1] (by simp) (by simp; omega) h3 hX.1.1 one_lt w hs ht
    rw [hX.2] at this
    exact this
/-- one less -/
theorem natDec_any (Ax A1 : Option Addr) (cx c1 : Nat) (xs : List Nat) (X : Nat) (hX : LW xs (X + 1)) (h3 : xs.length ≤ 100000) (w : World) (hs : Sl w Ax cx (w64 xs)) (ht : Sl w A1 c1 (w64 [1])) :
    Calls Try.prog 99 #[.slice none 0 0, .slice Ax xs.length cx, .slice A1 1 c1] w (RetNat w X) := by
  have h0 : 0 < xs.length := by
    rcases Nat.eq_zero_or_pos xs.length with h0 | h0
    · have hx : xs = [] := List.length_eq_zero_iff.1 h0
      subst hx
      have := hX.2
      simp [Num.le] at this
    · exact h0
  exact natSub_core Ax A1 cx c1 xs [1] X (by rw [hX.2]; simp [Num.le]) (by simp) (by simp; omega) h3 hX.1.1 one_lt w hs ht
end Go.Proofs.Ytikjdibngkcpkaa
