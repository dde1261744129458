/- spec.escape at a letter. -/
import Derived.Test.YtmcemcpnhlmbhaaDoorBm
open Go.Lib
namespace Go.Proofs.YtmcemcpnhlmbhaaDoor
open Go.ChangeShapes Go.WideShapes Go.ChangeAt Go.RowKit
set_option linter.unusedVariables false
theorem bz_size {s : ByteArray} {l : List Int} (h : bz s = l) : s.size = l.length := by rw [← bz_len, h]
theorem bz_at {s : ByteArray} {l : List Int} (hs : bz s = l) (i : Nat) (x : Int) (hx : l[i]? = some x) : ∃ h : i < s.size, ((s[i]'h).toNat : Int) = x := by
  have hi : i < s.size := by
    rw [bz_size hs]
    exact (List.getElem?_eq_some_iff.1 hx).1
  have h2 := bz_get s i hi
  rw [hs, hx] at h2
  exact ⟨hi, (Option.some.inj h2).symm⟩
set_option maxRecDepth 100000 in
set_option maxHeartbeats 4000000 in
theorem escape_letter (c d : Int) (hm : (c, d) ∈ escs) (s : ByteArray) (B' : List Int) (hs : bz s = 92 :: c :: B') (w : World) :
    Calls Tryd.prog 6 #[.string s, .bool true] w (RetPart w [d] 2) := by
  obtain ⟨h1, hx⟩ := bz_at hs 1 c rfl
  have hz : 2 ≤ s.size := by omega
  have hz' : ¬ (s.size : Int) < 2 := by omega
  have hz1 : (1 : Int) < (s.size : Int) := by omega
  clear hs
  simp only [escs, List.mem_cons, Prod.mk.injEq, List.not_mem_nil, or_false] at hm
  rcases hm with ⟨rfl, rfl⟩ | ⟨rfl, rfl⟩ | ⟨rfl, rfl⟩ | ⟨rfl, rfl⟩ | ⟨rfl, rfl⟩ | ⟨rfl, rfl⟩ | ⟨rfl, rfl⟩ | ⟨rfl, rfl⟩ | ⟨rfl, rfl⟩
  all_goals (
    go_enter Tryd.func6, Tryd.ntmps6
    go_wp2_with fail
    refine wp_loop_rounds 11 ?_
    repeat (
      rw [rounds_succ]
      go_wp2_with fail
      go_quiet (fail)
      go_wp2_with fail)
    go_returns
    refine ⟨_, 1, rfl, one_cells _ _, ?_⟩
    refine Kept.trans ?_ ((Below.refl _ _).alloc (Nat.le_refl _) _)
    repeat' (first | exact Below.refl _ _ | refine Kept.trans ?_ (kept_drewN _ _)))
end Go.Proofs.YtmcemcpnhlmbhaaDoor
