/- The made graph, frozen. -/
import Derived.Test.YtoociokhldakbaaGreatNC
import Derived.Test.YtoociokhldakbaaGreatN8
import Derived.OwnWalk
import Derived.Deep.DeepMust
import Derived.Deep.AppendLies
namespace Go.Proofs.YtoociokhldakbaaGreat
open Go.ChangeShapes Go.WideShapes Go.ChangeAt Go.RowKit
set_option linter.unusedVariables false
def sA : Value → Option Addr | .slice A _ _ => A | _ => none
def sC : Value → Nat | .slice _ _ c => c | _ => 0
/-- the node with its list's row as it is now -/
def kdS (kd : Nat → NK) (S : Nat → Value) (j : Nat) : NK := match kd j with | .list b _ _ => .list b (sA (S j)) (sC (S j)) | x => x
theorem kdS_val (kd : Nat → NK) (S : Nat → Value) (j m : Nat) : (kdS kd S j).val m = (kd j).val m := by
  unfold kdS
  cases kd j <;> rfl
theorem kdS_list {kd : Nat → NK} {S : Nat → Value} {j b : Nat} {A : Option Addr} {c : Nat} (h : kdS kd S j = .list b A c) : lbl kd j = some b ∧ A = sA (S j) ∧ c = sC (S j) := by
  unfold kdS at h
  unfold lbl
  cases hk : kd j with
  | list b' A' c' =>
    rw [hk] at h
    injection h with h1 h2 h3
    subst h1 h2 h3
    exact ⟨rfl, rfl, rfl⟩
  | tup A' c' => rw [hk] at h; cases h
  | sc v => rw [hk] at h; cases h
theorem kdS_of {kd : Nat → NK} {S : Nat → Value} {j b : Nat} (h : lbl kd j = some b) : kdS kd S j = .list b (sA (S j)) (sC (S j)) := by
  obtain ⟨A, c, e⟩ := lbl_some h
  unfold kdS
  rw [e]
theorem kdS_tup {kd : Nat → NK} {S : Nat → Value} {j : Nat} {A : Option Addr} {c : Nat} (h : kdS kd S j = .tup A c) : kd j = .tup A c := by
  unfold kdS at h
  cases hk : kd j with
  | list b' A' c' => rw [hk] at h; cases h
  | tup A' c' => rw [hk] at h; exact h
  | sc v => rw [hk] at h; cases h
theorem kdS_sc {kd : Nat → NK} {S : Nat → Value} {j : Nat} {v : Value} (h : kdS kd S j = .sc v) : kd j = .sc v := by
  unfold kdS at h
  cases hk : kd j with
  | list b' A' c' => rw [hk] at h; cases h
  | tup A' c' => rw [hk] at h; cases h
  | sc v => rw [hk] at h; exact h
theorem kvals_S (kd : Nat → NK) (S : Nat → Value) (ks : Nat → List Nat) (i : Nat) : ((ks i).map fun k => (kdS kd S k).val (ks k).length) = kvals kd ks i := by
  unfold kvals
  exact List.map_congr_left fun k _ => kdS_val kd S k _
/-- the row of list i is a slice of its values -/
theorem LS.slice {w : World} {B n : Nat} {bl : Nat → Option Nat} {P : Nat → Prop} {F : Nat → Bool} {S : Nat → Value} {xs : Nat → List Value} (h : LS w B n bl P F S xs) {i : Nat} (hi : i < n) {b : Nat} (hb : bl i = some b) :
    S i = .slice (sA (S i)) (xs i).length (sC (S i)) ∧ Sl w (sA (S i)) (sC (S i)) (xs i) ∧ ∀ g off, sA (S i) = some ⟨g, off, none⟩ → (S i).ownBlock = some g := by
  obtain ⟨A, c, e, hs, _⟩ := own_sl (h.own i hi b hb)
  rw [e]
  exact ⟨rfl, hs, fun g off eA => by
    show (Value.slice A (xs i).length c).ownBlock = _
    have : A = some ⟨g, off, none⟩ := eA
    rw [this]
    rfl⟩
theorem Sl.pk {w w' : World} {A : Option Addr} {c : Nat} {xs : List Value} (hs : Sl w A c xs) (h : ∀ g off, A = some ⟨g, off, none⟩ → g < w.heap.size → w'.heap[g]? = w.heap[g]?) : Sl w' A c xs := by
  refine ⟨hs.cap, hs.max, fun hx => ?_⟩
  obtain ⟨b, off, e, hc⟩ := hs.at_ hx
  refine ⟨b, off, e, fun j u hu => ?_⟩
  have h1 := hc j u hu
  exact (World.cell?_of_block (a := ⟨b, off + j, none⟩) (h b off e (block_lt_of_cell h1))).trans h1
/-- the graph that has been made stands in memory, with nothing frozen -/
theorem NestP.shp {n B : Nat} {kk : Nat → Int} {mg : Nat → List Nat} {bt : Nat → Nat} {ks : Nat → List Nat} {Lv : Value} {kd : Nat → NK} {w0 w1 w' : World} {S : Nat → Value} (hok : GOk n kk mg bt ks) (hB : B1 w0 w1 n kk ks Lv kd) (hP : PK B (Prot n kd Lv) w1 w') (hL : LS w' B n (lbl kd) (Prot n kd Lv) (fun _ => false) S (kvals kd ks)) :
    Shp n (kdS kd S) ks w' (fun _ => false) := by
  have hlb : ∀ j, j < n → ∀ b' A' c', kdS kd S j = .list b' A' c' → lbl kd j = some b' := fun j _ b' A' c' h => (kdS_list h).1
  refine ⟨hok.kid, fun i hi => by have := hok.len i hi; omega, fun i hi A c h k hk => ?_, fun i hi b A c h => ?_, fun i hi A c h => ?_, fun i hi j hj b A c A' c' h1 h2 => hL.inj i hi j hj b (kdS_list h1).1 (kdS_list h2).1, fun i hi v h => ?_⟩
  · refine hok.low i hi (fun h6 => ?_) k hk
    obtain ⟨b, e, _⟩ := hB.lst i hi h6
    rw [kdS_tup h] at e
    cases e
  · obtain ⟨hb, rfl, rfl⟩ := kdS_list h
    obtain ⟨e, hs, hg⟩ := hL.slice hi hb
    rw [kvals_S]
    refine ⟨?_, hs, fun g off eA j hj b' A' c' h' => fun eg => ?_⟩
    · have := hL.blk i hi b hb
      rw [e] at this
      have el : (kvals kd ks i).length = (ks i).length := by unfold kvals; rw [List.length_map]
      rw [el] at this
      exact this
    · have hr := hL.row i hi b hb g (hg g off eA)
      exact hr.2.2.1 j hj (by rw [hlb j hj b' A' c' h', eg])
  · have hk := kdS_tup h
    rw [kvals_S]
    by_cases h7 : kk i = 7
    · obtain ⟨A', c', e, h1, h2⟩ := hB.tup i hi h7
      rw [hk] at e
      injection e with e1 e2
      subst e1 e2
      refine ⟨h1.pk fun g off eA hg => hP.block g hg (.inl (.inr ⟨i, hi, off, c, by rw [hk, eA]⟩)), fun g off eA j hj b' A' c' h' eg => ?_⟩
      obtain ⟨A2, c2, e3⟩ := lbl_some (hlb j hj b' A' c' h')
      exact (h2 g off eA).2.2.2 j hj A2 c2 (by rw [e3, eg])
    · by_cases h6 : kk i = 6
      · obtain ⟨b, e, _⟩ := hB.lst i hi h6
        rw [hk] at e
        cases e
      · obtain ⟨v, e, _⟩ := hB.sc i hi h6 h7
        rw [hk] at e
        cases e
  · have hk := kdS_sc h
    by_cases h7 : kk i = 7
    · obtain ⟨A', c', e, _⟩ := hB.tup i hi h7
      rw [hk] at e
      cases e
    · by_cases h6 : kk i = 6
      · obtain ⟨b, e, _⟩ := hB.lst i hi h6
        rw [hk] at e
        cases e
      · obtain ⟨v', e, hv⟩ := hB.sc i hi h6 h7
        rw [hk] at e
        injection e with e
        subst e
        exact ⟨hv, hok.none i hi h6 h7⟩
/-- behind the freezing the lists are owned as before -/
theorem LS.frozen {n B : Nat} {ks : Nat → List Nat} {P : Nat → Prop} {kd : Nat → NK} {w w' : World} {S : Nat → Value} {F' : Nat → Bool} {xs : Nat → List Value} (hL : LS w B n (lbl kd) P (fun _ => false) S xs) (hs : Shp n (kdS kd S) ks w' F') (ho : OnlyL n (kdS kd S) w w') (hx : ∀ i, i < n → (xs i).length = (ks i).length) :
    LS w' B n (lbl kd) P F' S xs ∧ PK B P w w' := by
  have same : ∀ g, g < w.heap.size → (∀ i, i < n → lbl kd i ≠ some g) → w'.heap[g]? = w.heap[g]? := fun g hg hn => ho.block g hg fun i hi A c h => hn i hi (kdS_list h).1
  refine ⟨⟨fun i hi b hb => ?_, fun i hi b hb => ?_, hL.low, hL.inj, fun i hi b hb g hg => ⟨(hL.row i hi b hb g hg).1, Nat.lt_of_lt_of_le (hL.row i hi b hb g hg).2.1 ho.size, (hL.row i hi b hb g hg).2.2⟩, fun g hg => Nat.lt_of_lt_of_le (hL.psz g hg) ho.size⟩, ho.os, ho.tape, ho.output, ho.size, fun g hg hp => same g hg fun i hi e => ?_⟩
  · have h1 := (hs.lst i hi b _ _ (kdS_of hb)).1
    have h2 := (hL.slice hi hb).1
    rw [hx i hi] at h2
    rw [h2]
    exact h1
  · have h1 := hL.own i hi b hb
    refine ⟨h1.1, ?_⟩
    rcases h1.2 with h2 | ⟨g, cap, cur, e1, e2, e3, e4⟩
    · exact .inl h2
    · have hr := hL.row i hi b hb g (by rw [e1]; rfl)
      exact .inr ⟨g, cap, cur, e1, e2, (same g hr.2.1 fun j hj => hr.2.2.1 j hj).trans e3, e4⟩
  · rcases hp with hp | hp
    · exact (hL.low i hi g e).2 hp
    · have := (hL.low i hi g e).1
      omega
end Go.Proofs.YtoociokhldakbaaGreat
