/- What freezing a value brings about. -/
import Derived.Test.YtoociokhldakbaaGreatN1
import Derived.Laws.EntriesVeiled
namespace Go.Proofs.YtoociokhldakbaaGreat
open Go.ChangeShapes Go.WideShapes Go.ChangeAt Go.RowKit
set_option linter.unusedVariables false
section
variable {n : Nat} {kd : Nat → NK} {ks : Nat → List Nat}
theorem Blk.ofBelow {w w' : World} {g : Nat} {t : TypeId} {cs : Array Value} (h : Blk w g t cs) (hb : Kept w w') : Blk w' g t cs := Blk.below h hb
theorem Shp.below {w w' : World} {F : Nat → Bool} (h : Shp n kd ks w F) (hb : Kept w w') : Shp n kd ks w' F :=
  ⟨h.kid, h.len, h.low, fun i hi b A c hk => ⟨Blk.below (h.lst i hi b A c hk).1 hb, (h.lst i hi b A c hk).2.1.below hb, (h.lst i hi b A c hk).2.2⟩, fun i hi A c hk => ⟨(h.tup i hi A c hk).1.below hb, (h.tup i hi A c hk).2⟩, h.inj, h.sc⟩
theorem OnlyL.of_kept {w w' : World} (h : Kept w w') : OnlyL n kd w w' := ⟨h.os, h.tape, h.output, h.size, fun b hb _ => h.block b hb⟩
/-- list k is marked as frozen -/
theorem Shp.mark {w : World} {F : Nat → Bool} (h : Shp n kd ks w F) {k : Nat} (hk : k < n) {b : Nat} {A : Option Addr} {c : Nat} (hkd : kd k = .list b A c) :
    Shp n kd ks (w.setCell ⟨b, 1, none⟩ (.bool true)) (fun i => if i = k then true else F i) ∧ OnlyL n kd w (w.setCell ⟨b, 1, none⟩ (.bool true)) := by
  have hfar : ∀ {A' : Option Addr} {c' : Nat} {xs : List Value}, Sl w A' c' xs → (∀ g off, A' = some ⟨g, off, none⟩ → g ≠ b) → Sl (w.setCell ⟨b, 1, none⟩ (.bool true)) A' c' xs := fun hs hne => hs.far hne (fun j _ hj => heap_setCell_other w ⟨b, 1, none⟩ j _ hj)
  refine ⟨⟨h.kid, h.len, h.low, fun i hi b' A' c' hki => ?_, fun i hi A' c' hki => ?_, h.inj, h.sc⟩, ?_⟩
  · obtain ⟨h1, h2, h3⟩ := h.lst i hi b' A' c' hki
    refine ⟨?_, hfar h2 (fun g off e => h3 g off e k hk b A c hkd), h3⟩
    by_cases e : i = k
    · subst e
      rw [hkd] at hki
      injection hki with e1 e2 e3
      subst e1 e2 e3
      show Blk _ _ _ #[_, .bool (if i = i then true else F i), _]
      rw [if_pos rfl]
      exact heap_setCell_same w b 1 _ _ _ h1
    · have hb : b' ≠ b := fun e2 => by
        subst e2
        exact e (h.inj i hi k hk b' A' c' A c hki hkd)
      show Blk _ _ _ #[_, .bool (if i = k then true else F i), _]
      rw [if_neg e]
      exact (heap_setCell_other w ⟨b, 1, none⟩ b' _ hb).trans h1
  · obtain ⟨h2, h3⟩ := h.tup i hi A' c' hki
    exact ⟨hfar h2 (fun g off e => h3 g off e k hk b A c hkd), h3⟩
  · exact ⟨rfl, rfl, rfl, by simp [World.setCell], fun i hi hn => heap_setCell_other w ⟨b, 1, none⟩ i _ (fun e => hn k hk A c (by rw [hkd, e]))⟩
/-- what freezing node k has brought about -/
def FP (n : Nat) (kd : Nat → NK) (ks : Nat → List Nat) (w : World) (F : Nat → Bool) (k : Nat) (e : Ending) (w' : World) : Prop :=
  e = .returned (.tuple #[]) ∧ ∃ F', Shp n kd ks w' F' ∧ OnlyL n kd w w' ∧ Frz n kd ks F F' k
/-- j elements of node i have been frozen -/
def LI (n : Nat) (kd : Nat → NK) (ks : Nat → List Nat) (w1 : World) (F1 : Nat → Bool) (i j : Nat) (wr : World) : Prop :=
  ∃ Fj, Shp n kd ks wr Fj ∧ OnlyL n kd w1 wr ∧ (∀ m, F1 m = true → Fj m = true) ∧ (∀ m, Fj m = true → F1 m = true ∨ Rch ks i m) ∧ (∀ d, d ∈ (ks i).take j → Dn kd ks Fj d) ∧ (∀ m, m < n → Fj m = true → F1 m = false → ∀ d, d ∈ ks m → Dn kd ks Fj d)
theorem LI.start {w1 : World} {F1 : Nat → Bool} (h : Shp n kd ks w1 F1) (i : Nat) : LI n kd ks w1 F1 i 0 w1 := by
  refine ⟨F1, h, OnlyL.refl _, fun _ h => h, fun _ h => Or.inl h, ?_, ?_⟩
  · intro d hd
    rw [List.take_zero] at hd
    cases hd
  · intro m _ h1 h2
    rw [h1] at h2
    cases h2
theorem LI.step {w1 wr w' : World} {F1 Fj F' : Nat → Bool} {i j d : Nat} (hd : (ks i)[j]? = some d) (h2 : OnlyL n kd w1 wr) (h3 : ∀ m, F1 m = true → Fj m = true) (h4 : ∀ m, Fj m = true → F1 m = true ∨ Rch ks i m) (h5 : ∀ d, d ∈ (ks i).take j → Dn kd ks Fj d) (h6 : ∀ m, m < n → Fj m = true → F1 m = false → ∀ d, d ∈ ks m → Dn kd ks Fj d)
    (hs : Shp n kd ks w' F') (ho : OnlyL n kd wr w') (hf : Frz n kd ks Fj F' d) : LI n kd ks w1 F1 i (j + 1) w' := by
  have hmem : d ∈ ks i := List.mem_of_getElem? hd
  refine ⟨F', hs, h2.trans ho, fun m h => hf.up m (h3 m h), fun m h => ?_, fun e he => ?_, fun m hm h7 h8 e he => ?_⟩
  · rcases hf.new m h with h9 | h9
    · exact h4 m h9
    · exact .inr (.step hmem h9)
  · rw [List.take_add_one, hd] at he
    rcases List.mem_append.1 he with h9 | h9
    · exact (h5 e h9).mono hf.up
    · have : e = d := by simpa using h9
      subst this
      exact hf.done
  · cases h9 : Fj m
    · exact hf.closed m hm h7 h9 e he
    · exact (h6 m hm h9 h8 e he).mono hf.up
theorem Frz.same {F : Nat → Bool} {k : Nat} (h : Dn kd ks F k) : Frz n kd ks F F k := ⟨fun _ h => h, fun _ h => .inl h, h, fun _ _ h1 h2 => by rw [h1] at h2; cases h2⟩
theorem nodup_elem {w : World} {F : Nat → Bool} (h : Shp n kd ks w F) {i j d : Nat} (hi : i < n) (hd : (ks i)[j]? = some d) : d < n := h.kid i hi d (List.mem_of_getElem? hd)
/-- what freezing the value v has brought about, v being node d -/
def FrzC (n : Nat) (kd : Nat → NK) (ks : Nat → List Nat) (w : World) (F : Nat → Bool) (k : Nat) : Prop :=
  match kd k with
  | .list b _ _ => Calls Tryz.prog 94 #[.pointer (some ⟨b, 0, none⟩)] w (FP n kd ks w F k)
  | .tup A c => Calls Tryz.prog 100 #[.slice A (ks k).length c] w (FP n kd ks w F k)
  | .sc _ => True
set_option maxRecDepth 100000 in
theorem NoneFreeze_any (v : Value) (w : World) : Calls Tryz.prog 105 #[v] w fun e w' => e = .returned (.tuple #[]) ∧ Kept w w' := by
  go_enter Tryz.func105, Tryz.ntmps105
  go_wp2_with fail
  go_end0
  exact ⟨rfl, Below.refl _ _⟩
set_option maxRecDepth 100000 in
theorem BoolFreeze_any (v : Value) (w : World) : Calls Tryz.prog 110 #[v] w fun e w' => e = .returned (.tuple #[]) ∧ Kept w w' := by
  go_enter Tryz.func110, Tryz.ntmps110
  go_wp2_with fail
  go_end0
  exact ⟨rfl, Below.refl _ _⟩
set_option maxRecDepth 100000 in
theorem FloatFreeze_any (v : Value) (w : World) : Calls Tryz.prog 121 #[v] w fun e w' => e = .returned (.tuple #[]) ∧ Kept w w' := by
  go_enter Tryz.func121, Tryz.ntmps121
  go_wp2_with fail
  go_end0
  exact ⟨rfl, Below.refl _ _⟩
set_option maxRecDepth 100000 in
theorem StringFreeze_any (v : Value) (w : World) : Calls Tryz.prog 126 #[v] w fun e w' => e = .returned (.tuple #[]) ∧ Kept w w' := by
  go_enter Tryz.func126, Tryz.ntmps126
  go_wp2_with fail
  go_end0
  exact ⟨rfl, Below.refl _ _⟩
set_option maxRecDepth 100000 in
theorem BytesFreeze_any (v : Value) (w : World) : Calls Tryz.prog 131 #[v] w fun e w' => e = .returned (.tuple #[]) ∧ Kept w w' := by
  go_enter Tryz.func131, Tryz.ntmps131
  go_wp2_with fail
  go_end0
  exact ⟨rfl, Below.refl _ _⟩
set_option maxRecDepth 100000 in
theorem IntFreeze_any (x : Int) (p : Option Addr) (w : World) : Calls Tryz.prog 116 #[.agg #[.int .i64 x, .pointer p]] w fun e w' => e = .returned (.tuple #[]) ∧ Kept w w' := by
  have hk : Kept w (w.alloc (.cells #[.int .i64 x, .pointer p] 75)) := by go_grown
  have HK := Lib.hid hk
  clear hk
  go_enter Tryz.func116, Tryz.ntmps116
  go_wp2_with fail
  go_end0
  exact ⟨rfl, HK.out⟩
end
end Go.Proofs.YtoociokhldakbaaGreat
