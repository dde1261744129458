/- What the law's one mixed region knows, whatever order it takes -/
import Derived.Test.YtcamjefacbaniaaGreatPi
namespace Go.Proofs.YtcamjefacbaniaaGreat
open Go.ChangeShapes Go.WideShapes Go.ChangeAt Go.RowKit
set_option linter.unusedVariables false
/-- one flag, one slot anew -/
def upd {α : Type} (f : Nat → α) (i : Nat) (v : α) : Nat → α := fun j => if j = i then v else f j
/-- each that has been carried out has behind it what binds it -/
def Cl (ops : Array Oper) (L : Nat → Bool) : Prop := ∀ j oj, ops[j]? = some oj → L j = true → ∀ e ∈ oj.after, Region.binds .any e = true → L e.on = true
section
variable {P : Program} {ops : Array Oper} {Q : Exit → Act → World → Prop}
theorem wp_region_inv2 {id : Nat} {a : Act} {w : World} (I : (Nat → Bool) → Act → World → Prop) (hm : P.follows .mixedOrders = true) (hB : backB .any ops = true)
    (h0 : I (fun _ => false) a w.drew)
    (hstep : ∀ (L : Nat → Bool) (a : Act) (w : World) (i : Nat) (o : Oper), Cl ops L → I L a w → ops[i]? = some o → L i = false → (∀ e ∈ o.after, Region.binds .any e = true → L e.on = true) → wpOp P ops Q i (fun a' w' => I (upd L i true) a' w') a w)
    (hdone : ∀ (L : Nat → Bool) (a : Act) (w : World), I L a w → (∀ i, i < ops.size → L i = true) → Q .normal a w) : (Code.region id ops true).wp P Q a w := by
  refine wp_region_inv (I := fun L a w => Cl ops L ∧ I L a w) hm hB ⟨fun _ _ _ h => (nomatch h), h0⟩ ?_ (fun L a w h => hdone L a w h.2)
  intro L a w i o ⟨hc, hi⟩ ho hf hall
  refine wpOp_mono (fun a' w' h => ⟨?_, h⟩) (hstep L a w i o hc hi ho hf hall)
  intro j oj hj hl e he hb
  show (if e.on = i then true else L e.on) = true
  split
  · rfl
  · by_cases hji : j = i
    · subst hji
      rw [ho] at hj
      obtain rfl := Option.some.inj hj
      exact hall e he hb
    · have hl' : (if j = i then true else L j) = true := hl
      rw [if_neg hji] at hl'
      exact hc j oj hj hl' e he hb
theorem Oper.wp_val {o : Oper} {a : Act} {w w' : World} {K : Act → World → Prop} (v : Value) (h : (execOp a.eval o).run P w = .ok (.value v) w') (hn : K (a.put o.dst v) w') : o.wp P a w K Q := by
  unfold Oper.wp
  rw [h]
  exact hn
theorem Oper.wp_skip {o : Oper} {a : Act} {w w' : World} {K : Act → World → Prop} (h : (execOp a.eval o).run P w = .ok .skip w') (hd : o.dst = none) (hn : K a w') : o.wp P a w K Q := by
  unfold Oper.wp
  rw [h]
  show K (a.put o.dst undef) w'
  rw [hd]
  exact hn
theorem Oper.wp_call {o : Oper} {a : Act} {w w' : World} {K : Act → World → Prop} {f : FuncId} {args : Array Value} {R : World → Value → World → Prop} (h : (execOp a.eval o).run P w = .ok (.enter f args) w') (hc : Calls P f args w' fun e w'' => ∃ v, e = .returned v ∧ R w' v w'') (hn : ∀ v w'', R w' v w'' → K (a.put o.dst v) w'') : o.wp P a w K Q := by
  unfold Oper.wp
  rw [h]
  refine Calls.mono hc ?_
  rintro e w'' ⟨v, rfl, hr⟩
  exact hn v w'' hr
end
/-- the reference's nothing -/
def zv : Array Value := #[.int .i64 0, .bool false, .slice none 0 0, .int .u64 0, .string ⟨#[]⟩, .slice none 0 0]
/-- the reference's answer: the parts, or nothing -/
def ANS (back : Bool) (T P : ByteArray) (x y : Value) (w : World) : Prop :=
  (0 < P.size ∧ y = .bool true ∧ ∃ r A c, x = .slice A 3 c ∧ PlaceAt back T P (plc T P) r ∧ Sl w A c (strs (prt back T P r))) ∨ (P.size = 0 ∧ x = .slice none 0 0 ∧ y = .bool false)
theorem ANS.below {back : Bool} {T P : ByteArray} {x y : Value} {w w' : World} (h : ANS back T P x y w) (hk : Kept w w') : ANS back T P x y w' := by
  rcases h with ⟨h0, h1, r, A, c, h2, h3, h4⟩ | h
  · exact .inl ⟨h0, h1, r, A, c, h2, h3, h4.below hk⟩
  · exact .inr h
theorem ANS.far {back : Bool} {T P : ByteArray} {x y : Value} {w : World} {g : Nat} {cs : Array Value} (h : ANS back T P x y w) (hg : Blk w g 27 zv) : ANS back T P x y (w.setRow g cs) := by
  rcases h with ⟨h0, h1, r, A, c, h2, h3, h4⟩ | h
  · refine .inl ⟨h0, h1, r, A, c, h2, h3, h4.far (g := g) ?_ (fun k _ hk => setRow_other _ _ _ _ hk)⟩
    rintro b off hA rfl
    have hl := prt_len back T P r
    obtain ⟨b', off', hA', _, _, hc⟩ := h4.three hl
    rw [hA] at hA'
    obtain ⟨rfl, rfl⟩ : b = b' ∧ off = off' := by
      have := Option.some.inj hA'
      injection this with e1 e2
      exact ⟨e1, e2⟩
    have q0 := (hg.cell (off + 0)).symm.trans (hc 0 (by omega))
    have q1 := (hg.cell (off + 1)).symm.trans (hc 1 (by omega))
    rcases (by omega : off = 0 ∨ off = 1 ∨ off = 2 ∨ off = 3 ∨ off = 4 ∨ off = 5 ∨ 6 ≤ off) with rfl | rfl | rfl | rfl | rfl | rfl | h6
    · simp [zv] at q0
    · simp [zv] at q0
    · simp [zv] at q0
    · simp [zv] at q0
    · simp [zv] at q1
    · simp [zv] at q0
    · have : zv[off + 0]? = none := Array.getElem?_eq_none (by simp [zv]; omega)
      rw [this] at q0
      cases q0
  · exact .inr h
/-- the reference asked -/
def RetBoth (back : Bool) (T P : ByteArray) (w : World) (v : Value) (w' : World) : Prop := ∃ u x y, v = .tuple #[.agg u, x, y] ∧ u.size = 6 ∧ u.all (·.oneCell') = true ∧ ANS back T P x y w' ∧ Kept w w'
theorem asked_both (back : Bool) (T P : ByteArray) (hT : T.size ≤ 60) (hP : P.size ≤ 60) (ga ca : Nat) (w : World) (hg : Blk w ga 27 (tvv P)) :
    Calls Tryz.prog 6 #[.string T, .string (nmPart back), .slice (some ⟨ga, 0, none⟩) 1 ca] w fun e w' => ∃ v, e = .returned v ∧ RetBoth back T P w v w' := by
  by_cases h0 : 0 < P.size
  · refine (asked_part back T P hT hP h0 ga ca w hg).mono ?_
    rintro e w' ⟨r, v, A, c, rfl, h1, h2, h3, h4, h5⟩
    exact ⟨_, rfl, v, _, _, rfl, h1, h2, .inl ⟨h0, rfl, r, A, c, rfl, h3, h4⟩, h5⟩
  · refine (asked_none back T P (by omega) ga ca w hg).mono ?_
    rintro e w' ⟨rfl, h5⟩
    exact ⟨_, rfl, zv, _, _, rfl, rfl, by simp [Value.oneCell', zv], .inr ⟨by omega, rfl, rfl⟩, h5⟩
/-- what is known where the flags L have been carried out -/
structure PF (back : Bool) (T P : ByteArray) (W0 : World) (L : Nat → Bool) (w : World) (s : Nat → Value) : Prop where
  kept : Kept W0 w
  f0 : L 0 = true → s 29 = .string T
  f1 : L 1 = true → ∃ m, s 30 = .map (some m) ∧ W0.heap.size ≤ m ∧ (L 16 = false → MapSt w m (L 2) (L 3))
  f4 : L 4 = true → ∃ m, s 31 = .map (some m) ∧ (L 16 = false → MapSt w m true true)
  f5 : L 5 = true → s 32 = .bool back
  f6 : L 6 = true → s 33 = .string (nmPart back)
  f7 : L 7 = true → s 34 = .string P
  f8 : L 8 = true → s 35 = .agg (tvv P)
  f9 : L 9 = true → ∃ g, s 36 = .slice (some ⟨g, 0, none⟩) 1 1 ∧ (L 16 = false → Blk w g 27 (tvv P))
  f10 : L 10 = true → ∃ u x y, s 37 = .tuple #[.agg u, x, y] ∧ u.size = 6 ∧ u.all (·.oneCell') = true ∧ ANS back T P x y w
  f11 : L 11 = true → ∃ u x y, s 28 = .tuple #[.agg u, x, y] ∧ u.size = 6 ∧ u.all (·.oneCell') = true ∧ ANS back T P x y w
  f12 : L 12 = true → ∃ u, s 38 = .agg u ∧ u.size = 6 ∧ u.all (·.oneCell') = true
  f13 : L 13 = true → ∃ u y, s 28 = .tuple #[u, s 39, y]
  f14 : L 14 = true → ∃ u x, s 28 = .tuple #[u, x, s 40]
  f15 : L 15 = true → ∃ x, s 9 = .pointer (some ⟨x, 0, none⟩) ∧ W0.heap.size ≤ x ∧ (L 16 = false → Blk w x 27 zv)
  f17 : L 17 = true → s 10 = s 39
  f18 : L 18 = true → s 11 = s 40
section
variable {back : Bool} {T P : ByteArray} {W0 w w' : World} {L : Nat → Bool} {s : Nat → Value}
theorem PF.start (w : World) (s : Nat → Value) : PF back T P w (fun _ => false) w s :=
  ⟨Below.refl _ _, nofun, nofun, nofun, nofun, nofun, nofun, nofun, nofun, nofun, nofun, nofun, nofun, nofun, nofun, nofun, nofun⟩
theorem PF.drew (h : PF back T P W0 L w s) (hk : Kept w w') : PF back T P W0 L w' s :=
  { kept := h.kept.trans hk
    f0 := h.f0
    f1 := fun h1 => let ⟨m, e, a, b⟩ := h.f1 h1; ⟨m, e, a, fun h2 => (b h2).below hk⟩
    f4 := fun h1 => let ⟨m, e, b⟩ := h.f4 h1; ⟨m, e, fun h2 => (b h2).below hk⟩
    f5 := h.f5
    f6 := h.f6
    f7 := h.f7
    f8 := h.f8
    f9 := fun h1 => let ⟨m, e, b⟩ := h.f9 h1; ⟨m, e, fun h2 => (b h2).below hk⟩
    f10 := fun h1 => let ⟨u, x, y, a, b, c, d⟩ := h.f10 h1; ⟨u, x, y, a, b, c, d.below hk⟩
    f11 := fun h1 => let ⟨u, x, y, a, b, c, d⟩ := h.f11 h1; ⟨u, x, y, a, b, c, d.below hk⟩
    f12 := h.f12
    f13 := h.f13
    f14 := h.f14
    f15 := fun h1 => let ⟨m, e, a, b⟩ := h.f15 h1; ⟨m, e, a, fun h2 => (b h2).below hk⟩
    f17 := h.f17
    f18 := h.f18 }
theorem PF.o0 (h : PF back T P W0 L w s) : PF back T P W0 (upd L 0 true) w (upd s 29 (.string T)) := { h with f0 := fun _ => rfl }
theorem PF.o1 (h : PF back T P W0 L w s) (h2 : L 2 = false) (h3 : L 3 = false) : PF back T P W0 (upd L 1 true) (w.alloc (.map #[] 0)) (upd s 30 (.map (some w.heap.size))) :=
  { h.drew ((Below.refl _ _).alloc (Nat.le_refl _) (.map #[] 0)) with
    f1 := fun _ => ⟨w.heap.size, rfl, h.kept.size, fun _ => ⟨#[], 0, heap_alloc_new _ _, by
      have e2 : upd L 1 true 2 = false := h2
      have e3 : upd L 1 true 3 = false := h3
      rw [e2, e3]⟩⟩ }
theorem PF.map (h : PF back T P W0 L w s) {m : Nat} {f t : Bool} (hm : MapSt w m f t) (hw : W0.heap.size ≤ m) (hk : ∀ k, k ≠ m → w'.heap[k]? = w.heap[k]?) (hs : w'.heap.size = w.heap.size) (h4 : w'.os = w.os) (h5 : w'.tape = w.tape) (h6 : w'.output = w.output)
    (d4 : L 4 = false) (d10 : L 10 = false) (d11 : L 11 = false) (d16 : L 16 = false) {L' : Nat → Bool} (he : ∀ k, k ≠ 2 → k ≠ 3 → L' k = L k) (h1 : L 1 = true → ∃ m, s 30 = .map (some m) ∧ W0.heap.size ≤ m ∧ (L' 16 = false → MapSt w' m (L' 2) (L' 3))) : PF back T P W0 L' w' s := by
  have E : ∀ k, k ≠ 2 → k ≠ 3 → L' k = L k := he
  refine ⟨?_, ?_, ?_, ?_, ?_, ?_, ?_, ?_, ?_, ?_, ?_, ?_, ?_, ?_, ?_, ?_, ?_⟩
  · exact ⟨h4.trans h.kept.os, h5.trans h.kept.tape, h6.trans h.kept.output, by have := h.kept.size; omega, fun k hk' => (hk k (by omega)).trans (h.kept.block k hk')⟩
  · rw [E 0 (by omega) (by omega)]; exact h.f0
  · rw [E 1 (by omega) (by omega)]; exact h1
  · rw [E 4 (by omega) (by omega), d4]; exact nofun
  · rw [E 5 (by omega) (by omega)]; exact h.f5
  · rw [E 6 (by omega) (by omega)]; exact h.f6
  · rw [E 7 (by omega) (by omega)]; exact h.f7
  · rw [E 8 (by omega) (by omega)]; exact h.f8
  · rw [E 9 (by omega) (by omega), E 16 (by omega) (by omega)]
    intro h9
    obtain ⟨g, e, hb⟩ := h.f9 h9
    exact ⟨g, e, fun hf => (hk g (hm.ne (hb hf))).trans (hb hf)⟩
  · rw [E 10 (by omega) (by omega), d10]; exact nofun
  · rw [E 11 (by omega) (by omega), d11]; exact nofun
  · rw [E 12 (by omega) (by omega)]; exact h.f12
  · rw [E 13 (by omega) (by omega)]; exact h.f13
  · rw [E 14 (by omega) (by omega)]; exact h.f14
  · rw [E 15 (by omega) (by omega), E 16 (by omega) (by omega)]
    intro h9
    obtain ⟨g, e, hl, hb⟩ := h.f15 h9
    exact ⟨g, e, hl, fun hf => (hk g (hm.ne (hb hf))).trans (hb hf)⟩
  · rw [E 17 (by omega) (by omega)]; exact h.f17
  · rw [E 18 (by omega) (by omega)]; exact h.f18
theorem PF.o4 (h : PF back T P W0 L w s) (h1 : L 1 = true) (h2 : L 2 = true) (h3 : L 3 = true) : PF back T P W0 (upd L 4 true) w (upd s 31 (s 30)) :=
  { h with f4 := fun _ => let ⟨m, e, _, b⟩ := h.f1 h1; ⟨m, e, fun hf => by have := b hf; rw [h2, h3] at this; exact this⟩ }
theorem PF.o5 (h : PF back T P W0 L w s) : PF back T P W0 (upd L 5 true) w (upd s 32 (.bool back)) := { h with f5 := fun _ => rfl }
theorem PF.o6 (h : PF back T P W0 L w s) : PF back T P W0 (upd L 6 true) w (upd s 33 (.string (nmPart back))) := { h with f6 := fun _ => rfl }
theorem PF.o7 (h : PF back T P W0 L w s) : PF back T P W0 (upd L 7 true) w (upd s 34 (.string P)) := { h with f7 := fun _ => rfl }
theorem PF.o8 (h : PF back T P W0 L w s) : PF back T P W0 (upd L 8 true) w (upd s 35 (.agg (tvv P))) := { h with f8 := fun _ => rfl }
theorem PF.o9 (h : PF back T P W0 L w s) : PF back T P W0 (upd L 9 true) (w.alloc (.cells (tvv P) 27)) (upd s 36 (.slice (some ⟨w.heap.size, 0, none⟩) 1 1)) :=
  { h.drew ((Below.refl _ _).alloc (Nat.le_refl _) (.cells (tvv P) 27)) with f9 := fun _ => ⟨_, rfl, fun _ => Blk.new _ _ _⟩ }
theorem PF.o10 (h : PF back T P W0 L w s) {v : Value} (hv : RetBoth back T P w v w') : PF back T P W0 (upd L 10 true) w' (upd s 37 v) :=
  let ⟨u, x, y, h1, h2, h3, h4, h5⟩ := hv
  { h.drew h5 with f10 := fun _ => ⟨u, x, y, h1, h2, h3, h4⟩ }
theorem PF.o11 (h : PF back T P W0 L w s) (h10 : L 10 = true) (d13 : L 13 = false) (d14 : L 14 = false) : PF back T P W0 (upd L 11 true) w (upd s 28 (s 37)) :=
  { h with
    f11 := fun _ => h.f10 h10
    f13 := fun h => absurd (show L 13 = true from h) (by rw [d13]; exact nofun)
    f14 := fun h => absurd (show L 14 = true from h) (by rw [d14]; exact nofun) }
theorem PF.o12 (h : PF back T P W0 L w s) {u : Array Value} (h1 : u.size = 6) (h2 : u.all (·.oneCell') = true) : PF back T P W0 (upd L 12 true) w (upd s 38 (.agg u)) := { h with f12 := fun _ => ⟨u, rfl, h1, h2⟩ }
theorem PF.o13 (h : PF back T P W0 L w s) {u x y : Value} (h1 : s 28 = .tuple #[u, x, y]) (d17 : L 17 = false) : PF back T P W0 (upd L 13 true) w (upd s 39 x) :=
  { h with f13 := fun _ => ⟨u, y, h1⟩, f17 := fun h => absurd (show L 17 = true from h) (by rw [d17]; exact nofun) }
theorem PF.o14 (h : PF back T P W0 L w s) {u x y : Value} (h1 : s 28 = .tuple #[u, x, y]) (d18 : L 18 = false) : PF back T P W0 (upd L 14 true) w (upd s 40 y) :=
  { h with f14 := fun _ => ⟨u, x, h1⟩, f18 := fun h => absurd (show L 18 = true from h) (by rw [d18]; exact nofun) }
theorem PF.o15 (h : PF back T P W0 L w s) : PF back T P W0 (upd L 15 true) (w.alloc (.cells zv 27)) (upd s 9 (.pointer (some ⟨w.heap.size, 0, none⟩))) :=
  { h.drew ((Below.refl _ _).alloc (Nat.le_refl _) (.cells zv 27)) with f15 := fun _ => ⟨_, rfl, h.kept.size, fun _ => Blk.new _ _ _⟩ }
theorem PF.o16 (h : PF back T P W0 L w s) {x : Nat} (hb : Blk w x 27 zv) (hx : W0.heap.size ≤ x) (cs : Array Value) : PF back T P W0 (upd L 16 true) (w.setRow x cs) s :=
  { kept := below_setRow h.kept hx _
    f0 := h.f0
    f1 := fun h1 => let ⟨m, e, a, b⟩ := h.f1 h1; ⟨m, e, a, fun h2 => (nomatch (show true = false from h2))⟩
    f4 := fun h1 => let ⟨m, e, b⟩ := h.f4 h1; ⟨m, e, fun h2 => (nomatch (show true = false from h2))⟩
    f5 := h.f5
    f6 := h.f6
    f7 := h.f7
    f8 := h.f8
    f9 := fun h1 => let ⟨m, e, b⟩ := h.f9 h1; ⟨m, e, fun h2 => (nomatch (show true = false from h2))⟩
    f10 := fun h1 => let ⟨u, x, y, a, b, c, d⟩ := h.f10 h1; ⟨u, x, y, a, b, c, d.far hb⟩
    f11 := fun h1 => let ⟨u, x, y, a, b, c, d⟩ := h.f11 h1; ⟨u, x, y, a, b, c, d.far hb⟩
    f12 := h.f12
    f13 := h.f13
    f14 := h.f14
    f15 := fun h1 => let ⟨m, e, a, b⟩ := h.f15 h1; ⟨m, e, a, fun h2 => (nomatch (show true = false from h2))⟩
    f17 := h.f17
    f18 := h.f18 }
theorem PF.o17 (h : PF back T P W0 L w s) : PF back T P W0 (upd L 17 true) w (upd s 10 (s 39)) := { h with f17 := fun _ => rfl }
theorem PF.o18 (h : PF back T P W0 L w s) : PF back T P W0 (upd L 18 true) w (upd s 11 (s 40)) := { h with f18 := fun _ => rfl }
theorem PF.done (h : PF back T P W0 L w s) (hl : ∀ i, i < 19 → L i = true) : ANS back T P (s 10) (s 11) w ∧ Kept W0 w := by
  obtain ⟨u, x, y, h1, _, _, h2⟩ := h.f11 (hl 11 (by omega))
  obtain ⟨u1, y1, h3⟩ := h.f13 (hl 13 (by omega))
  obtain ⟨u2, x2, h4⟩ := h.f14 (hl 14 (by omega))
  have h5 := h.f17 (hl 17 (by omega))
  have h6 := h.f18 (hl 18 (by omega))
  rw [h1] at h3 h4
  simp only [Value.tuple.injEq, Array.mk.injEq, List.cons.injEq, and_true] at h3 h4
  rw [h5, h6, ← h3.2.1, ← h4.2.2]
  exact ⟨h2, h.kept⟩
end
end Go.Proofs.YtcamjefacbaniaaGreat
