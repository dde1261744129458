/- The reference: a truth, a list of texts -/
import Derived.Test.YtcamjefacbaniaaGreatDoorLe
import Derived.Test.YtcamjefacbaniaaGreatDoorIv
namespace Go.Proofs.YtcamjefacbaniaaGreatDoor
open Go.ChangeShapes Go.WideShapes Go.ChangeAt Go.RowKit
set_option linter.unusedVariables false
/-- a text, as the laws have it -/
def tvv (s : ByteArray) : Array Value := #[.int .i64 4, .bool false, .slice none 0 0, .int .u64 0, .string s, .slice none 0 0]
theorem tvv_size (s : ByteArray) : (tvv s).size = 6 := rfl
/-- a tuple with n kids -/
def kvv (A : Option Addr) (n c : Nat) : Array Value := #[.int .i64 7, .bool false, .slice none 0 0, .int .u64 0, .string ⟨#[]⟩, .slice A n c]
theorem kvv_size (A : Option Addr) (n c : Nat) : (kvv A n c).size = 6 := rfl
set_option maxRecDepth 100000 in
theorem TextVal_any (s : ByteArray) (w : World) :
    Calls Tryz.prog 29 #[.string s] w fun e w' => e = .returned (.agg (tvv s)) ∧ Kept w w' := by
  have ho : Kept w (w.alloc (.cells (tvv s) 27)) := (Below.refl _ _).alloc (Nat.le_refl _) _
  have hb := Blk.new w 27 (tvv s)
  have HO := Lib.hid ho
  have HB := Lib.hid hb
  clear ho hb
  go_enter Tryz.func29, Tryz.ntmps29
  go_wp2_with fail
  exact bodyPost_blk rfl rfl HB.out Tryz.underlying27 rfl (by exact info_V) rfl ⟨rfl, HO.out⟩
theorem TextVal_any2 (s : ByteArray) (w : World) :
    Calls Tryz.prog 29 #[.string s] w fun e w' => e = .returned (.agg #[.int .i64 4, .bool false, .slice none 0 0, .int .u64 0, .string s, .slice none 0 0]) ∧ Kept w w' := TextVal_any s w
/-- a list with n kids -/
def lvv (A : Option Addr) (n c : Nat) : Array Value := #[.int .i64 6, .bool false, .slice none 0 0, .int .u64 0, .string ⟨#[]⟩, .slice A n c]
theorem lvv_size (A : Option Addr) (n c : Nat) : (lvv A n c).size = 6 := rfl
set_option maxRecDepth 100000 in
theorem BoolVal_any (b : Bool) (w : World) :
    Calls Tryz.prog 6 #[.bool b] w fun e w' => e = .returned (.agg (bvv b)) ∧ Kept w w' := by
  have ho : Kept w (w.alloc (.cells (bvv b) 27)) := (Below.refl _ _).alloc (Nat.le_refl _) _
  have hb := Blk.new w 27 (bvv b)
  have HO := Lib.hid ho
  have HB := Lib.hid hb
  clear ho hb
  cases b
  · go_enter Tryz.func6, Tryz.ntmps6
    go_wp2_with fail
    exact bodyPost_blk rfl rfl HB.out Tryz.underlying27 rfl (by exact info_V) rfl ⟨rfl, HO.out⟩
  · go_enter Tryz.func6, Tryz.ntmps6
    go_wp2_with fail
    exact bodyPost_blk rfl rfl HB.out Tryz.underlying27 rfl (by exact info_V) rfl ⟨rfl, HO.out⟩
set_option maxRecDepth 100000 in
theorem Truth_any (b : Bool) (w : World) :
    Calls Tryz.prog 39 #[.agg (bvv b)] w fun e w' => e = .returned (.bool b) ∧ Kept w w' := by
  cases b
  all_goals
    simp only [bvv, if_true, if_false, Bool.false_eq_true]
    go_enter Tryz.func39, Tryz.ntmps39
    go_wp2_with fail
    go_ret
    exact ⟨rfl, (Below.refl _ _).alloc (Nat.le_refl _) _⟩
theorem infoV6 : (Tryz.prog.info? 27).map (fun i => (i.zero, i.size, i.bytes)) = some (some (.agg #[.int .i64 0, .bool false, .slice none 0 0, .int .u64 0, .string ⟨#[]⟩, .slice none 0 0]), 6, 88) := by kernel_rfl
/-- texts, as the laws have them, in a row: each takes six cells -/
def tvs (l : List ByteArray) : List Value := l.flatMap fun s => (tvv s).toList
theorem tvs_len (l : List ByteArray) : (tvs l).length = l.length * 6 := by
  induction l with
  | nil => rfl
  | cons s l ih =>
    have : tvs (s :: l) = (tvv s).toList ++ tvs l := by simp [tvs]
    rw [this, List.length_append, ih, List.length_cons]
    show 6 + _ = _
    omega
theorem tvs_snoc (l : List ByteArray) (k : Nat) (h : k < l.length) : tvs (l.take (k + 1)) = tvs (l.take k) ++ (tvv (l[k]'h)).toList := by
  rw [List.take_succ_eq_append_getElem h]
  simp only [tvs, List.flatMap_append, List.flatMap_cons, List.flatMap_nil, List.append_nil]
theorem own_kept {w w' : World} {B e z n : Nat} {v : Value} {xs : List Value} (h : w.ownsRow B e z v n xs) (hk : Kept w w') : w'.ownsRow B e z v n xs := by
  obtain ⟨h1, h2⟩ := h
  refine ⟨h1, ?_⟩
  rcases h2 with h2 | ⟨g, cap, cur, h3, h4, h5, h6⟩
  · exact .inl h2
  · have hlt : g < w.heap.size := (Array.getElem?_eq_some_iff.1 h5).1
    exact .inr ⟨g, cap, cur, h3, h4, (hk.block g hlt).trans h5, h6⟩
theorem own_set {w : World} {B e z n g : Nat} {v u : Value} {xs : List Value} {j : Nat} (h : w.ownsRow B e z v n xs) (hg : g < B) : (w.setCell ⟨g, j, none⟩ u).ownsRow B e z v n xs := ownsRow_setCell_below h hg u
theorem own_slice6 {w : World} {B e z n : Nat} {v : Value} {xs : List Value} (h : w.ownsRow B e z v n xs) : ∃ A c, v = .slice A n c := by
  rcases h.2 with ⟨e1, e2⟩ | ⟨g, cap, cur, e1, _⟩
  · subst e2; exact ⟨_, _, e1⟩
  · exact ⟨_, _, e1⟩
theorem set_block {w : World} {g j k : Nat} {u : Value} (h : k ≠ g) : (w.setCell ⟨g, j, none⟩ u).heap[k]? = w.heap[k]? := by
  have : ¬ g = k := fun e => h e.symm
  simp [World.setCell, Array.getElem?_modify, this]
theorem Blk.set5 {w : World} {x n d m e : Nat} {B C : Option Addr} (h : Blk w x 27 (lvv B n d)) : Blk (w.setCell ⟨x, 5, none⟩ (.slice C m e)) x 27 (lvv C m e) := by
  have h1 : w.heap[x]? = some (.cells (lvv B n d) 27 (0, 0)) := h
  show (w.setCell ⟨x, 5, none⟩ (.slice C m e)).heap[x]? = _
  simp [World.setCell, Array.getElem?_modify, h1, lvv]
/-- what is known in the round that puts the k-th text into the list -/
structure TF (l : List ByteArray) (b off n c : Nat) (Z : World) (x k : Nat) (B : Option Addr) (d : Nat) (sk : ByteArray) (L : Nat → Bool) (w : World) (s : Nat → Value) : Prop where
  kept : Kept Z w
  sz : x < w.heap.size
  row : L 8 = false → w.ownsRow (x + 1) 27 6 (.slice B k d) k (tvs (l.take k))
  out : L 10 = false → Blk w x 27 (lvv B k d)
  f0 : L 0 = true → s 12 = .pointer (some ⟨x, 5, none⟩)
  f1 : L 1 = true → s 13 = .slice B k d
  f2 : L 2 = true → s 14 = .slice (some ⟨b, off, none⟩) n c
  f3 : L 3 = true → s 15 = .int .i64 k
  f4 : L 4 = true → s 16 = .pointer (some ⟨b, off + k, none⟩)
  f5 : L 5 = true → s 17 = .string sk
  f6 : L 6 = true → s 18 = .agg (tvv sk)
  f7 : L 7 = true → ∃ g, s 19 = .slice (some ⟨g, 0, none⟩) 1 1 ∧ (L 8 = false → Blk w g 27 (tvv sk))
  f8 : L 8 = true → ∃ B' d', s 20 = .slice B' (k + 1) d' ∧ w.ownsRow (x + 1) 27 6 (.slice B' (k + 1) d') (k + 1) (tvs (l.take (k + 1)))
  f9 : L 9 = true → s 21 = .pointer (some ⟨x, 5, none⟩)
  f10 : L 10 = true → ∃ B' d', s 20 = .slice B' (k + 1) d' ∧ Blk w x 27 (lvv B' (k + 1) d')
section
variable {l : List ByteArray} {b off n c : Nat} {Z : World} {x k : Nat} {B : Option Addr} {d : Nat} {sk : ByteArray} {L : Nat → Bool} {w w' : World} {s : Nat → Value}
theorem TF.drew (h : TF l b off n c Z x k B d sk L w s) (hk : Kept w w') : TF l b off n c Z x k B d sk L w' s :=
  { h with
    kept := h.kept.trans hk
    sz := Nat.lt_of_lt_of_le h.sz hk.size
    row := fun h1 => own_kept (h.row h1) hk
    out := fun h1 => (h.out h1).below hk
    f7 := fun h1 => let ⟨g, e, b⟩ := h.f7 h1; ⟨g, e, fun h2 => (b h2).below hk⟩
    f8 := fun h1 => let ⟨B', d', e, b⟩ := h.f8 h1; ⟨B', d', e, own_kept b hk⟩
    f10 := fun h1 => let ⟨B', d', e, b⟩ := h.f10 h1; ⟨B', d', e, b.below hk⟩ }
theorem TF.o0 (h : TF l b off n c Z x k B d sk L w s) : TF l b off n c Z x k B d sk (upd L 0 true) w (upd s 12 (.pointer (some ⟨x, 5, none⟩))) := { h with f0 := fun _ => rfl }
theorem TF.o1 (h : TF l b off n c Z x k B d sk L w s) : TF l b off n c Z x k B d sk (upd L 1 true) w (upd s 13 (.slice B k d)) := { h with f1 := fun _ => rfl }
theorem TF.o2 (h : TF l b off n c Z x k B d sk L w s) : TF l b off n c Z x k B d sk (upd L 2 true) w (upd s 14 (.slice (some ⟨b, off, none⟩) n c)) := { h with f2 := fun _ => rfl }
theorem TF.o3 (h : TF l b off n c Z x k B d sk L w s) : TF l b off n c Z x k B d sk (upd L 3 true) w (upd s 15 (.int .i64 k)) := { h with f3 := fun _ => rfl }
theorem TF.o4 (h : TF l b off n c Z x k B d sk L w s) : TF l b off n c Z x k B d sk (upd L 4 true) w (upd s 16 (.pointer (some ⟨b, off + k, none⟩))) := { h with f4 := fun _ => rfl }
theorem TF.o5 (h : TF l b off n c Z x k B d sk L w s) : TF l b off n c Z x k B d sk (upd L 5 true) w (upd s 17 (.string sk)) := { h with f5 := fun _ => rfl }
theorem TF.o6 (h : TF l b off n c Z x k B d sk L w s) : TF l b off n c Z x k B d sk (upd L 6 true) w (upd s 18 (.agg (tvv sk))) := { h with f6 := fun _ => rfl }
theorem TF.o7 (h : TF l b off n c Z x k B d sk L w s) : TF l b off n c Z x k B d sk (upd L 7 true) (w.alloc (.cells (tvv sk) 27)) (upd s 19 (.slice (some ⟨w.heap.size, 0, none⟩) 1 1)) :=
  { h.drew ((Below.refl _ _).alloc (Nat.le_refl _) (.cells (tvv sk) 27)) with f7 := fun _ => ⟨_, rfl, fun _ => Blk.new _ _ _⟩ }
theorem TF.o8 (h : TF l b off n c Z x k B d sk L w s) (h8 : L 8 = false) (h10 : L 10 = false) {B' : Option Addr} {d' : Nat} (hZ : Z.heap.size ≤ x) (hg : w.grownBy w' (Value.slice B k d).ownBlock) (ho : w'.ownsRow (x + 1) 27 6 (.slice B' (k + 1) d') (k + 1) (tvs (l.take (k + 1)))) : TF l b off n c Z x k B d sk (upd L 8 true) w' (upd s 20 (.slice B' (k + 1) d')) := by
  have hown := h.row h8
  have hlt : ∀ q, (Value.slice B k d).ownBlock = some q → x + 1 ≤ q := fun q hq => (hown.lt q hq).1
  refine ⟨Below.grown h.kept hg h.kept.size (fun q hq => by have := hlt q hq; omega), Nat.lt_of_lt_of_le h.sz hg.size, fun h => (nomatch (show true = false from h)), fun h1 => ?_, h.f0, h.f1, h.f2, h.f3, h.f4, h.f5, h.f6, fun h1 => ?_, fun _ => ⟨B', d', rfl, ho⟩, h.f9, fun h1 => absurd (show L 10 = true from h1) (by rw [h10]; exact nofun)⟩
  · exact (hg.block x h.sz (fun e => by have := hlt x e.symm; omega)).trans (h.out h10)
  · obtain ⟨g, e, _⟩ := h.f7 h1
    exact ⟨g, e, fun h => (nomatch (show true = false from h))⟩
theorem TF.o9 (h : TF l b off n c Z x k B d sk L w s) : TF l b off n c Z x k B d sk (upd L 9 true) w (upd s 21 (.pointer (some ⟨x, 5, none⟩))) := { h with f9 := fun _ => rfl }
theorem TF.o10 (h : TF l b off n c Z x k B d sk L w s) (h8 : L 8 = true) (h10 : L 10 = false) (hZ : Z.heap.size ≤ x) : ∃ B' d', s 20 = .slice B' (k + 1) d' ∧ TF l b off n c Z x k B d sk (upd L 10 true) (w.setCell ⟨x, 5, none⟩ (.slice B' (k + 1) d')) s := by
  obtain ⟨B', d', e, ho⟩ := h.f8 h8
  refine ⟨B', d', e, ?_⟩
  exact {
    kept := h.kept.setCell hZ _
    sz := by rw [World.size_setCell]; exact h.sz
    row := fun h1 => absurd (show L 8 = false from h1) (by rw [h8]; exact nofun)
    out := fun h1 => (nomatch (show true = false from h1))
    f0 := h.f0
    f1 := h.f1
    f2 := h.f2
    f3 := h.f3
    f4 := h.f4
    f5 := h.f5
    f6 := h.f6
    f7 := fun h1 => let ⟨g, e, _⟩ := h.f7 h1; ⟨g, e, fun h2 => absurd (show L 8 = false from h2) (by rw [h8]; exact nofun)⟩
    f8 := fun _ => ⟨B', d', e, own_set ho (by omega)⟩
    f9 := h.f9
    f10 := fun _ => ⟨B', d', e, (h.out h10).set5⟩ }
theorem TF.done (h : TF l b off n c Z x k B d sk L w s) (hl : ∀ i, i < 11 → L i = true) : ∃ B' d', Blk w x 27 (lvv B' (k + 1) d') ∧ w.ownsRow (x + 1) 27 6 (.slice B' (k + 1) d') (k + 1) (tvs (l.take (k + 1))) ∧ Kept Z w ∧ x < w.heap.size := by
  obtain ⟨B1, d1, e1, h1⟩ := h.f8 (hl 8 (by omega))
  obtain ⟨B2, d2, e2, h2⟩ := h.f10 (hl 10 (by omega))
  rw [e1] at e2
  injection e2 with e3 e4 e5
  subst e3 e5
  exact ⟨B1, d1, h2, h1, h.kept, h.sz⟩
end
set_option maxRecDepth 100000 in
set_option maxHeartbeats 4000000 in
theorem texts_any (A : Option Addr) (n c : Nat) (l : List ByteArray) (hn : l.length = n) (hn61 : n ≤ 61) (w : World) (hs : Sl w A c (strs l)) :
    Calls Tryz.prog 32 #[.slice A n c] w fun e w' => ∃ B d, e = .returned (.agg (lvv B n d)) ∧ w'.ownsRow w.heap.size 27 6 (.slice B n d) n (tvs l) ∧ Kept w w' := by
  have HS := Lib.hid hs
  have hV0 := Blk.new w 27 #[.int .i64 0, .bool false, .slice none 0 0, .int .u64 0, .string ⟨#[]⟩, .slice none 0 0]
  have hk0 : Kept w (w.alloc (.cells #[.int .i64 0, .bool false, .slice none 0 0, .int .u64 0, .string ⟨#[]⟩, .slice none 0 0] 27)) := (Below.refl _ _).alloc (Nat.le_refl _) _
  have hsz := World.size_alloc w (.cells #[.int .i64 0, .bool false, .slice none 0 0, .int .u64 0, .string ⟨#[]⟩, .slice none 0 0] 27)
  have HV0 := Lib.hid hV0
  have HK0 := Lib.hid hk0
  have HSZ := Lib.hid hsz
  clear hV0 hk0 hs hsz
  go_enter Tryz.func32, Tryz.ntmps32
  go_wp2_with fail
  generalize w.alloc (.cells #[.int .i64 0, .bool false, .slice none 0 0, .int .u64 0, .string ⟨#[]⟩, .slice none 0 0] 27) = Z at *
  have hx1 := Blk.new Z 27 (lvv none 0 0)
  rw [HSZ.out] at hx1
  have HX1 := Lib.hid hx1
  clear hx1
  go_loopw [4] (fun iv wr => ∃ (k : Nat) (B : Option Addr) (d : Nat), iv = .int .i64 k ∧ k ≤ n ∧ Hid (Blk wr (w.heap.size + 1) 27 (lvv B k d)) ∧ Hid (wr.ownsRow (w.heap.size + 1 + 1) 27 6 (.slice B k d) k (tvs (l.take k))) ∧ Hid (Kept Z wr ∧ w.heap.size + 1 < wr.heap.size)) (fun iv _ => n - (intOf iv).toNat)
  case atStart => exact ⟨0, none, 0, rfl, Nat.zero_le _, HX1, Lib.hid (by simpa [tvs] using World.ownsRow_nil _ _ _ _), Lib.hid ⟨(Below.refl _ _).alloc (Nat.le_refl _) _, by rw [World.size_alloc, HSZ.out]; omega⟩⟩
  case round =>
    obtain ⟨k, B, d, rfl, hk, HX, HO, HK⟩ := hrel
    by_cases hlt : k < n
    · have hlt2 : k < l.length := by omega
      obtain ⟨b, off, rfl, hc⟩ := HS.out.at_ (fun h => by have := congrArg List.length h; rw [strs_len, List.length_nil] at this; omega)
      have hc2 : ∀ w', Kept Z w' → w'.cell? ⟨b, off + k, none⟩ = some (.string (l[k]'hlt2)) := fun w' h => ((HK0.out.trans h).cell (p := ⟨b, off + k, none⟩) (block_lt_of_cell (hc k _ (strs_get _ k hlt2)))).trans (hc k _ (strs_get _ k hlt2))
      have HC := Lib.hid hc2
      have HSN := Lib.hid (tvs_snoc l k hlt2)
      clear hc hc2
      generalize l[k]'hlt2 = sk at *
      obtain ⟨i0, hi0, hz0, hz1, hz2⟩ := info_parts infoV6
      go_wp2_with fail
      refine wp_region_inv2 (I := fun L a w' => ∃ s : Nat → Value, a = { tmps := #[.slice (some ⟨b, off, none⟩) n c, undef, .pointer (some ⟨w.heap.size, 0, none⟩), .pointer (some ⟨w.heap.size + 1, 0, none⟩), .int .i64 k, .agg #[.int .i64 6, .bool false, .slice none 0 0, .int .u64 0, .string ⟨#[]⟩, .slice none 0 0], .int .i64 k, .slice (some ⟨b, off, none⟩) n c, .int .i64 n, .bool true, u10, u11, s 12, s 13, s 14, s 15, s 16, s 17, s 18, s 19, s 20, s 21, undef], defers := [] } ∧ TF l b off n c Z (w.heap.size + 1) k B d sk L w' s) (by rfl) (by kernel_rfl) ?_ ?_ ?_
      · refine ⟨fun j => [u12, u13, u14, u15, u16, u17, u18, u19, u20, u21].getD (j - 12) undef, rfl, TF.drew (w := wr) ?_ (by go_grown)⟩
        exact ⟨HK.out.1, HK.out.2, fun _ => HO.out, fun _ => HX.out, nofun, nofun, nofun, nofun, nofun, nofun, nofun, nofun, nofun, nofun, nofun⟩
      · rintro L a w' i o hcl ⟨s, rfl, h⟩ ho hf hall
        have N : ∀ {a b : Nat}, (L a = true → L b = true) → L b = false → L a = false := fun {a b} h1 h2 => by
          cases h3 : L a
          · rfl
          · rw [h1 h3] at h2; cases h2
        have da8 : L 10 = true → L 8 = true := fun h => hcl 10 _ rfl h ⟨8, .data⟩ (by simp) rfl
        have d81 : L 8 = true → L 1 = true := fun h => hcl 8 _ rfl h ⟨1, .data⟩ (by simp) rfl
        clear hcl
        rcases (by
          have := (Array.getElem?_eq_some_iff.1 ho).1
          simp only [List.size_toArray, List.length_cons, List.length_nil] at this
          omega : i = 0 ∨ i = 1 ∨ i = 2 ∨ i = 3 ∨ i = 4 ∨ i = 5 ∨ i = 6 ∨ i = 7 ∨ i = 8 ∨ i = 9 ∨ i = 10) with rfl | rfl | rfl | rfl | rfl | rfl | rfl | rfl | rfl | rfl | rfl
        all_goals
          obtain rfl := Option.some.inj ho
          refine wpOp_of rfl rfl ?_
        · refine Oper.wp_val (.pointer (some ⟨w.heap.size + 1, 5, none⟩)) ?_ ⟨_, rfl, h.o0⟩
          simp [go_sem]
        · have e0 := h.f0 (hall ⟨0, .data⟩ (by simp) rfl)
          have hc5 : w'.cell? ⟨w.heap.size + 1, 5, none⟩ = some (.slice B k d) := (h.out (N (fun h => d81 (da8 h)) hf)).cell 5
          refine Oper.wp_val (.slice B k d) ?_ ⟨_, rfl, h.o1⟩
          simp [go_sem, e0, hc5]
        · exact Oper.wp_val (.slice (some ⟨b, off, none⟩) n c) rfl ⟨_, rfl, h.o2⟩
        · exact Oper.wp_val (.int .i64 k) rfl ⟨_, rfl, h.o3⟩
        · have e2 := h.f2 (hall ⟨2, .data⟩ (by simp) rfl)
          have e3 := h.f3 (hall ⟨3, .data⟩ (by simp) rfl)
          refine Oper.wp_val (.pointer (some ⟨b, off + k, none⟩)) ?_ ⟨_, rfl, h.o4⟩
          have hki : (k : Int) < (n : Int) := by omega
          simp [go_sem, e2, e3, hki]
        · have e4 := h.f4 (hall ⟨4, .data⟩ (by simp) rfl)
          have hck := HC.out w' h.kept
          refine Oper.wp_val (.string sk) ?_ ⟨_, rfl, h.o5⟩
          simp [go_sem, e4, hck]
        · have e5 := h.f5 (hall ⟨5, .data⟩ (by simp) rfl)
          refine Oper.wp_call (R := fun w v w' => v = .agg (tvv sk) ∧ Kept w w') (w' := w') (f := 29) (args := #[.string sk]) ?_ ((TextVal_any sk w').mono ?_) ?_
          · simp [go_sem, e5]
          · rintro e w' ⟨rfl, hk⟩
            exact ⟨_, rfl, rfl, hk⟩
          · rintro v w' ⟨rfl, hk⟩
            exact ⟨_, rfl, h.o6.drew hk⟩
        · have e6 := h.f6 (hall ⟨6, .data⟩ (by simp) rfl)
          refine Oper.wp_val (.slice (some ⟨w'.heap.size, 0, none⟩) 1 1) ?_ ⟨_, rfl, h.o7⟩
          simp [go_sem, e6, tvv]
        · have e1 := h.f1 (hall ⟨1, .data⟩ (by simp) rfl)
          obtain ⟨g, e7, hg⟩ := h.f7 (hall ⟨7, .data⟩ (by simp) rfl)
          have hgb := hg hf
          refine wp_append_own w' (.tmp 13) (.tmp 19) 25 rfl (w.heap.size + 1 + 1) 27 i0 _ 6 88 Tryz.underlying25 hi0 hz0 hz1 hz2 rfl (by omega) (.slice B k d) k (tvs (l.take k)) e1 (h.row hf) ⟨g, 0, none⟩ 1 1 (tvv sk).toList e7 rfl ?_ ?_ (by unfold maxLen; omega) (by omega) (by have := h.sz; omega) ?_
          · intro j u hu
            have e2 : (⟨g, 0, none⟩ : Addr).add j = ⟨g, j, none⟩ := by by_cases h0 : j = 0 <;> simp [Addr.add, h0]
            rw [e2, hgb.cell j]
            simpa using hu
          · intro u hu
            simp [tvv] at hu
            rcases hu with rfl | rfl | rfl | rfl | rfl | rfl <;> rfl
          · intro v' w3 ho3 hg3 _
            rw [← HSN.out] at ho3
            obtain ⟨B', d', rfl⟩ := own_slice6 ho3
            exact ⟨_, rfl, h.o8 hf (N da8 hf) (by rw [HSZ.out]; exact Nat.le_refl _) hg3 ho3⟩
        · refine Oper.wp_val (.pointer (some ⟨w.heap.size + 1, 5, none⟩)) ?_ ⟨_, rfl, h.o9⟩
          simp [go_sem]
        · have e9 := h.f9 (hall ⟨9, .data⟩ (by simp) rfl)
          obtain ⟨B', d', e8, hN⟩ := h.o10 (hall ⟨8, .data⟩ (by simp) rfl) hf (by rw [HSZ.out]; exact Nat.le_refl _)
          have hc5 : w'.cell? ⟨w.heap.size + 1, 5, none⟩ = some (.slice B k d) := (h.out hf).cell 5
          have hf5 : w'.frozen? ⟨w.heap.size + 1, 5, none⟩ = false := (h.out hf).frozen 5
          refine Oper.wp_skip (w' := w'.setCell ⟨w.heap.size + 1, 5, none⟩ (.slice B' (k + 1) d')) ?_ rfl ⟨s, rfl, hN⟩
          simp [go_sem, e9, e8, hc5, hf5]
      · rintro L a w' ⟨s, rfl, h⟩ hl
        obtain ⟨B', d', h1, h2, h3, h4⟩ := h.done hl
        have H1 := Lib.hid h1
        have H2 := Lib.hid h2
        have H3 := Lib.hid (And.intro h3 h4)
        clear h h1 h2 h3 h4 hl
        go_wp2_with fail
        exact ⟨⟨k + 1, B', d', by go_num, by omega, H1, H2, H3⟩, by simp [intOf]; omega⟩
    · have hkn : n = k := by omega
      subst hkn
      have hVW := HV0.out.below HK.out.1
      have HVW := Lib.hid hVW
      have hld := run_loadVar_row (P := Tryz.prog) wr (w.heap.size + 1) 27 27 (lvv B n d) (0, 0) _ HX.out Tryz.underlying27 rfl (by exact info_V)
      have hst := run_storeVar_row (P := Tryz.prog) wr w.heap.size 27 27 _ (lvv B n d) hVW info_V rfl (by simp [Value.oneCell', lvv])
      simp [go_sem, lvv_size] at hst hld
      have HB3 : Hid (Blk (wr.setRow w.heap.size (lvv B n d)) w.heap.size 27 (lvv B n d)) := Lib.hid (setRow_heap _ _ _ _ _ _ hVW)
      clear hVW
      go_wp2_with fail
      refine bodyPost_blk rfl rfl HB3.out Tryz.underlying27 rfl (by exact info_V) rfl ⟨B, d, rfl, ?_, below_setRow (HK0.out.trans HK.out.1) (Nat.le_refl _) _⟩
      have ho := HO.out
      rw [List.take_of_length_le (by omega)] at ho
      obtain ⟨h1, h2⟩ := ho
      refine ⟨h1, ?_⟩
      rcases h2 with h2 | ⟨g, cap, cur, h3, h4, h5, h6⟩
      · exact .inl h2
      · exact .inr ⟨g, cap, cur, h3, by omega, (setRow_other _ _ _ _ (by omega)).trans h5, h6⟩
end Go.Proofs.YtcamjefacbaniaaGreatDoor
