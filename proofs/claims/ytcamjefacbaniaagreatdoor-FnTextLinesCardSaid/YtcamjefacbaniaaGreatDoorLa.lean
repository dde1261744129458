/- Texts: bytes below 128, a method called, the place of a part -/
import Derived.Test.YtcamjefacbaniaaGreatDoorRows
import Derived.WalkKit
import Derived.ProofKit
import Derived.Outline
import Derived.Handy
import Derived.WalkLawsBesides
import Derived.WalkSpells
import Derived.Deep.QuietTactic
import Derived.Deep.RegionWith
import Derived.BigQuiet
import Derived.Lib.Hide
import Derived.Laws.CopyOwn
import Derived.Lib.OthersKept
import Derived.Lib.Strings
import Derived.Deep.Upon
import Derived.Laws.BitsAllLaws
import Derived.Deep.OwnRows
import Derived.Laws.IdiomStrings
import Derived.Deep.RegionHeld3
import Derived.Laws.EntriesVeiled
import Derived.Laws.Externs
import Derived.RegionTactic
import Derived.BigRegion
namespace Go.Proofs.YtcamjefacbaniaaGreatDoor
open Go.ChangeShapes Go.WideShapes Go.ChangeAt Go.RowKit
set_option linter.unusedVariables false
/-! ### slices that read as lists of numbers -/
/-- bytes as cells -/
def by8 (l : List Nat) : List Value := l.map fun (d : Nat) => Value.int .u8 (d : Int)
/-- words as cells -/
def w64 (l : List Nat) : List Value := l.map fun (d : Nat) => Value.int .u64 (d : Int)
theorem by8_len (l : List Nat) : (by8 l).length = l.length := by simp [by8]
theorem w64_len (l : List Nat) : (w64 l).length = l.length := by simp [w64]
theorem by8_get (l : List Nat) (k : Nat) (h : k < l.length) : (by8 l)[k]? = some (.int .u8 ((l[k]'h : Nat) : Int)) := by simp [by8, h]
theorem w64_get (l : List Nat) (k : Nat) (h : k < l.length) : (w64 l)[k]? = some (.int .u64 ((l[k]'h : Nat) : Int)) := by simp [w64, h]
theorem by8_drop (l : List Nat) (k : Nat) : by8 (l.drop k) = (by8 l).drop k := by simp [by8, List.map_drop]
theorem w64_drop (l : List Nat) (k : Nat) : w64 (l.drop k) = (w64 l).drop k := by simp [w64, List.map_drop]
theorem by8_ne {l : List Nat} (h : 0 < l.length) : by8 l ≠ [] := fun e => by
  have := congrArg List.length e
  rw [by8_len, List.length_nil] at this
  omega
theorem w64_ne {l : List Nat} (h : 0 < l.length) : w64 l ≠ [] := fun e => by
  have := congrArg List.length e
  rw [w64_len, List.length_nil] at this
  omega
theorem by8_one (l : List Nat) : ∀ u ∈ by8 l, u.oneCell' = true := by
  intro u hu; simp only [by8, List.mem_map] at hu; obtain ⟨d, _, rfl⟩ := hu; rfl
theorem w64_one (l : List Nat) : ∀ u ∈ w64 l, u.oneCell' = true := by
  intro u hu; simp only [w64, List.mem_map] at hu; obtain ⟨d, _, rfl⟩ := hu; rfl
/-- the slice with address A, as many elements as xs has and capacity c reads as xs -/
structure Sl (w : World) (A : Option Addr) (c : Nat) (xs : List Value) : Prop where
  cap : xs.length ≤ c
  max : c ≤ maxLen
  at_ : xs ≠ [] → ∃ b off, A = some ⟨b, off, none⟩ ∧ ∀ (j : Nat) (u : Value), xs[j]? = some u → w.cell? ⟨b, off + j, none⟩ = some u
section
variable {w w' : World} {A : Option Addr} {c : Nat} {xs : List Value}
theorem Sl.nil (w : World) : Sl w none 0 [] := ⟨Nat.le_refl _, Nat.zero_le _, fun h => absurd rfl h⟩
theorem Sl.empty (w : World) (A : Option Addr) (c : Nat) (hc : c ≤ maxLen) : Sl w A c [] := ⟨Nat.zero_le _, hc, fun h => absurd rfl h⟩
theorem Sl.below (h : Sl w A c xs) (hb : Below w.heap.size w w') : Sl w' A c xs := by
  refine ⟨h.cap, h.max, fun hx => ?_⟩
  obtain ⟨b, off, e, hc⟩ := h.at_ hx
  refine ⟨b, off, e, fun j u hu => ?_⟩
  have h1 := hc j u hu
  exact (hb.cell (p := ⟨b, off + j, none⟩) (block_lt_of_cell h1)).trans h1
/-- only the block g has turned, and that is none of its -/
theorem Sl.far (h : Sl w A c xs) {g : Nat} (hg : ∀ b off, A = some ⟨b, off, none⟩ → b ≠ g) (hk : ∀ k, k < w.heap.size → k ≠ g → w'.heap[k]? = w.heap[k]?) : Sl w' A c xs := by
  refine ⟨h.cap, h.max, fun hx => ?_⟩
  obtain ⟨b, off, e, hc⟩ := h.at_ hx
  refine ⟨b, off, e, fun j u hu => ?_⟩
  have h1 := hc j u hu
  exact (World.cell?_of_block (w := w) (hk b (block_lt_of_cell h1) (hg b off e))).trans h1
theorem Sl.drop (h : Sl w A c xs) (k : Nat) (hk : k ≤ xs.length) : Sl w (if c = k then A else A.map (·.add k)) (c - k) (xs.drop k) := by
  have h1 := h.cap
  have h2 := h.max
  refine ⟨by simp; omega, by omega, fun hx => ?_⟩
  have hlt : k < xs.length := by
    rcases Nat.lt_or_ge k xs.length with h3 | h3
    · exact h3
    · exact absurd (List.drop_eq_nil_of_le h3) hx
  have hne : xs ≠ [] := fun e => by subst e; simp at hlt
  obtain ⟨b, off, e, hc⟩ := h.at_ hne
  rw [if_neg (by omega), e]
  refine ⟨b, off + k, by by_cases h0 : k = 0 <;> simp [Addr.add, h0], fun j u hu => ?_⟩
  rw [List.getElem?_drop] at hu
  rw [Nat.add_assoc]
  exact hc _ _ hu
theorem Sl.take (h : Sl w A c xs) (k : Nat) : Sl w A c (xs.take k) := by
  refine ⟨by have := h.cap; simp; omega, h.max, fun hx => ?_⟩
  have hne : xs ≠ [] := fun e => by subst e; simp at hx
  obtain ⟨b, off, e, hc⟩ := h.at_ hne
  refine ⟨b, off, e, fun j u hu => hc j u ?_⟩
  rw [List.getElem?_take] at hu
  split at hu
  · exact hu
  · cases hu
theorem Sl.of_own {B e n cc : Nat} (h : w.ownsRow B e 1 (.slice A n cc) n xs) : Sl w A cc xs ∧ n = xs.length := by
  have hl : n = xs.length := by have := h.1; omega
  refine ⟨?_, hl⟩
  rcases h.2 with ⟨h1, h2⟩ | ⟨g, cap, cur, h1, h2, h3, h4, h5, h6, h7⟩
  · injection h1 with e1 e2 e3
    subst e1 e3
    have : xs = [] := List.eq_nil_of_length_eq_zero (by omega)
    subst this
    exact Sl.nil w
  · injection h1 with e1 e2 e3
    subst e1 e3
    refine ⟨by omega, h5, fun _ => ⟨g, 0, rfl, fun j u hu => ?_⟩⟩
    have := h.cells (g := g) rfl j u hu
    have e : (⟨g, 0, none⟩ : Addr).add j = ⟨g, 0 + j, none⟩ := by by_cases h0 : j = 0 <;> simp [Addr.add, h0]
    rwa [e] at this
end
theorem own_far {w : World} {B e n cc : Nat} {A : Option Addr} {xs : List Value} (h : w.ownsRow B e 1 (.slice A n cc) n xs) {g : Nat} (hg : g < B) : ∀ b off, A = some ⟨b, off, none⟩ → b ≠ g := by
  rintro b off rfl
  have := (h.lt b rfl).1
  omega
/-- the block g is the cells cs, none of them frozen -/
def Blk (w : World) (g : Nat) (t : TypeId) (cs : Array Value) : Prop := w.heap[g]? = some (.cells cs t (0, 0))
theorem Blk.lt {w : World} {g : Nat} {t : TypeId} {cs : Array Value} (h : Blk w g t cs) : g < w.heap.size := (Array.getElem?_eq_some_iff.1 h).1
theorem Blk.below {w w' : World} {g : Nat} {t : TypeId} {cs : Array Value} (h : Blk w g t cs) (hb : Below w.heap.size w w') : Blk w' g t cs := (hb.block g h.lt).trans h
theorem Blk.new (w : World) (t : TypeId) (cs : Array Value) : Blk (w.alloc (.cells cs t)) w.heap.size t cs := heap_alloc_new w _
theorem Blk.cell {w : World} {g : Nat} {t : TypeId} {cs : Array Value} (h : Blk w g t cs) (i : Nat) : w.cell? ⟨g, i, none⟩ = cs[i]? := cell_of_row w g i cs t (0, 0) h
theorem Blk.frozen {w : World} {g : Nat} {t : TypeId} {cs : Array Value} (h : Blk w g t cs) (i : Nat) : w.frozen? ⟨g, i, none⟩ = false := frozen_of_row w g i cs t h
/-- a struct that is handed back out of its own block -/
theorem bodyPost_blk {P : Program} {fn : Func} {R : Ending → World → Prop} {a : Act} {w : World} {p : Tmp} {ty : TypeId} {g : Nat} {t : TypeId} {cs : Array Value} {fr : Nat × Nat} {d : TypeDesc} (h : fn.results = #[.cell p ty])
    (hp : a.tmps.getD p undef = .pointer (some ⟨g, 0, none⟩)) (hg : w.heap[g]? = some (.cells cs t fr)) (hu : P.underlying ty = some d) (hd : (match d with | .struct _ | .array _ _ => true | _ => false) = true) (hi : (P.info? ty).map (·.size) = some cs.size)
    (hdf : a.defers = []) (hR : R (.returned (.agg cs)) w) : bodyPost P fn R .ret a w :=
  bodyPost_ret (results_cell_row h _ w g t cs fr d hp hg hu hd hi) hdf hR
/-- what a contract keeps of the world: what lay there is as it was -/
abbrev Kept (w w' : World) : Prop := Below w.heap.size w w'
theorem Kept.trans {a b c : World} (h : Kept a b) (k : Kept b c) : Kept a c := Below.trans h (k.mono h.size)
theorem info8 : (Tryz.prog.info? 5).map (fun i => (i.zero, i.size, i.bytes)) = some (some (.int .u8 0), 1, 1) := by kernel_rfl
section
variable {P : Program}
/-- append onto a row of the call's own, whatever the source's address -/
theorem wp_append_sl {w : World} {o : Oper} {a : Act} {K : Act → World → Prop} {Q : Exit → Act → World → Prop} (s x : Operand) (t : TypeId)
    (ho : o.op = .call { callee := .builtin .append, args := #[s, x], argTypes := #[t, t] })
    (base : Nat) (e : TypeId) (i : TypeInfo) (z : Value) (bytes : Nat) (ht : P.underlying t = some (.slice e)) (hi : P.info? e = some i) (hz : i.zero = some z)
    (hsize : i.size = 1) (hby : i.bytes = bytes) (hzs : z.cells.size = 1)
    (v : Value) (n : Nat) (xs : List Value) (hs : a.eval s = v) (hown : w.ownsRow base e 1 v n xs)
    (A : Option Addr) (m c : Nat) (news : List Value) (hx : a.eval x = .slice A m c) (hm : news.length = m) (hsl : Sl w A c news) (h1 : ∀ u ∈ news, u.oneCell' = true)
    (h63 : n + m ≤ maxLen) (hbytes : (n + m) * bytes ≤ 140737488355328) (hbase : base ≤ w.heap.size)
    (h : ∀ v' w', w'.ownsRow base e 1 v' (n + m) (xs ++ news) → w.grownBy w' v.ownBlock → K (a.put o.dst v') w') : o.wp P a w K Q := by
  rcases A with _ | ad
  · have hnil : news = [] := by
      rcases Classical.em (news = []) with h0 | h0
      · exact h0
      · obtain ⟨b, off, e1, _⟩ := hsl.at_ h0; cases e1
    subst hnil
    simp only [List.length_nil] at hm
    subst hm
    obtain ⟨B, L, C, hv, hLC⟩ : ∃ B L C, v = .slice B L C ∧ L ≤ C := by
      rcases hown.2 with ⟨e1, _⟩ | ⟨g, cap, cur, e1, _, _, e2, _⟩
      · exact ⟨_, _, _, e1, Nat.le_refl _⟩
      · exact ⟨_, _, _, e1, e2⟩
    have hr := run_append_nothing (P := P) w t t o.type e i ht hi B L C hLC (.slice none 0 c) (Src.ofNil w ht c)
    rw [← hv] at hr
    unfold Oper.wp execOp
    simp only [ho, resolve, invoke, builtin, Sem.run_bind, Sem.run_pure, Result.andThen_ok, List.map_toArray, List.map_cons, List.map_nil, hs, hx, hr]
    exact h v w (by simpa using hown) (World.grownBy.refl w _)
  · refine wp_append_own w s x t ho base e i z 1 bytes ht hi hz hsize hby hzs (by omega) v n xs hs hown ad m c news hx (by omega) ?_ h1 h63 hbytes hbase fun v' w' h2 h3 _ => h v' w' h2 h3
    intro j u hu
    have hne : news ≠ [] := fun e1 => by subst e1; simp at hu
    obtain ⟨b, off, e1, hc⟩ := hsl.at_ hne
    injection e1 with e1
    subst e1
    have e2 : (⟨b, off, none⟩ : Addr).add j = ⟨b, off + j, none⟩ := by by_cases h0 : j = 0 <;> simp [Addr.add, h0]
    rw [e2]
    exact hc j u hu
theorem wpList_append_sl {w : World} {ops : Array Oper} {rest : List Oper} {o : Oper} {a : Act} {Q : Exit → Act → World → Prop} (hgd : o.guard = none) (s x : Operand) (t : TypeId)
    (ho : o.op = .call { callee := .builtin .append, args := #[s, x], argTypes := #[t, t] })
    (base : Nat) (e : TypeId) (i : TypeInfo) (z : Value) (bytes : Nat) (ht : P.underlying t = some (.slice e)) (hi : P.info? e = some i) (hz : i.zero = some z)
    (hsize : i.size = 1) (hby : i.bytes = bytes) (hzs : z.cells.size = 1)
    (v : Value) (n : Nat) (xs : List Value) (hs : a.eval s = v) (hown : w.ownsRow base e 1 v n xs)
    (A : Option Addr) (m c : Nat) (news : List Value) (hx : a.eval x = .slice A m c) (hm : news.length = m) (hsl : Sl w A c news) (h1 : ∀ u ∈ news, u.oneCell' = true)
    (h63 : n + m ≤ maxLen) (hbytes : (n + m) * bytes ≤ 140737488355328) (hbase : base ≤ w.heap.size)
    (h : ∀ v' w', w'.ownsRow base e 1 v' (n + m) (xs ++ news) → w.grownBy w' v.ownBlock → wpList P ops Q rest (a.put o.dst v') w') : wpList P ops Q (o :: rest) a w :=
  wpList_plain hgd fun _ hK => wp_append_sl s x t ho base e i z bytes ht hi hz hsize hby hzs v n xs hs hown A m c news hx hm hsl h1 h63 hbytes hbase fun v' w' h2 h3 => hK _ _ (h v' w' h2 h3)
theorem step_append_sl {w : World} {ops : Array Oper} {o : Oper} {a : Act} {K : Act → World → Prop} {Q : Exit → Act → World → Prop} {E : Prop} (hgd : o.guard = none) (s x : Operand) (t : TypeId)
    (ho : o.op = .call { callee := .builtin .append, args := #[s, x], argTypes := #[t, t] })
    (base : Nat) (e : TypeId) (i : TypeInfo) (z : Value) (bytes : Nat) (ht : P.underlying t = some (.slice e)) (hi : P.info? e = some i) (hz : i.zero = some z)
    (hsize : i.size = 1) (hby : i.bytes = bytes) (hzs : z.cells.size = 1)
    (v : Value) (n : Nat) (xs : List Value) (hs : a.eval s = v) (hown : w.ownsRow base e 1 v n xs)
    (A : Option Addr) (m c : Nat) (news : List Value) (hx : a.eval x = .slice A m c) (hm : news.length = m) (hsl : Sl w A c news) (h1 : ∀ u ∈ news, u.oneCell' = true)
    (h63 : n + m ≤ maxLen) (hbytes : (n + m) * bytes ≤ 140737488355328) (hbase : base ≤ w.heap.size)
    (h : ∀ v' w', w'.ownsRow base e 1 v' (n + m) (xs ++ news) → w.grownBy w' v.ownBlock → K (a.put o.dst v') w') :
    if Region.wanted o (yielded ops a.tmps) = true then Oper.wp P o a w K Q else E := by
  have hw : Region.wanted o (yielded ops a.tmps) = true := by simp [Region.wanted, hgd]
  rw [if_pos hw]
  exact wp_append_sl s x t ho base e i z bytes ht hi hz hsize hby hzs v n xs hs hown A m c news hx hm hsl h1 h63 hbytes hbase h
end
/-- the block g is a row of bytes that a conversion of a text made; its first n are f -/
def BR (w : World) (g n : Nat) (f : Nat → Nat) : Prop :=
  ∃ C : Array Value, w.heap[g]? = some (.cells C 5 (C.size, C.size + 1)) ∧ n ≤ C.size ∧ ∀ j, j < n → C[j]? = some (.int .u8 ((f j : Nat) : Int))
theorem BR.lt {w : World} {g n : Nat} {f : Nat → Nat} (h : BR w g n f) : g < w.heap.size := by
  obtain ⟨C, h1, _⟩ := h
  exact (Array.getElem?_eq_some_iff.1 h1).1
theorem BR.cell {w : World} {g n : Nat} {f : Nat → Nat} (h : BR w g n f) {j : Nat} (hj : j < n) : w.cell? ⟨g, j, none⟩ = some (.int .u8 ((f j : Nat) : Int)) := by
  obtain ⟨C, h1, h2, h3⟩ := h
  have := h3 j hj
  simp only [World.cell?, h1]
  exact this
theorem BR.free {w : World} {g n : Nat} {f : Nat → Nat} (h : BR w g n f) {j : Nat} (hj : j < n) : w.frozen? ⟨g, j, none⟩ = false := by
  obtain ⟨C, h1, h2, h3⟩ := h
  simp only [World.frozen?, h1]
  have : ¬ C.size ≤ j := by omega
  simp [this]
theorem BR.below {w w' : World} {g n : Nat} {f : Nat → Nat} (h : BR w g n f) (hb : Below w.heap.size w w') : BR w' g n f := by
  obtain ⟨C, h1, h2, h3⟩ := h
  exact ⟨C, (hb.block g (BR.lt ⟨C, h1, h2, h3⟩)).trans h1, h2, h3⟩
theorem BR.set {w : World} {g n : Nat} {f : Nat → Nat} (h : BR w g n f) (k v : Nat) : BR (w.setCell ⟨g, k, none⟩ (.int .u8 ((v : Nat) : Int))) g n (fun j => if j = k then v else f j) := by
  obtain ⟨C, h1, h2, h3⟩ := h
  refine ⟨C.setIfInBounds k (.int .u8 ((v : Nat) : Int)), ?_, by simpa using h2, fun j hj => ?_⟩
  · simp [World.setCell, Array.getElem?_modify, h1]
  · rw [Array.getElem?_setIfInBounds]
    by_cases e : j = k
    · subst e
      have : j < C.size := by omega
      simp [this]
    · have e' : ¬ k = j := fun h => e h.symm
      simp only [e, e', if_false]
      exact h3 j hj
/-- the k-th byte of a text, as a number -/
def bt (S : ByteArray) (j : Nat) : Nat := if h : j < S.size then (S[j]'h).toNat else 0
theorem bt_get (S : ByteArray) (j : Nat) (h : j < S.size) : (S[j]'h).toNat = bt S j := by rw [bt, dif_pos h]
theorem bt_lt (S : ByteArray) (j : Nat) : bt S j < 256 := by
  unfold bt; split
  · exact UInt8.toNat_lt _
  · omega
section
variable {P : Program}
/-- a text made a row of bytes -/
theorem conv_any (w : World) (src dst : TypeId) (S : ByteArray) (hs : P.underlying src = some .string) (hd : P.underlying dst = some (.slice 5)) (he : P.underlying 5 = some (.int .u8)) :
    ∃ W1 cap, (convert src dst (.string S)).run P w = .ok (.slice (some ⟨w.heap.size, 0, none⟩) S.size cap) W1 ∧ BR W1 w.heap.size S.size (bt S) ∧ S.size ≤ cap ∧ Below w.heap.size w W1 := by
  have h := run_bytes_of_string (P := P) w src dst 5 S hs hd he
  generalize hcap : grownCap w S.size 0 5 = cap at h
  have hle : S.size ≤ cap := by rw [← hcap]; exact grownCap_ge _ _ _ _
  refine ⟨_, cap, h, ⟨bytesRow S cap, ?_, ?_, fun j hj => ?_⟩, hle, ?_⟩
  · show (w.heap.push _)[w.heap.size]? = _
    simp
  · simp [bytesRow]
  · have hj' : j < S.data.size := hj
    rw [bytesRow_at S cap j hj', bt, dif_pos hj]
    rfl
  · have h1 : Below w.heap.size w w.drew := ⟨rfl, rfl, rfl, Nat.le_refl _, fun _ _ => rfl⟩
    exact h1.alloc (Nat.le_refl _) _
/-- a row of bytes made a text -/
theorem back_conv (w : World) (src dst : TypeId) (g cap : Nat) (l : List UInt8) (f : Nat → Nat) (hs : P.underlying src = some (.slice 5)) (he : P.underlying 5 = some (.int .u8)) (hd : P.underlying dst = some .string)
    (hb : BR w g l.length f) (hf : ∀ j (h : j < l.length), (l[j]'h).toNat = f j) :
    (convert src dst (.slice (some ⟨g, 0, none⟩) l.length cap)).run P w = .ok (.string ⟨l.toArray⟩) w :=
  run_convert_bytes_back w src dst 5 ⟨g, 0, none⟩ cap l hs he hd (fun j hj => by
    have e : (⟨g, 0, none⟩ : Addr).add j = ⟨g, j, none⟩ := by by_cases h0 : j = 0 <;> simp [Addr.add, h0]
    rw [e, hb.cell hj, hf j hj])
end
/-- all bytes are below 128 -/
def Asc (T : ByteArray) : Prop := ∀ j (h : j < T.size), (T[j]'h).toNat < 128
def RetAsc (w : World) (e : Ending) (w' : World) : Prop := ∃ T : ByteArray, e = .returned (.string T) ∧ T.size ≤ 60 ∧ Asc T ∧ Kept w w'
/-- the bytes of a list of numbers -/
def byl (n : Nat) (f : Nat → Nat) : List UInt8 := (List.range n).map fun j => UInt8.ofNat (f j)
theorem byl_len (n : Nat) (f : Nat → Nat) : (byl n f).length = n := by simp [byl]
theorem byl_get (n : Nat) (f : Nat → Nat) (j : Nat) (h : j < (byl n f).length) (hf : f j < 256) : ((byl n f)[j]'h).toNat = f j := by
  simp only [byl, List.getElem_map, List.getElem_range]
  exact UInt8.toNat_ofNat_of_lt hf
theorem u8_and127 (x : Nat) (h : x < 256) : bits .and .u8 (x : Int) 127 = ((x % 128 : Nat) : Int) := by
  have := u8_and_nat x 127 h (by omega)
  rw [show ((127 : Nat) : Int) = 127 from rfl] at this
  rw [this, Nat.and_two_pow_sub_one_eq_mod x 7]
theorem empty_iff (t : ByteArray) : t.toList.isEmpty = decide (t.size = 0) := by
  rw [ByteArray.toList_eq]
  obtain ⟨⟨l⟩⟩ := t
  cases l <;> rfl
theorem after_blk {w w2 : World} {o : Obj} (hb : Kept (w.alloc o) w2) : w2.heap[w.heap.size]? = some o :=
  (hb.block w.heap.size (by simp)).trans (heap_alloc_new w o)
theorem after_kept {w w2 : World} {o : Obj} (hb : Kept (w.alloc o) w2) : Kept w w2 :=
  Below.trans ((Below.refl _ w).alloc (Nat.le_refl _) o) (hb.mono (by simp))
theorem block_lt0 {w : World} {g : Nat} {o : Obj} (h : w.heap[g]? = some o) : g < w.heap.size := (Array.getElem?_eq_some_iff.1 h).1
theorem info_V : (Tryz.prog.info? 27).map (·.size) = some 6 := by kernel_rfl
/-- a truth, as the laws have it -/
def bvv (b : Bool) : Array Value := #[.int .i64 1, .bool false, .slice none 0 0, .int .u64 (if b then 1 else 0), .string ⟨#[]⟩, .slice none 0 0]
set_option maxRecDepth 100000 in
set_option maxHeartbeats 1000000 in
theorem Ascii_any (S : ByteArray) (hS : S.size ≤ 2147483647) (w : World) :
    Calls Tryz.prog 4 #[.string S] w (RetAsc w) := by
  rcases Nat.lt_or_ge 60 S.size with h60 | h60
  · have h60I : (60 : Int) < (S.size : Int) := by omega
    have h61 : 60 ≤ S.size := by omega
    have h62 : ¬ ((S.size : Int) ≤ 60) := by omega
    have hsz : (S.extract 0 60).size = 60 := by rw [ByteArray.size_extract]; omega
    obtain ⟨W1, cap, hc, hb, hcap, hk⟩ := conv_any (P := Tryz.prog) w 9 23 (S.extract 0 60) Tryz.underlying9 Tryz.underlying23 Tryz.underlying5
    rw [hsz] at hc hb hcap
    have hgl := hb.lt
    have HB0 : Hid (BR W1 w.heap.size 60 (fun j => if j < 0 then bt (S.extract 0 60) j % 128 else bt (S.extract 0 60) j)) := Lib.hid hb
    have HK0 := Lib.hid hk
    clear hb hk hsz
    go_enter Tryz.func4, Tryz.ntmps4
    go_wp2_with fail
    generalize S.extract 0 60 = T at *
    clear hc
    go_loopw [13] (fun iv wr => ∃ k : Nat, iv = .int .i64 k ∧ k ≤ 60 ∧ BR wr w.heap.size 60 (fun j => if j < k then bt T j % 128 else bt T j) ∧ Kept w wr) (fun iv _ => 60 - (intOf iv).toNat)
    case atStart => exact ⟨0, rfl, Nat.zero_le _, HB0.out, HK0.out⟩
    case round =>
      obtain ⟨k, rfl, hk, hb, hbr⟩ := hrel
      by_cases hlt : k < 60
      · have hcl := hb.cell hlt
        rw [if_neg (Nat.lt_irrefl k)] at hcl
        have hfr := hb.free hlt
        have hx := bt_lt T k
        have hset := hb.set k (bt T k % 128)
        have hfun : (fun j => if j = k then bt T k % 128 else if j < k then bt T j % 128 else bt T j) = (fun j => if j < k + 1 then bt T j % 128 else bt T j) := by
          funext j
          by_cases e : j = k
          · subst e
            rw [if_pos rfl, if_pos (Nat.lt_succ_self _)]
          · rw [if_neg e]
            by_cases e2 : j < k
            · rw [if_pos e2, if_pos (by omega)]
            · rw [if_neg e2, if_neg (by omega)]
        rw [hfun] at hset
        have HSET := Lib.hid hset
        have HKB := Lib.hid (hbr.setCell (p := ⟨w.heap.size, k, none⟩) (Nat.le_refl _) (.int .u8 ((bt T k % 128 : Nat) : Int)))
        have k1 : (k : Int) < 60 := by omega
        clear hset hfun hb hbr
        generalize bt T k = x at *
        go_wp2_with fail
        rw [u8_and127 x hx]
        exact ⟨⟨k + 1, by go_num, by omega, HSET.out, HKB.out⟩, by simp [intOf]; omega⟩
      · obtain rfl : k = 60 := by omega
        have hback := back_conv (P := Tryz.prog) wr 23 9 w.heap.size cap (byl 60 (fun j => bt T j % 128)) (fun j => if j < 60 then bt T j % 128 else bt T j) Tryz.underlying23 Tryz.underlying5 Tryz.underlying9 (by rw [byl_len]; exact hb) (fun j hj => by
          have hj2 : j < 60 := by rwa [byl_len] at hj
          rw [byl_get _ _ _ _ (by omega), if_pos hj2])
        rw [byl_len] at hback
        have hA : Asc ⟨(byl 60 (fun j => bt T j % 128)).toArray⟩ := fun j hj => by
          have hj3 : j < (byl 60 (fun j => bt T j % 128)).toArray.size := hj
          have hj2 : j < (byl 60 (fun j => bt T j % 128)).length := by rwa [List.size_toArray] at hj3
          show ((byl 60 (fun j => bt T j % 128))[j]'hj2).toNat < 128
          rw [byl_get _ _ _ _ (by omega)]
          omega
        have hZ : (ByteArray.mk (byl 60 (fun j => bt T j % 128)).toArray).size ≤ 60 := by
          show (byl 60 (fun j => bt T j % 128)).toArray.size ≤ 60
          rw [List.size_toArray, byl_len]; omega
        have HA := Lib.hid hA
        have HZ := Lib.hid hZ
        have HBR := Lib.hid hbr
        clear hA hZ hb hbr
        go_wp2_with fail
        go_ret
        exact ⟨_, rfl, HZ.out, HA.out, HBR.out⟩
  · have h60I : (S.size : Int) ≤ 60 := by omega
    have hsz : (S).size = S.size := rfl
    obtain ⟨W1, cap, hc, hb, hcap, hk⟩ := conv_any (P := Tryz.prog) w 9 23 (S) Tryz.underlying9 Tryz.underlying23 Tryz.underlying5
    skip
    have hgl := hb.lt
    have HB0 : Hid (BR W1 w.heap.size S.size (fun j => if j < 0 then bt (S) j % 128 else bt (S) j)) := Lib.hid hb
    have HK0 := Lib.hid hk
    clear hb hk hsz
    go_enter Tryz.func4, Tryz.ntmps4
    go_wp2_with fail
    obtain ⟨T, hT⟩ : ∃ T, T = S := ⟨_, rfl⟩
    clear hc
    go_loopw [13] (fun iv wr => ∃ k : Nat, iv = .int .i64 k ∧ k ≤ S.size ∧ BR wr w.heap.size S.size (fun j => if j < k then bt S j % 128 else bt S j) ∧ Kept w wr) (fun iv _ => S.size - (intOf iv).toNat)
    case atStart => exact ⟨0, rfl, Nat.zero_le _, HB0.out, HK0.out⟩
    case round =>
      obtain ⟨k, rfl, hk, hb, hbr⟩ := hrel
      by_cases hlt : k < S.size
      · have hcl := hb.cell hlt
        rw [if_neg (Nat.lt_irrefl k)] at hcl
        have hfr := hb.free hlt
        have hx := bt_lt S k
        have hset := hb.set k (bt S k % 128)
        have hfun : (fun j => if j = k then bt S k % 128 else if j < k then bt S j % 128 else bt S j) = (fun j => if j < k + 1 then bt S j % 128 else bt S j) := by
          funext j
          by_cases e : j = k
          · subst e
            rw [if_pos rfl, if_pos (Nat.lt_succ_self _)]
          · rw [if_neg e]
            by_cases e2 : j < k
            · rw [if_pos e2, if_pos (by omega)]
            · rw [if_neg e2, if_neg (by omega)]
        rw [hfun] at hset
        have HSET := Lib.hid hset
        have HKB := Lib.hid (hbr.setCell (p := ⟨w.heap.size, k, none⟩) (Nat.le_refl _) (.int .u8 ((bt S k % 128 : Nat) : Int)))
        have k1 : (k : Int) < (S.size : Int) := by omega
        clear hset hfun hb hbr
        generalize bt S k = x at *
        go_wp2_with fail
        rw [u8_and127 x hx]
        exact ⟨⟨k + 1, by go_num, by omega, HSET.out, HKB.out⟩, by simp [intOf]; omega⟩
      · obtain rfl : k = S.size := by omega
        have hback := back_conv (P := Tryz.prog) wr 23 9 w.heap.size cap (byl S.size (fun j => bt S j % 128)) (fun j => if j < S.size then bt S j % 128 else bt S j) Tryz.underlying23 Tryz.underlying5 Tryz.underlying9 (by rw [byl_len]; exact hb) (fun j hj => by
          have hj2 : j < S.size := by rwa [byl_len] at hj
          rw [byl_get _ _ _ _ (by omega), if_pos hj2])
        rw [byl_len] at hback
        have hA : Asc ⟨(byl S.size (fun j => bt S j % 128)).toArray⟩ := fun j hj => by
          have hj3 : j < (byl S.size (fun j => bt S j % 128)).toArray.size := hj
          have hj2 : j < (byl S.size (fun j => bt S j % 128)).length := by rwa [List.size_toArray] at hj3
          show ((byl S.size (fun j => bt S j % 128))[j]'hj2).toNat < 128
          rw [byl_get _ _ _ _ (by omega)]
          omega
        have hZ : (ByteArray.mk (byl S.size (fun j => bt S j % 128)).toArray).size ≤ 60 := by
          show (byl S.size (fun j => bt S j % 128)).toArray.size ≤ 60
          rw [List.size_toArray, byl_len]; omega
        have HA := Lib.hid hA
        have HZ := Lib.hid hZ
        have HBR := Lib.hid hbr
        clear hA hZ hb hbr
        go_wp2_with fail
        go_ret
        exact ⟨_, rfl, HZ.out, HA.out, HBR.out⟩
/-- white space below 128 -/
def blk (c : Nat) : Bool := c == 32 || (decide (9 ≤ c) && decide (c ≤ 13))
/-- the first k bytes are white space -/
def blks (T : ByteArray) (k : Nat) : Bool := (List.range k).all fun j => blk (bt T j)
theorem blks_zero (T : ByteArray) : blks T 0 = true := rfl
theorem blks_succ (T : ByteArray) (k : Nat) : blks T (k + 1) = (blks T k && blk (bt T k)) := by
  simp [blks, List.range_succ, List.all_append]
theorem blks_false (T : ByteArray) (k n : Nat) (hk : k < n) (h : blk (bt T k) = false) : blks T n = false := by
  rw [Bool.eq_false_iff]
  intro hh
  have := List.all_eq_true.1 hh k (List.mem_range.2 hk)
  rw [h] at this
  cases this
/-- all are white space, and there is one -/
def spc (T : ByteArray) : Bool := decide (0 < T.size) && blks T T.size
theorem info_Bu : (Tryz.prog.info? 102).map (·.size) = some 3 := by kernel_rfl
/-- a function of the program as a value -/
abbrev fv (n : Nat) : Value := .func (.func n) #[] #[]
set_option maxRecDepth 100000 in
theorem newBuiltin_any (nm : ByteArray) (n : Nat) (w : World) :
    Calls Tryz.prog 40 #[.string nm, fv n] w fun e w' => ∃ g, e = .returned (.pointer (some ⟨g, 0, none⟩)) ∧ Blk w' g 102 #[.string nm, fv n, .nilIface] ∧ Kept w w' := by
  go_enter Tryz.func40, Tryz.ntmps40
  go_wp2_with fail
  go_ret
  exact ⟨_, rfl, Blk.new w _ _, (Below.refl _ _).alloc (Nat.le_refl _) _⟩
set_option maxRecDepth 100000 in
theorem bind_any (g : Nat) (nm S : ByteArray) (n : Nat) (w : World) (hb : Blk w g 102 #[.string nm, fv n, .nilIface]) :
    Calls Tryz.prog 41 #[.pointer (some ⟨g, 0, none⟩), .iface 52 (.string S)] w fun e w' => ∃ g, e = .returned (.pointer (some ⟨g, 0, none⟩)) ∧ Blk w' g 102 #[.string nm, fv n, .iface 52 (.string S)] ∧ Kept w w' := by
  have c0 : w.cell? ⟨g, 0, none⟩ = some (.string nm) := hb.cell 0
  have c1 : w.cell? ⟨g, 1, none⟩ = some (fv n) := hb.cell 1
  have hl := hb.lt
  clear hb
  have KEEP : Hid (∀ X : World, Kept w X → X.cell? ⟨g, 0, none⟩ = some (.string nm) ∧ X.cell? ⟨g, 1, none⟩ = some (fv n)) := Lib.hid fun X h => ⟨(h.cell (p := ⟨g, 0, none⟩) hl).trans c0, (h.cell (p := ⟨g, 1, none⟩) hl).trans c1⟩
  go_enter Tryz.func41, Tryz.ntmps41
  go_wp2_with fail
  go_region_held3 (fun X : World => X.cell? ⟨g, 0, none⟩ = some (.string nm) ∧ X.cell? ⟨g, 1, none⟩ = some (fv n)) (exact KEEP.out _ (by go_grown)) (fail)
  go_wp2_with fail
  go_ret
  exact ⟨_, rfl, Blk.new w 102 #[.string nm, fv n, .iface 52 (.string S)], by go_grown⟩
/-- two results, and what holds of them and of the world -/
def Ret2 (R : Value → Value → World → Prop) (e : Ending) (w' : World) : Prop := ∃ a b, e = .returned (.tuple #[a, b]) ∧ R a b w'
set_option maxRecDepth 100000 in
theorem bname_any (g : Nat) (nm : ByteArray) (f r : Value) (w : World) (hb : Blk w g 102 #[.string nm, f, r]) :
    Calls Tryz.prog 43 #[.pointer (some ⟨g, 0, none⟩)] w fun e w' => e = .returned (.string nm) ∧ w = w' := by
  have c0 : w.cell? ⟨g, 0, none⟩ = some (.string nm) := hb.cell 0
  clear hb
  go_enter Tryz.func43, Tryz.ntmps43
  go_wp2_with fail
  go_ret
  exact ⟨rfl, rfl⟩
set_option maxRecDepth 100000 in
theorem brecv_any (g : Nat) (nm S : ByteArray) (f : Value) (w : World) (hb : Blk w g 102 #[.string nm, f, .iface 52 (.string S)]) :
    Calls Tryz.prog 44 #[.pointer (some ⟨g, 0, none⟩)] w fun e w' => e = .returned (.iface 52 (.string S)) ∧ w = w' := by
  have c0 : w.cell? ⟨g, 2, none⟩ = some (.iface 52 (.string S)) := hb.cell 2
  clear hb
  go_enter Tryz.func44, Tryz.ntmps44
  go_wp2_with fail
  go_ret
  exact ⟨rfl, rfl⟩
set_option maxRecDepth 100000 in
theorem check_any (nm : ByteArray) (A : Option Addr) (n c : Nat) (lo hi : Nat) (h1 : lo ≤ n) (h2 : n ≤ hi) (hh : hi ≤ 1000) (w : World) :
    Calls Tryz.prog 55 #[.string nm, .slice A n c, .slice none 0 0, .int .i64 (lo : Int), .int .i64 (hi : Int)] w fun e w' => e = .returned .nilIface ∧ w = w' := by
  have h3 : ¬ ((n : Int) < (lo : Int)) := by omega
  have h4 : ¬ ((hi : Int) < (n : Int)) := by omega
  go_enter Tryz.func55, Tryz.ntmps55
  go_wp2_with fail
  go_ret
  exact ⟨rfl, rfl⟩
set_option maxRecDepth 100000 in
/-- a method of a text is called -/
theorem zzCall_lines (nm S : ByteArray) (args : Value) (R : Value → Value → World → Prop) (w : World)
    (H : ∀ W g, Kept w W → Blk W g 102 #[.string nm, fv 24, .iface 52 (.string S)] → Calls Tryz.prog 24 #[.pointer none, .pointer (some ⟨g, 0, none⟩), args, .slice none 0 0] W (Ret2 R)) :
    Calls Tryz.prog 23 #[.string nm, fv 24, .string S, args] w (Ret2 R) := by
  have HH := Lib.hid H
  clear H
  go_enter Tryz.func23, Tryz.ntmps23
  go_wp2_with fail
  refine (newBuiltin_any nm 24 w).mono ?_
  rintro e w1 ⟨g1, rfl, hb1, hk1⟩
  have B1 := Lib.hid hb1
  have K1 := Lib.hid hk1
  clear hb1 hk1
  go_wp2_with fail
  refine (bind_any g1 nm S 24 w1 B1.out).mono ?_
  rintro e w2 ⟨g2, rfl, hb2, hk2⟩
  have HC := Lib.hid (HH.out w2 g2 (K1.out.trans hk2) hb2)
  clear hb2 hk2
  go_wp2_with fail
  refine (HC.out).mono ?_
  rintro e w3 ⟨a, b, rfl, hR⟩
  have HR := Lib.hid hR
  clear hR
  go_wp2_with fail
  go_ret2
  exact ⟨a, b, rfl, HR.out⟩
/-- the part stands at the place -/
def oc (T P : ByteArray) (k : Nat) : Bool := (T.extract k (k + P.size)).toList == P.toList
theorem list_inj {a b : ByteArray} (h : a.toList = b.toList) : a = b := by
  rw [ByteArray.toList_eq, ByteArray.toList_eq] at h
  exact ByteArray.ext (Array.toList_inj.1 h)
theorem oc_list (T P : ByteArray) (k : Nat) : ((T.extract k (k + P.size)).toList == P.toList) = oc T P k := rfl
/-- the first place (b false), or the last one, below K at which the part stands, or -1 -/
def PlaceAt (b : Bool) (T P : ByteArray) (K : Nat) (r : Int) : Prop :=
  (r = -1 ∧ ∀ j, j < K → oc T P j = false) ∨ ∃ i : Nat, i < K ∧ r = i ∧ oc T P i = true ∧ ∀ j, j < K → (if b then i < j else j < i) → oc T P j = false
theorem PlaceAt.unique {b : Bool} {T P : ByteArray} {K : Nat} {r s : Int} (h : PlaceAt b T P K r) (k : PlaceAt b T P K s) : r = s := by
  rcases h with ⟨e, h⟩ | ⟨i, hi, rfl, h1, h2⟩
  · rcases k with ⟨e', _⟩ | ⟨i', hi', _, h1', _⟩
    · rw [e, e']
    · rw [h i' hi'] at h1'; cases h1'
  · rcases k with ⟨e', h'⟩ | ⟨i', hi', rfl, h1', h2'⟩
    · rw [h' i hi] at h1; cases h1
    · rcases Nat.lt_trichotomy i i' with hlt | heq | hgt
      · cases b
        · rw [h2' i hi (by simpa using hlt)] at h1; cases h1
        · rw [h2 i' hi' (by simpa using hlt)] at h1'; cases h1'
      · rw [heq]
      · cases b
        · rw [h2 i' hi' (by simpa using hgt)] at h1'; cases h1'
        · rw [h2' i hi (by simpa using hgt)] at h1; cases h1
theorem PlaceAt.zero (b : Bool) (T P : ByteArray) : PlaceAt b T P 0 (-1) := .inl ⟨rfl, fun _ h => absurd h (Nat.not_lt_zero _)⟩
theorem PlaceAt.miss {b : Bool} {T P : ByteArray} {K : Nat} {r : Int} (h : PlaceAt b T P K r) (hk : oc T P K = false) : PlaceAt b T P (K + 1) r := by
  rcases h with ⟨e, h⟩ | ⟨i, hi, e, h1, h2⟩
  · exact .inl ⟨e, fun j hj => by
      by_cases e2 : j = K
      · subst e2; exact hk
      · exact h j (by omega)⟩
  · exact .inr ⟨i, by omega, e, h1, fun j hj hji => by
      by_cases e2 : j = K
      · subst e2; exact hk
      · exact h2 j (by omega) hji⟩
theorem PlaceAt.hitLast {T P : ByteArray} {K : Nat} (hk : oc T P K = true) : PlaceAt true T P (K + 1) K :=
  .inr ⟨K, by omega, rfl, hk, fun j hj hji => by simp at hji; omega⟩
theorem PlaceAt.hitFirst {T P : ByteArray} {K : Nat} (h : PlaceAt false T P K (-1)) (hk : oc T P K = true) : PlaceAt false T P (K + 1) K := by
  rcases h with ⟨_, h⟩ | ⟨i, _, e, _⟩
  · exact .inr ⟨K, by omega, rfl, hk, fun j hj hji => h j (by simpa using hji)⟩
  · omega
theorem PlaceAt.keepFirst {T P : ByteArray} {K : Nat} {r : Int} (h : PlaceAt false T P K r) (h0 : 0 ≤ r) (K' : Nat) (hK : K ≤ K') : PlaceAt false T P K' r := by
  rcases h with ⟨e, _⟩ | ⟨i, hi, e, h1, h2⟩
  · omega
  · exact .inr ⟨i, by omega, e, h1, fun j hj hji => h2 j (by simp at hji; omega) hji⟩
/-- how many places there are -/
def plc (T P : ByteArray) : Nat := T.size + 1 - P.size
theorem PlaceAt.lo {b : Bool} {T P : ByteArray} {K : Nat} {r : Int} (h : PlaceAt b T P K r) : -1 ≤ r ∧ r < (K : Int) := by
  rcases h with ⟨e, _⟩ | ⟨i, hi, e, _⟩ <;> omega
set_option maxRecDepth 100000 in
theorem zzIndex_any (T P : ByteArray) (hT : T.size ≤ 60) (hP : P.size ≤ 60) (w : World) :
    Calls Tryz.prog 59 #[.string T, .string P] w fun e w' => ∃ r : Int, e = .returned (.int .i64 r) ∧ PlaceAt false T P (plc T P) r ∧ w = w' := by
  have hPI : (P.size : Int) ≤ 60 := by omega
  have hTI : (T.size : Int) ≤ 60 := by omega
  go_enter Tryz.func59, Tryz.ntmps59
  go_wp2_with fail
  go_loop [5] (fun iv => ∃ k : Nat, iv = .int .i64 k ∧ k ≤ T.size + 1 ∧ Hid (PlaceAt false T P k (-1))) (fun iv => T.size + 1 - (intOf iv).toNat)
  case atStart => exact ⟨0, rfl, Nat.zero_le _, PlaceAt.zero _ _ _⟩
  case round =>
    obtain ⟨k, rfl, hk, HP⟩ := hrel
    by_cases hlt : k + P.size ≤ T.size
    · have h1 : (k : Int) + (P.size : Int) ≤ (T.size : Int) := by omega
      cases ho : oc T P k
      · have hb : ((T.extract k (k + P.size)).toList == P.toList) = false := (oc_list T P k).trans ho
        have HN := Lib.hid (HP.out.miss ho)
        clear ho
        go_wp2_with fail
        exact ⟨⟨k + 1, by go_num, by omega, HN.out⟩, by simp [intOf]; omega⟩
      · have hb : ((T.extract k (k + P.size)).toList == P.toList) = true := (oc_list T P k).trans ho
        have HN := Lib.hid ((HP.out.hitFirst ho).keepFirst (by omega) (plc T P) (by unfold plc; omega))
        clear ho
        go_wp2_with fail
        go_ret
        exact ⟨k, rfl, HN.out, rfl⟩
    · have h1 : ¬ ((k : Int) + (P.size : Int) ≤ (T.size : Int)) := by omega
      have HN : Hid (PlaceAt false T P (plc T P) (-1)) := Lib.hid (by
        rcases HP.out with ⟨e, h⟩ | ⟨i, _, e, _⟩
        · exact .inl ⟨rfl, fun j hj => h j (by unfold plc at hj; omega)⟩
        · omega)
      go_wp2_with fail
      go_ret
      exact ⟨-1, rfl, HN.out, rfl⟩
end Go.Proofs.YtcamjefacbaniaaGreatDoor
