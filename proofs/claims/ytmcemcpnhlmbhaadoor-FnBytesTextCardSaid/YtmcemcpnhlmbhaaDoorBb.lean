/- Laws of the bytes' literal: the buffer of a quoting call. -/
import Derived.Test.YtmcemcpnhlmbhaaDoorBa
import Derived.Test.YtmcemcpnhlmbhaaDoorEn
import Derived.Shelf.Strconv.Quoted
import Derived.Lib.AppendStr
import Derived.Test.YtmcemcpnhlmbhaaDoorRows
import Derived.WalkKit
import Derived.ProofKit
import Derived.Outline
import Derived.Handy
import Derived.WalkLawsBesides
import Derived.WalkSpells
import Derived.Deep.QuietTactic
import Derived.Deep.RegionWith
import Derived.BigQuiet
import Derived.Lib.Hide
import Derived.Laws.CopyOwn
import Derived.Lib.OthersKept
import Derived.Lib.Strings
import Derived.Deep.Upon
import Derived.Laws.BitsAllLaws
import Derived.Deep.OwnRows
import Derived.Laws.IdiomStrings
import Derived.Deep.RegionHeld3
import Derived.Laws.EntriesVeiled
import Derived.Laws.Externs
import Derived.RegionTactic
import Derived.BigRegion
namespace Go.Proofs.YtmcemcpnhlmbhaaDoor
open Go.ChangeShapes Go.WideShapes Go.ChangeAt Go.RowKit
set_option linter.unusedVariables false
/-! ### slices that read as lists of numbers -/
/-- bytes as cells -/
def by8 (l : List Nat) : List Value := l.map fun (d : Nat) => Value.int .u8 (d : Int)
/-- words as cells -/
def w64 (l : List Nat) : List Value := l.map fun (d : Nat) => Value.int .u64 (d : Int)
theorem by8_len (l : List Nat) : (by8 l).length = l.length := by simp [by8]
theorem w64_len (l : List Nat) : (w64 l).length = l.length := by simp [w64]
theorem by8_get (l : List Nat) (k : Nat) (h : k < l.length) : (by8 l)[k]? = some (.int .u8 ((l[k]'h : Nat) : Int)) := by simp [by8, h]
theorem w64_get (l : List Nat) (k : Nat) (h : k < l.length) : (w64 l)[k]? = some (.int .u64 ((l[k]'h : Nat) : Int)) := by simp [w64, h]
theorem by8_drop (l : List Nat) (k : Nat) : by8 (l.drop k) = (by8 l).drop k := by simp [by8, List.map_drop]
theorem w64_drop (l : List Nat) (k : Nat) : w64 (l.drop k) = (w64 l).drop k := by simp [w64, List.map_drop]
theorem by8_ne {l : List Nat} (h : 0 < l.length) : by8 l ≠ [] := fun e => by
  have := congrArg List.length e
  rw [by8_len, List.length_nil] at this
  omega
theorem w64_ne {l : List Nat} (h : 0 < l.length) : w64 l ≠ [] := fun e => by
  have := congrArg List.length e
  rw [w64_len, List.length_nil] at this
  omega
theorem by8_one (l : List Nat) : ∀ u ∈ by8 l, u.oneCell' = true := by
  intro u hu; simp only [by8, List.mem_map] at hu; obtain ⟨d, _, rfl⟩ := hu; rfl
theorem w64_one (l : List Nat) : ∀ u ∈ w64 l, u.oneCell' = true := by
  intro u hu; simp only [w64, List.mem_map] at hu; obtain ⟨d, _, rfl⟩ := hu; rfl
/-- the slice with address A, as many elements as xs has and capacity c reads as xs -/
structure Sl (w : World) (A : Option Addr) (c : Nat) (xs : List Value) : Prop where
  cap : xs.length ≤ c
  max : c ≤ maxLen
  at_ : xs ≠ [] → ∃ b off, A = some ⟨b, off, none⟩ ∧ ∀ (j : Nat) (u : Value), xs[j]? = some u → w.cell? ⟨b, off + j, none⟩ = some u
section
variable {w w' : World} {A : Option Addr} {c : Nat} {xs : List Value}
theorem Sl.nil (w : World) : Sl w none 0 [] := ⟨Nat.le_refl _, Nat.zero_le _, fun h => absurd rfl h⟩
theorem Sl.empty (w : World) (A : Option Addr) (c : Nat) (hc : c ≤ maxLen) : Sl w A c [] := ⟨Nat.zero_le _, hc, fun h => absurd rfl h⟩
theorem Sl.below (h : Sl w A c xs) (hb : Below w.heap.size w w') : Sl w' A c xs := by
  refine ⟨h.cap, h.max, fun hx => ?_⟩
  obtain ⟨b, off, e, hc⟩ := h.at_ hx
  refine ⟨b, off, e, fun j u hu => ?_⟩
  have h1 := hc j u hu
  exact (hb.cell (p := ⟨b, off + j, none⟩) (block_lt_of_cell h1)).trans h1
/-- only the block g has turned, and that is none of its -/
theorem Sl.far (h : Sl w A c xs) {g : Nat} (hg : ∀ b off, A = some ⟨b, off, none⟩ → b ≠ g) (hk : ∀ k, k < w.heap.size → k ≠ g → w'.heap[k]? = w.heap[k]?) : Sl w' A c xs := by
  refine ⟨h.cap, h.max, fun hx => ?_⟩
  obtain ⟨b, off, e, hc⟩ := h.at_ hx
  refine ⟨b, off, e, fun j u hu => ?_⟩
  have h1 := hc j u hu
  exact (World.cell?_of_block (w := w) (hk b (block_lt_of_cell h1) (hg b off e))).trans h1
theorem Sl.drop (h : Sl w A c xs) (k : Nat) (hk : k ≤ xs.length) : Sl w (if c = k then A else A.map (·.add k)) (c - k) (xs.drop k) := by
  have h1 := h.cap
  have h2 := h.max
  refine ⟨by simp; omega, by omega, fun hx => ?_⟩
  have hlt : k < xs.length := by
    rcases Nat.lt_or_ge k xs.length with h3 | h3
    · exact h3
    · exact absurd (List.drop_eq_nil_of_le h3) hx
  have hne : xs ≠ [] := fun e => by subst e; simp at hlt
  obtain ⟨b, off, e, hc⟩ := h.at_ hne
  rw [if_neg (by omega), e]
  refine ⟨b, off + k, by by_cases h0 : k = 0 <;> simp [Addr.add, h0], fun j u hu => ?_⟩
  rw [List.getElem?_drop] at hu
  rw [Nat.add_assoc]
  exact hc _ _ hu
theorem Sl.take (h : Sl w A c xs) (k : Nat) : Sl w A c (xs.take k) := by
  refine ⟨by have := h.cap; simp; omega, h.max, fun hx => ?_⟩
  have hne : xs ≠ [] := fun e => by subst e; simp at hx
  obtain ⟨b, off, e, hc⟩ := h.at_ hne
  refine ⟨b, off, e, fun j u hu => hc j u ?_⟩
  rw [List.getElem?_take] at hu
  split at hu
  · exact hu
  · cases hu
theorem Sl.of_own {B e n cc : Nat} (h : w.ownsRow B e 1 (.slice A n cc) n xs) : Sl w A cc xs ∧ n = xs.length := by
  have hl : n = xs.length := by have := h.1; omega
  refine ⟨?_, hl⟩
  rcases h.2 with ⟨h1, h2⟩ | ⟨g, cap, cur, h1, h2, h3, h4, h5, h6, h7⟩
  · injection h1 with e1 e2 e3
    subst e1 e3
    have : xs = [] := List.eq_nil_of_length_eq_zero (by omega)
    subst this
    exact Sl.nil w
  · injection h1 with e1 e2 e3
    subst e1 e3
    refine ⟨by omega, h5, fun _ => ⟨g, 0, rfl, fun j u hu => ?_⟩⟩
    have := h.cells (g := g) rfl j u hu
    have e : (⟨g, 0, none⟩ : Addr).add j = ⟨g, 0 + j, none⟩ := by by_cases h0 : j = 0 <;> simp [Addr.add, h0]
    rwa [e] at this
end
theorem own_far {w : World} {B e n cc : Nat} {A : Option Addr} {xs : List Value} (h : w.ownsRow B e 1 (.slice A n cc) n xs) {g : Nat} (hg : g < B) : ∀ b off, A = some ⟨b, off, none⟩ → b ≠ g := by
  rintro b off rfl
  have := (h.lt b rfl).1
  omega
/-- the block g is the cells cs, none of them frozen -/
def Blk (w : World) (g : Nat) (t : TypeId) (cs : Array Value) : Prop := w.heap[g]? = some (.cells cs t (0, 0))
theorem Blk.lt {w : World} {g : Nat} {t : TypeId} {cs : Array Value} (h : Blk w g t cs) : g < w.heap.size := (Array.getElem?_eq_some_iff.1 h).1
theorem Blk.below {w w' : World} {g : Nat} {t : TypeId} {cs : Array Value} (h : Blk w g t cs) (hb : Below w.heap.size w w') : Blk w' g t cs := (hb.block g h.lt).trans h
theorem Blk.new (w : World) (t : TypeId) (cs : Array Value) : Blk (w.alloc (.cells cs t)) w.heap.size t cs := heap_alloc_new w _
theorem Blk.cell {w : World} {g : Nat} {t : TypeId} {cs : Array Value} (h : Blk w g t cs) (i : Nat) : w.cell? ⟨g, i, none⟩ = cs[i]? := cell_of_row w g i cs t (0, 0) h
theorem Blk.frozen {w : World} {g : Nat} {t : TypeId} {cs : Array Value} (h : Blk w g t cs) (i : Nat) : w.frozen? ⟨g, i, none⟩ = false := frozen_of_row w g i cs t h
/-- a struct that is handed back out of its own block -/
theorem bodyPost_blk {P : Program} {fn : Func} {R : Ending → World → Prop} {a : Act} {w : World} {p : Tmp} {ty : TypeId} {g : Nat} {t : TypeId} {cs : Array Value} {fr : Nat × Nat} {d : TypeDesc} (h : fn.results = #[.cell p ty])
    (hp : a.tmps.getD p undef = .pointer (some ⟨g, 0, none⟩)) (hg : w.heap[g]? = some (.cells cs t fr)) (hu : P.underlying ty = some d) (hd : (match d with | .struct _ | .array _ _ => true | _ => false) = true) (hi : (P.info? ty).map (·.size) = some cs.size)
    (hdf : a.defers = []) (hR : R (.returned (.agg cs)) w) : bodyPost P fn R .ret a w :=
  bodyPost_ret (results_cell_row h _ w g t cs fr d hp hg hu hd hi) hdf hR
/-- what a contract keeps of the world: what lay there is as it was -/
abbrev Kept (w w' : World) : Prop := Below w.heap.size w w'
theorem Kept.trans {a b c : World} (h : Kept a b) (k : Kept b c) : Kept a c := Below.trans h (k.mono h.size)
theorem info8 : (Tryd.prog.info? 5).map (fun i => (i.zero, i.size, i.bytes)) = some (some (.int .u8 0), 1, 1) := by kernel_rfl
section
variable {P : Program}
/-- append onto a row of the call's own, whatever the source's address -/
theorem wp_append_sl {w : World} {o : Oper} {a : Act} {K : Act → World → Prop} {Q : Exit → Act → World → Prop} (s x : Operand) (t : TypeId)
    (ho : o.op = .call { callee := .builtin .append, args := #[s, x], argTypes := #[t, t] })
    (base : Nat) (e : TypeId) (i : TypeInfo) (z : Value) (bytes : Nat) (ht : P.underlying t = some (.slice e)) (hi : P.info? e = some i) (hz : i.zero = some z)
    (hsize : i.size = 1) (hby : i.bytes = bytes) (hzs : z.cells.size = 1)
    (v : Value) (n : Nat) (xs : List Value) (hs : a.eval s = v) (hown : w.ownsRow base e 1 v n xs)
    (A : Option Addr) (m c : Nat) (news : List Value) (hx : a.eval x = .slice A m c) (hm : news.length = m) (hsl : Sl w A c news) (h1 : ∀ u ∈ news, u.oneCell' = true)
    (h63 : n + m ≤ maxLen) (hbytes : (n + m) * bytes ≤ 140737488355328) (hbase : base ≤ w.heap.size)
    (h : ∀ v' w', w'.ownsRow base e 1 v' (n + m) (xs ++ news) → w.grownBy w' v.ownBlock → K (a.put o.dst v') w') : o.wp P a w K Q := by
  rcases A with _ | ad
  · have hnil : news = [] := by
      rcases Classical.em (news = []) with h0 | h0
      · exact h0
      · obtain ⟨b, off, e1, _⟩ := hsl.at_ h0; cases e1
    subst hnil
    simp only [List.length_nil] at hm
    subst hm
    obtain ⟨B, L, C, hv, hLC⟩ : ∃ B L C, v = .slice B L C ∧ L ≤ C := by
      rcases hown.2 with ⟨e1, _⟩ | ⟨g, cap, cur, e1, _, _, e2, _⟩
      · exact ⟨_, _, _, e1, Nat.le_refl _⟩
      · exact ⟨_, _, _, e1, e2⟩
    have hr := run_append_nothing (P := P) w t t o.type e i ht hi B L C hLC (.slice none 0 c) (Src.ofNil w ht c)
    rw [← hv] at hr
    unfold Oper.wp execOp
    simp only [ho, resolve, invoke, builtin, Sem.run_bind, Sem.run_pure, Result.andThen_ok, List.map_toArray, List.map_cons, List.map_nil, hs, hx, hr]
    exact h v w (by simpa using hown) (World.grownBy.refl w _)
  · refine wp_append_own w s x t ho base e i z 1 bytes ht hi hz hsize hby hzs (by omega) v n xs hs hown ad m c news hx (by omega) ?_ h1 h63 hbytes hbase fun v' w' h2 h3 _ => h v' w' h2 h3
    intro j u hu
    have hne : news ≠ [] := fun e1 => by subst e1; simp at hu
    obtain ⟨b, off, e1, hc⟩ := hsl.at_ hne
    injection e1 with e1
    subst e1
    have e2 : (⟨b, off, none⟩ : Addr).add j = ⟨b, off + j, none⟩ := by by_cases h0 : j = 0 <;> simp [Addr.add, h0]
    rw [e2]
    exact hc j u hu
theorem wpList_append_sl {w : World} {ops : Array Oper} {rest : List Oper} {o : Oper} {a : Act} {Q : Exit → Act → World → Prop} (hgd : o.guard = none) (s x : Operand) (t : TypeId)
    (ho : o.op = .call { callee := .builtin .append, args := #[s, x], argTypes := #[t, t] })
    (base : Nat) (e : TypeId) (i : TypeInfo) (z : Value) (bytes : Nat) (ht : P.underlying t = some (.slice e)) (hi : P.info? e = some i) (hz : i.zero = some z)
    (hsize : i.size = 1) (hby : i.bytes = bytes) (hzs : z.cells.size = 1)
    (v : Value) (n : Nat) (xs : List Value) (hs : a.eval s = v) (hown : w.ownsRow base e 1 v n xs)
    (A : Option Addr) (m c : Nat) (news : List Value) (hx : a.eval x = .slice A m c) (hm : news.length = m) (hsl : Sl w A c news) (h1 : ∀ u ∈ news, u.oneCell' = true)
    (h63 : n + m ≤ maxLen) (hbytes : (n + m) * bytes ≤ 140737488355328) (hbase : base ≤ w.heap.size)
    (h : ∀ v' w', w'.ownsRow base e 1 v' (n + m) (xs ++ news) → w.grownBy w' v.ownBlock → wpList P ops Q rest (a.put o.dst v') w') : wpList P ops Q (o :: rest) a w :=
  wpList_plain hgd fun _ hK => wp_append_sl s x t ho base e i z bytes ht hi hz hsize hby hzs v n xs hs hown A m c news hx hm hsl h1 h63 hbytes hbase fun v' w' h2 h3 => hK _ _ (h v' w' h2 h3)
theorem step_append_sl {w : World} {ops : Array Oper} {o : Oper} {a : Act} {K : Act → World → Prop} {Q : Exit → Act → World → Prop} {E : Prop} (hgd : o.guard = none) (s x : Operand) (t : TypeId)
    (ho : o.op = .call { callee := .builtin .append, args := #[s, x], argTypes := #[t, t] })
    (base : Nat) (e : TypeId) (i : TypeInfo) (z : Value) (bytes : Nat) (ht : P.underlying t = some (.slice e)) (hi : P.info? e = some i) (hz : i.zero = some z)
    (hsize : i.size = 1) (hby : i.bytes = bytes) (hzs : z.cells.size = 1)
    (v : Value) (n : Nat) (xs : List Value) (hs : a.eval s = v) (hown : w.ownsRow base e 1 v n xs)
    (A : Option Addr) (m c : Nat) (news : List Value) (hx : a.eval x = .slice A m c) (hm : news.length = m) (hsl : Sl w A c news) (h1 : ∀ u ∈ news, u.oneCell' = true)
    (h63 : n + m ≤ maxLen) (hbytes : (n + m) * bytes ≤ 140737488355328) (hbase : base ≤ w.heap.size)
    (h : ∀ v' w', w'.ownsRow base e 1 v' (n + m) (xs ++ news) → w.grownBy w' v.ownBlock → K (a.put o.dst v') w') :
    if Region.wanted o (yielded ops a.tmps) = true then Oper.wp P o a w K Q else E := by
  have hw : Region.wanted o (yielded ops a.tmps) = true := by simp [Region.wanted, hgd]
  rw [if_pos hw]
  exact wp_append_sl s x t ho base e i z bytes ht hi hz hsize hby hzs v n xs hs hown A m c news hx hm hsl h1 h63 hbytes hbase h
end
theorem heap_setCells (g : Nat) : ∀ (vs : List Value) (o : Nat) (w : World) (i : Nat), i ≠ g → (w.setCells g o vs).heap[i]? = w.heap[i]?
  | [], _, _, _, _ => rfl
  | v :: r, o, w, i, h => by
    rw [World.setCells, heap_setCells g r (o + 1) _ i h]
    exact heap_setCell_other w ⟨g, o, none⟩ i v h
theorem size_setCells (g : Nat) : ∀ (vs : List Value) (o : Nat) (w : World), (w.setCells g o vs).heap.size = w.heap.size
  | [], _, _ => rfl
  | v :: r, o, w => by
    rw [World.setCells, size_setCells g r (o + 1) _]
    simp
theorem rest_setCells (g : Nat) : ∀ (vs : List Value) (o : Nat) (w : World), (w.setCells g o vs).os = w.os ∧ (w.setCells g o vs).tape = w.tape ∧ (w.setCells g o vs).output = w.output
  | [], _, _ => ⟨rfl, rfl, rfl⟩
  | v :: r, o, w => by
    rw [World.setCells]
    obtain ⟨h1, h2, h3⟩ := rest_setCells g r (o + 1) (w.setCell ⟨g, o, none⟩ v)
    exact ⟨h1, h2, h3⟩
theorem grown_setCells (w : World) (g o : Nat) (vs : List Value) : w.grownBy (w.setCells g o vs) (some g) := by
  obtain ⟨h1, h2, h3⟩ := rest_setCells g vs o w
  exact ⟨h1, h2, h3, by rw [size_setCells]; exact Nat.le_refl _, fun i _ hi => heap_setCells g vs o w i (fun e => hi (by rw [e]))⟩
theorem kept_setCells {w0 : World} {g : Nat} (hg : w0.heap.size ≤ g) : ∀ (vs : List Value) (o : Nat) (w : World), Kept w0 w → Kept w0 (w.setCells g o vs)
  | [], _, _, h => h
  | v :: r, o, w, h => by
    rw [World.setCells]
    exact kept_setCells hg r (o + 1) _ (h.setCell (p := ⟨g, o, none⟩) hg v)
theorem Blk.set {w : World} {g : Nat} {t : TypeId} {cs : Array Value} (h : Blk w g t cs) (i : Nat) (u : Value) : Blk (w.setCell ⟨g, i, none⟩ u) g t (cs.setIfInBounds i u) := heap_setCell_same w g i cs t u h
open Go.Lib
/-- Quote's state: the buffer holds these bytes, in blocks behind the four bytes for a rune; what was there is as it was -/
structure QB (w0 : World) (v : Value) (l : List Int) (w : World) : Prop where
  own : Lib.OwnBuf (w0.heap.size + 1) 5 v l.length (Lib.intCells l) w w
  tmp : ∃ x0 x1 x2 x3 : Int, Blk w w0.heap.size 35 #[.int .u8 x0, .int .u8 x1, .int .u8 x2, .int .u8 x3]
  kept : Kept w0 w
theorem QB.lt {w0 w : World} {v : Value} {l : List Int} (h : QB w0 v l w) : w0.heap.size < w.heap.size := by
  obtain ⟨_, _, _, _, hb⟩ := h.tmp
  exact hb.lt
theorem QB.step {w0 w w' : World} {v v' : Value} {l l' : List Int} {n' : Nat} {xs' : List Value} (h : QB w0 v l w) (hb : Lib.OwnBuf (w0.heap.size + 1) 5 v' n' xs' w w') (hn : n' = l'.length) (hx : xs' = Lib.intCells l') : QB w0 v' l' w' := by
  subst hn hx
  obtain ⟨x0, x1, x2, x3, ht⟩ := h.tmp
  exact ⟨⟨hb.1, Below.refl _ _, hb.2.2⟩, ⟨x0, x1, x2, x3, (hb.2.1.block _ (Nat.lt_succ_self _)).trans ht⟩, Below.trans h.kept (hb.2.1.mono (Nat.le_succ _))⟩
theorem QB.below {w0 w w' : World} {v : Value} {l : List Int} (h : QB w0 v l w) (hk : Kept w w') : QB w0 v l w' := by
  obtain ⟨x0, x1, x2, x3, ht⟩ := h.tmp
  have hb := buf_below h.own hk
  exact ⟨⟨hb.1, Below.refl _ _, hb.2.2⟩, ⟨x0, x1, x2, x3, ht.below hk⟩, Kept.trans h.kept hk⟩
theorem kept_drewN (w : World) (q : Nat) : Kept w (w.drewN q) := ⟨rfl, rfl, rfl, Nat.le_refl _, fun _ _ => rfl⟩
/-- a rune's bytes go into the four bytes -/
theorem QB.enc {w0 w : World} {v : Value} {l : List Int} (h : QB w0 v l w) (ys : List Int) (hy : ys.length ≤ 4) : QB w0 v l (w.setCells w0.heap.size 0 (Lib.intCells ys)) ∧ ∃ x0 x1 x2 x3 : Int, Blk (w.setCells w0.heap.size 0 (Lib.intCells ys)) w0.heap.size 35 #[.int .u8 x0, .int .u8 x1, .int .u8 x2, .int .u8 x3] ∧ ys = [x0, x1, x2, x3].take ys.length := by
  obtain ⟨x0, x1, x2, x3, ht⟩ := h.tmp
  have hg : w.grownBy (w.setCells w0.heap.size 0 (Lib.intCells ys)) (some w0.heap.size) := grown_setCells _ _ _ _
  have hown : Lib.OwnBuf (w0.heap.size + 1) 5 v l.length (Lib.intCells l) (w.setCells w0.heap.size 0 (Lib.intCells ys)) (w.setCells w0.heap.size 0 (Lib.intCells ys)) := by
    refine ⟨h.own.1.kept hg ?_, Below.refl _ _, Nat.le_trans h.own.2.2 hg.size⟩
    cases hv : v.ownBlock with
    | none => exact .inl rfl
    | some k =>
      refine .inr (fun e => ?_)
      have := (h.own.1.lt k hv).1
      injection e with e
      omega
  have hkept : Kept w0 (w.setCells w0.heap.size 0 (Lib.intCells ys)) := kept_setCells (Nat.le_refl _) _ _ _ h.kept
  have hb : ∃ z0 z1 z2 z3 : Int, Blk (w.setCells w0.heap.size 0 (Lib.intCells ys)) w0.heap.size 35 #[.int .u8 z0, .int .u8 z1, .int .u8 z2, .int .u8 z3] ∧ ys = [z0, z1, z2, z3].take ys.length := by
    rcases ys with _ | ⟨a, _ | ⟨b, _ | ⟨c, _ | ⟨d, _ | ⟨f, ys⟩⟩⟩⟩⟩
    · exact ⟨x0, x1, x2, x3, ht, rfl⟩
    · refine ⟨a, x1, x2, x3, ?_, rfl⟩
      simp only [Lib.intCells, List.map_cons, List.map_nil, World.setCells]
      exact ht.set 0 _
    · refine ⟨a, b, x2, x3, ?_, rfl⟩
      simp only [Lib.intCells, List.map_cons, List.map_nil, World.setCells]
      exact (ht.set 0 _).set 1 _
    · refine ⟨a, b, c, x3, ?_, rfl⟩
      simp only [Lib.intCells, List.map_cons, List.map_nil, World.setCells]
      exact ((ht.set 0 _).set 1 _).set 2 _
    · refine ⟨a, b, c, d, ?_, rfl⟩
      simp only [Lib.intCells, List.map_cons, List.map_nil, World.setCells]
      exact (((ht.set 0 _).set 1 _).set 2 _).set 3 _
    · exfalso
      simp only [List.length_cons] at hy
      omega
  obtain ⟨z0, z1, z2, z3, h1, h2⟩ := hb
  exact ⟨⟨hown, ⟨z0, z1, z2, z3, h1⟩, hkept⟩, z0, z1, z2, z3, h1, h2⟩
/-- 'buf = append(buf, tmp[:n]...)', tmp a row of bytes that stands elsewhere -/
theorem wpList_append_part {P : Program} {ops : Array Oper} {rest : List Oper} {o : Oper} {a : Act} {w : World} {Q : Exit → Act → World → Prop} (hgd : o.guard = none) (s x : Operand) (t : TypeId)
    (ho : o.op = .call { callee := .builtin .append, args := #[s, x], argTypes := #[t, t] })
    (B : Nat) (e : TypeId) (i : TypeInfo) (ht : P.underlying t = some (.slice e)) (hi : P.info? e = some i) (hz : i.zero = some (.int .u8 0)) (hsize : i.size = 1) (hby : i.bytes = 1)
    (v : Value) (n : Nat) (xs : List Value) (hs : a.eval s = v) (W0 : World) (hb : Lib.OwnBuf B e v n xs W0 w)
    (g m c : Nat) (ys : List Int) (hx : a.eval x = .slice (some ⟨g, 0, none⟩) m c) (hm : ys.length = m) (hc : ∀ j u, (Lib.intCells ys)[j]? = some u → w.cell? ⟨g, j, none⟩ = some u) (hlen : n + m ≤ 140737488355328)
    (h : ∀ v' w', Lib.OwnBuf B e v' (n + m) (xs ++ Lib.intCells ys) W0 w' → wpList P ops Q rest (a.put o.dst v') w') : wpList P ops Q (o :: rest) a w := by
  refine wpList_append_ownF _ hgd s x t ho B e i (.int .u8 0) 1 1 ht hi hz hsize hby rfl (by decide) v n xs hs hb.1 ⟨g, 0, none⟩ m c (Lib.intCells ys) hx (by simp [Lib.intCells, hm]) ?_ ?_ (by unfold maxLen; omega) (by omega) hb.2.2 ?_
  · intro j u hj
    have := hc j u hj
    have e : (⟨g, 0, none⟩ : Addr).add j = ⟨g, j, none⟩ := by unfold Addr.add; split <;> simp_all
    rw [e]; exact this
  · intro u hu
    simp only [Lib.intCells, List.mem_map] at hu
    obtain ⟨y, _, rfl⟩ := hu
    rfl
  · intro v' w' ho' hg _
    exact h v' w' (hb.grown ho' hg)
/-- the buffer at the beginning: made behind the four bytes -/
theorem QB.start {w0 w1 : World} {v : Value} (hown : w1.ownsRow (w0.heap.size + 1) 5 1 v 0 []) (hg : (w0.alloc (.cells #[.int .u8 0, .int .u8 0, .int .u8 0, .int .u8 0] 35)).grownBy w1 none) : QB w0 v [] w1 := by
  have hkw : Kept w0 w1 := Below.trans ((Below.refl _ w0).alloc (Nat.le_refl _) _) ((Below.refl _ _).grown hg (by simp) (fun k hk => by cases hk))
  refine ⟨⟨World.ownsRowF_of hown, Below.refl _ _, ?_⟩, ⟨0, 0, 0, 0, (hg.block _ (by simp) (by simp)).trans (heap_alloc_new w0 _)⟩, hkw⟩
  have := hg.size
  simpa using this
theorem decode_ascii (s : ByteArray) (h0 : 0 < s.size) (h : (s[0]'h0).toNat < 128) : Utf8.decode s 0 = ((s[0]'h0).toNat, 1) := by
  rw [decode_at, get_bang s 0 h0]
  unfold decodeN
  rw [if_pos h]
theorem wrap_u8_small {x : Int} (h0 : 0 ≤ x) (h1 : x < 256) : IntKind.u8.wrap x = x := by
  rw [IntKind.wrap_u8]; omega
theorem wrap_i32_small {x : Int} (h0 : 0 ≤ x) (h1 : x < 2147483648) : IntKind.i32.wrap x = x := by
  simp only [IntKind.wrap, IntKind.bits, IntKind.signed]
  have e : x % 2 ^ 32 = x := Int.emod_eq_of_lt h0 (by omega)
  simp only [e]
  simp
  omega
theorem runeCells_eq (r : Int) : Lib.runeCells r = Lib.intCells (Lib.encodeRuneZ r) := rfl
/-- utf8.EncodeRune into the four bytes -/
theorem QB.encode {w0 w : World} {v : Value} {l : List Int} (h : QB w0 v l w) (r : Int) (hlo : -2147483648 ≤ r) (hhi : r ≤ 2147483647) :
    Calls Tryd.prog 15 #[.slice (some ⟨w0.heap.size, 0, none⟩) 4 4, .int .i32 r] w fun e w' => e = .returned (.int .i64 (((Lib.encodeRuneZ r).length : Nat) : Int)) ∧ QB w0 v l w' ∧ ∀ j u, (Lib.intCells (Lib.encodeRuneZ r))[j]? = some u → w'.cell? ⟨w0.heap.size, j, none⟩ = some u := by
  have h4 := Lib.encodeRuneZ_length_le r
  have hl : (Lib.runeCells r).length = (Lib.encodeRuneZ r).length := by simp [Lib.runeCells]
  obtain ⟨x0, x1, x2, x3, ht⟩ := h.tmp
  have hcell : ∀ j, j < 4 → (w.cell? ⟨w0.heap.size, 0 + j, none⟩).isSome = true ∧ w.frozen? ⟨w0.heap.size, 0 + j, none⟩ = false := by
    intro j hj
    rw [Nat.zero_add, Blk.cell ht]
    refine ⟨?_, ?_⟩
    · rcases j with _ | _ | _ | _ | j
      · rfl
      · rfl
      · rfl
      · rfl
      · omega
    · simp only [World.frozen?, show w.heap[w0.heap.size]? = some _ from ht]
      simp
  refine (Tryd.encodeRune w0.heap.size 0 4 4 r hlo hhi w (by omega) (fun j hj => (hcell j (by omega)).1) (fun j hj => (hcell j (by omega)).2)).mono ?_
  rintro e w' ⟨rfl, rfl⟩
  obtain ⟨hq, z0, z1, z2, z3, hb, hy⟩ := h.enc (Lib.encodeRuneZ r) h4
  refine ⟨by rw [hl], hq, ?_⟩
  intro j u hj
  have hb' : (w.setCells w0.heap.size 0 (Lib.runeCells r)).cell? ⟨w0.heap.size, j, none⟩ = _ := Blk.cell hb j
  rw [hb']
  rw [hy] at hj
  simp only [Lib.intCells, List.map_take] at hj
  rw [List.getElem?_take] at hj
  split at hj
  · rcases j with _ | _ | _ | _ | j
    · exact hj
    · exact hj
    · exact hj
    · exact hj
    · simp at hj
  · cases hj
theorem decodeN_wide (n b0 b1 b2 b3 : Nat) (h0 : 128 ≤ b0) (hg : ¬ ((decodeN n b0 b1 b2 b3).2 = 1 ∧ (decodeN n b0 b1 b2 b3).1 = 65533)) : (decodeN n b0 b1 b2 b3).2 ≠ 1 := by
  unfold decodeN at hg ⊢
  rw [if_neg (by omega)] at hg ⊢
  repeat' split at hg
  all_goals simp_all
theorem decode_wide (s : ByteArray) (h0 : 0 < s.size) (h : ¬ (s[0]'h0).toNat < 128) (hg : ¬ ((Utf8.decode s 0).2 = 1 ∧ (Utf8.decode s 0).1 = 65533)) : (Utf8.decode s 0).2 ≠ 1 := by
  rw [decode_at] at hg ⊢
  exact decodeN_wide _ _ _ _ _ (by rw [get_bang s 0 h0]; omega) hg
theorem dig_at (r : Int) (R q : Nat) (Q : Int) (hr : r = (R : Int)) (hQ : Q = (q : Int)) (h : r ≤ 2147483647) : ∃ d : Nat, d < 16 ∧ (d : Int) < 16 ∧ Hid (d = R / q % 16) ∧ bits .and .i32 (r / Q) 15 = (d : Int) :=
  ⟨R / q % 16, by omega, by omega, rfl, by rw [hQ]; exact Lib.and15_shift r R hr (by omega) q⟩
theorem dig_low (r : Int) (R : Nat) (hr : r = (R : Int)) (h : r ≤ 2147483647) : ∃ d : Nat, d < 16 ∧ (d : Int) < 16 ∧ Hid (d = R / 1 % 16) ∧ bits .and .i32 r 15 = (d : Int) :=
  ⟨R / 1 % 16, by omega, by omega, rfl, by have := Lib.and15_shift r R hr (by omega) 1; simpa using this⟩
end Go.Proofs.YtmcemcpnhlmbhaaDoor
