/- The ordinals of the elements of a text: what each function hands back. -/
import Derived.Test.YtkodcbddlgadaaaRows
import Derived.WalkKit
import Derived.ProofKit
import Derived.Outline
import Derived.Handy
import Derived.WalkLawsBesides
import Derived.WalkSpells
import Derived.Deep.QuietTactic
import Derived.Deep.RegionWith
import Derived.BigQuiet
import Derived.Lib.Hide
import Derived.Laws.CopyOwn
import Derived.Lib.OthersKept
import Derived.Lib.Strings
import Derived.Deep.Upon
import Derived.Laws.BitsAllLaws
import Derived.Deep.OwnRows
namespace Go.Proofs.Ytkodcbddlgadaaa
open Go.ChangeShapes Go.WideShapes Go.ChangeAt Go.RowKit
set_option linter.unusedVariables false
/-! ### slices that read as lists of numbers -/
/-- bytes as cells -/
def by8 (l : List Nat) : List Value := l.map fun (d : Nat) => Value.int .u8 (d : Int)
/-- words as cells -/
def w64 (l : List Nat) : List Value := l.map fun (d : Nat) => Value.int .u64 (d : Int)
theorem by8_len (l : List Nat) : (by8 l).length = l.length := by simp [by8]
theorem w64_len (l : List Nat) : (w64 l).length = l.length := by simp [w64]
theorem by8_get (l : List Nat) (k : Nat) (h : k < l.length) : (by8 l)[k]? = some (.int .u8 ((l[k]'h : Nat) : Int)) := by simp [by8, h]
theorem w64_get (l : List Nat) (k : Nat) (h : k < l.length) : (w64 l)[k]? = some (.int .u64 ((l[k]'h : Nat) : Int)) := by simp [w64, h]
theorem by8_drop (l : List Nat) (k : Nat) : by8 (l.drop k) = (by8 l).drop k := by simp [by8, List.map_drop]
theorem w64_drop (l : List Nat) (k : Nat) : w64 (l.drop k) = (w64 l).drop k := by simp [w64, List.map_drop]
theorem by8_ne {l : List Nat} (h : 0 < l.length) : by8 l ≠ [] := fun e => by
  have := congrArg List.length e
  rw [by8_len, List.length_nil] at this
  omega
theorem w64_ne {l : List Nat} (h : 0 < l.length) : w64 l ≠ [] := fun e => by
  have := congrArg List.length e
  rw [w64_len, List.length_nil] at this
  omega
theorem by8_one (l : List Nat) : ∀ u ∈ by8 l, u.oneCell' = true := by
  intro u hu; simp only [by8, List.mem_map] at hu; obtain ⟨d, _, rfl⟩ := hu; rfl
theorem w64_one (l : List Nat) : ∀ u ∈ w64 l, u.oneCell' = true := by
  intro u hu; simp only [w64, List.mem_map] at hu; obtain ⟨d, _, rfl⟩ := hu; rfl
/-- the slice with address A, as many elements as xs has and capacity c reads as xs -/
structure Sl (w : World) (A : Option Addr) (c : Nat) (xs : List Value) : Prop where
  cap : xs.length ≤ c
  max : c ≤ maxLen
  at_ : xs ≠ [] → ∃ b off, A = some ⟨b, off, none⟩ ∧ ∀ (j : Nat) (u : Value), xs[j]? = some u → w.cell? ⟨b, off + j, none⟩ = some u
section
variable {w w' : World} {A : Option Addr} {c : Nat} {xs : List Value}
theorem Sl.nil (w : World) : Sl w none 0 [] := ⟨Nat.le_refl _, Nat.zero_le _, fun h => absurd rfl h⟩
theorem Sl.empty (w : World) (A : Option Addr) (c : Nat) (hc : c ≤ maxLen) : Sl w A c [] := ⟨Nat.zero_le _, hc, fun h => absurd rfl h⟩
theorem Sl.below (h : Sl w A c xs) (hb : Below w.heap.size w w') : Sl w' A c xs := by
  refine ⟨h.cap, h.max, fun hx => ?_⟩
  obtain ⟨b, off, e, hc⟩ := h.at_ hx
  refine ⟨b, off, e, fun j u hu => ?_⟩
  have h1 := hc j u hu
  exact (hb.cell (p := ⟨b, off + j, none⟩) (block_lt_of_cell h1)).trans h1
/-- only the block g has turned, and that is none of its -/
theorem Sl.far (h : Sl w A c xs) {g : Nat} (hg : ∀ b off, A = some ⟨b, off, none⟩ → b ≠ g) (hk : ∀ k, k < w.heap.size → k ≠ g → w'.heap[k]? = w.heap[k]?) : Sl w' A c xs := by
  refine ⟨h.cap, h.max, fun hx => ?_⟩
  obtain ⟨b, off, e, hc⟩ := h.at_ hx
  refine ⟨b, off, e, fun j u hu => ?_⟩
  have h1 := hc j u hu
  exact (World.cell?_of_block (w := w) (hk b (block_lt_of_cell h1) (hg b off e))).trans h1
theorem Sl.drop (h : Sl w A c xs) (k : Nat) (hk : k ≤ xs.length) : Sl w (if c = k then A else A.map (·.add k)) (c - k) (xs.drop k) := by
  have h1 := h.cap
  have h2 := h.max
  refine ⟨by simp; omega, by omega, fun hx => ?_⟩
  have hlt : k < xs.length := by
    rcases Nat.lt_or_ge k xs.length with h3 | h3
    · exact h3
    · exact absurd (List.drop_eq_nil_of_le h3) hx
  have hne : xs ≠ [] := fun e => by subst e; simp at hlt
  obtain ⟨b, off, e, hc⟩ := h.at_ hne
  rw [if_neg (by omega), e]
  refine ⟨b, off + k, by by_cases h0 : k = 0 <;> simp [Addr.add, h0], fun j u hu => ?_⟩
  rw [List.getElem?_drop] at hu
  rw [Nat.add_assoc]
  exact hc _ _ hu
theorem Sl.take (h : Sl w A c xs) (k : Nat) : Sl w A c (xs.take k) := by
  refine ⟨by have := h.cap; simp; omega, h.max, fun hx => ?_⟩
  have hne : xs ≠ [] := fun e => by subst e; simp at hx
  obtain ⟨b, off, e, hc⟩ := h.at_ hne
  refine ⟨b, off, e, fun j u hu => hc j u ?_⟩
  rw [List.getElem?_take] at hu
  split at hu
  · exact hu
  · cases hu
theorem Sl.of_own {B e n cc : Nat} (h : w.ownsRow B e 1 (.slice A n cc) n xs) : Sl w A cc xs ∧ n = xs.length := by
  have hl : n = xs.length := by have := h.1; omega
  refine ⟨?_, hl⟩
  rcases h.2 with ⟨h1, h2⟩ | ⟨g, cap, cur, h1, h2, h3, h4, h5, h6, h7⟩
  · injection h1 with e1 e2 e3
    subst e1 e3
    have : xs = [] := List.eq_nil_of_length_eq_zero (by omega)
    subst this
    exact Sl.nil w
  · injection h1 with e1 e2 e3
    subst e1 e3
    refine ⟨by omega, h5, fun _ => ⟨g, 0, rfl, fun j u hu => ?_⟩⟩
    have := h.cells (g := g) rfl j u hu
    have e : (⟨g, 0, none⟩ : Addr).add j = ⟨g, 0 + j, none⟩ := by by_cases h0 : j = 0 <;> simp [Addr.add, h0]
    rwa [e] at this
end
theorem own_far {w : World} {B e n cc : Nat} {A : Option Addr} {xs : List Value} (h : w.ownsRow B e 1 (.slice A n cc) n xs) {g : Nat} (hg : g < B) : ∀ b off, A = some ⟨b, off, none⟩ → b ≠ g := by
  rintro b off rfl
  have := (h.lt b rfl).1
  omega
/-- the block g is the cells cs, none of them frozen -/
def Blk (w : World) (g : Nat) (t : TypeId) (cs : Array Value) : Prop := w.heap[g]? = some (.cells cs t (0, 0))
theorem Blk.lt {w : World} {g : Nat} {t : TypeId} {cs : Array Value} (h : Blk w g t cs) : g < w.heap.size := (Array.getElem?_eq_some_iff.1 h).1
theorem Blk.below {w w' : World} {g : Nat} {t : TypeId} {cs : Array Value} (h : Blk w g t cs) (hb : Below w.heap.size w w') : Blk w' g t cs := (hb.block g h.lt).trans h
theorem Blk.new (w : World) (t : TypeId) (cs : Array Value) : Blk (w.alloc (.cells cs t)) w.heap.size t cs := heap_alloc_new w _
theorem Blk.cell {w : World} {g : Nat} {t : TypeId} {cs : Array Value} (h : Blk w g t cs) (i : Nat) : w.cell? ⟨g, i, none⟩ = cs[i]? := cell_of_row w g i cs t (0, 0) h
theorem Blk.frozen {w : World} {g : Nat} {t : TypeId} {cs : Array Value} (h : Blk w g t cs) (i : Nat) : w.frozen? ⟨g, i, none⟩ = false := frozen_of_row w g i cs t h
/-- a struct that is handed back out of its own block -/
theorem bodyPost_blk {P : Program} {fn : Func} {R : Ending → World → Prop} {a : Act} {w : World} {p : Tmp} {ty : TypeId} {g : Nat} {t : TypeId} {cs : Array Value} {fr : Nat × Nat} {d : TypeDesc} (h : fn.results = #[.cell p ty])
    (hp : a.tmps.getD p undef = .pointer (some ⟨g, 0, none⟩)) (hg : w.heap[g]? = some (.cells cs t fr)) (hu : P.underlying ty = some d) (hd : (match d with | .struct _ | .array _ _ => true | _ => false) = true) (hi : (P.info? ty).map (·.size) = some cs.size)
    (hdf : a.defers = []) (hR : R (.returned (.agg cs)) w) : bodyPost P fn R .ret a w :=
  bodyPost_ret (results_cell_row h _ w g t cs fr d hp hg hu hd hi) hdf hR
/-- what a contract keeps of the world: what lay there is as it was -/
abbrev Kept (w w' : World) : Prop := Below w.heap.size w w'
theorem Kept.trans {a b c : World} (h : Kept a b) (k : Kept b c) : Kept a c := Below.trans h (k.mono h.size)
theorem info8 : (Try.prog.info? 5).map (fun i => (i.zero, i.size, i.bytes)) = some (some (.int .u8 0), 1, 1) := by kernel_rfl
section
variable {P : Program}
/-- append onto a row of the call's own, whatever the source's address -/
theorem wp_append_sl {w : World} {o : Oper} {a : Act} {K : Act → World → Prop} {Q : Exit → Act → World → Prop} (s x : Operand) (t : TypeId)
    (ho : o.op = .call { callee := .builtin .append, args := #[s, x], argTypes := #[t, t] })
    (base : Nat) (e : TypeId) (i : TypeInfo) (z : Value) (bytes : Nat) (ht : P.underlying t = some (.slice e)) (hi : P.info? e = some i) (hz : i.zero = some z)
    (hsize : i.size = 1) (hby : i.bytes = bytes) (hzs : z.cells.size = 1)
    (v : Value) (n : Nat) (xs : List Value) (hs : a.eval s = v) (hown : w.ownsRow base e 1 v n xs)
    (A : Option Addr) (m c : Nat) (news : List Value) (hx : a.eval x = .slice A m c) (hm : news.length = m) (hsl : Sl w A c news) (h1 : ∀ u ∈ news, u.oneCell' = true)
    (h63 : n + m ≤ maxLen) (hbytes : (n + m) * bytes ≤ 140737488355328) (hbase : base ≤ w.heap.size)
    (h : ∀ v' w', w'.ownsRow base e 1 v' (n + m) (xs ++ news) → w.grownBy w' v.ownBlock → K (a.put o.dst v') w') : o.wp P a w K Q := by
  rcases A with _ | ad
  · have hnil : news = [] := by
      rcases Classical.em (news = []) with h0 | h0
      · exact h0
      · obtain ⟨b, off, e1, _⟩ := hsl.at_ h0; cases e1
    subst hnil
    simp only [List.length_nil] at hm
    subst hm
    obtain ⟨B, L, C, hv, hLC⟩ : ∃ B L C, v = .slice B L C ∧ L ≤ C := by
      rcases hown.2 with ⟨e1, _⟩ | ⟨g, cap, cur, e1, _, _, e2, _⟩
      · exact ⟨_, _, _, e1, Nat.le_refl _⟩
      · exact ⟨_, _, _, e1, e2⟩
    have hr := run_append_nothing (P := P) w t t o.type e i ht hi B L C hLC (.slice none 0 c) (Src.ofNil w ht c)
    rw [← hv] at hr
    unfold Oper.wp execOp
    simp only [ho, resolve, invoke, builtin, Sem.run_bind, Sem.run_pure, Result.andThen_ok, List.map_toArray, List.map_cons, List.map_nil, hs, hx, hr]
    exact h v w (by simpa using hown) (World.grownBy.refl w _)
  · refine wp_append_own w s x t ho base e i z 1 bytes ht hi hz hsize hby hzs (by omega) v n xs hs hown ad m c news hx (by omega) ?_ h1 h63 hbytes hbase fun v' w' h2 h3 _ => h v' w' h2 h3
    intro j u hu
    have hne : news ≠ [] := fun e1 => by subst e1; simp at hu
    obtain ⟨b, off, e1, hc⟩ := hsl.at_ hne
    injection e1 with e1
    subst e1
    have e2 : (⟨b, off, none⟩ : Addr).add j = ⟨b, off + j, none⟩ := by by_cases h0 : j = 0 <;> simp [Addr.add, h0]
    rw [e2]
    exact hc j u hu
theorem wpList_append_sl {w : World} {ops : Array Oper} {rest : List Oper} {o : Oper} {a : Act} {Q : Exit → Act → World → Prop} (hgd : o.guard = none) (s x : Operand) (t : TypeId)
    (ho : o.op = .call { callee := .builtin .append, args := #[s, x], argTypes := #[t, t] })
    (base : Nat) (e : TypeId) (i : TypeInfo) (z : Value) (bytes : Nat) (ht : P.underlying t = some (.slice e)) (hi : P.info? e = some i) (hz : i.zero = some z)
    (hsize : i.size = 1) (hby : i.bytes = bytes) (hzs : z.cells.size = 1)
    (v : Value) (n : Nat) (xs : List Value) (hs : a.eval s = v) (hown : w.ownsRow base e 1 v n xs)
    (A : Option Addr) (m c : Nat) (news : List Value) (hx : a.eval x = .slice A m c) (hm : news.length = m) (hsl : Sl w A c news) (h1 : ∀ u ∈ news, u.oneCell' = true)
    (h63 : n + m ≤ maxLen) (hbytes : (n + m) * bytes ≤ 140737488355328) (hbase : base ≤ w.heap.size)
    (h : ∀ v' w', w'.ownsRow base e 1 v' (n + m) (xs ++ news) → w.grownBy w' v.ownBlock → wpList P ops Q rest (a.put o.dst v') w') : wpList P ops Q (o :: rest) a w :=
  wpList_plain hgd fun _ hK => wp_append_sl s x t ho base e i z bytes ht hi hz hsize hby hzs v n xs hs hown A m c news hx hm hsl h1 h63 hbytes hbase fun v' w' h2 h3 => hK _ _ (h v' w' h2 h3)
theorem step_append_sl {w : World} {ops : Array Oper} {o : Oper} {a : Act} {K : Act → World → Prop} {Q : Exit → Act → World → Prop} {E : Prop} (hgd : o.guard = none) (s x : Operand) (t : TypeId)
    (ho : o.op = .call { callee := .builtin .append, args := #[s, x], argTypes := #[t, t] })
    (base : Nat) (e : TypeId) (i : TypeInfo) (z : Value) (bytes : Nat) (ht : P.underlying t = some (.slice e)) (hi : P.info? e = some i) (hz : i.zero = some z)
    (hsize : i.size = 1) (hby : i.bytes = bytes) (hzs : z.cells.size = 1)
    (v : Value) (n : Nat) (xs : List Value) (hs : a.eval s = v) (hown : w.ownsRow base e 1 v n xs)
    (A : Option Addr) (m c : Nat) (news : List Value) (hx : a.eval x = .slice A m c) (hm : news.length = m) (hsl : Sl w A c news) (h1 : ∀ u ∈ news, u.oneCell' = true)
    (h63 : n + m ≤ maxLen) (hbytes : (n + m) * bytes ≤ 140737488355328) (hbase : base ≤ w.heap.size)
    (h : ∀ v' w', w'.ownsRow base e 1 v' (n + m) (xs ++ news) → w.grownBy w' v.ownBlock → K (a.put o.dst v') w') :
    if Region.wanted o (yielded ops a.tmps) = true then Oper.wp P o a w K Q else E := by
  have hw : Region.wanted o (yielded ops a.tmps) = true := by simp [Region.wanted, hgd]
  rw [if_pos hw]
  exact wp_append_sl s x t ho base e i z bytes ht hi hz hsize hby hzs v n xs hs hown A m c news hx hm hsl h1 h63 hbytes hbase h
end
theorem after_blk {w w2 : World} {o : Obj} (hb : Kept (w.alloc o) w2) : w2.heap[w.heap.size]? = some o :=
  (hb.block w.heap.size (by simp)).trans (heap_alloc_new w o)
theorem after_kept {w w2 : World} {o : Obj} (hb : Kept (w.alloc o) w2) : Kept w w2 :=
  Below.trans ((Below.refl _ w).alloc (Nat.le_refl _) o) (hb.mono (by simp))
theorem infoS : (Try.prog.info? 43).map (·.size) = some 2 := by kernel_rfl
set_option maxRecDepth 100000 in
theorem makeSmall_any (z : Int) (w : World) :
    Calls Try.prog 20 #[.int .i64 z] w fun e w' => e = .returned (.agg #[.int .i64 z, .pointer none]) ∧ Kept w w' := by
  go_enter Try.func20, Try.ntmps20
  go_wp2
  go_returns
  exact ⟨rfl, by go_grown⟩
set_option maxRecDepth 100000 in
theorem MakeInt64_small (z : Int) (h1 : -2147483648 ≤ z) (h2 : z ≤ 2147483647) (w : World) :
    Calls Try.prog 14 #[.int .i64 z] w fun e w' => e = .returned (.agg #[.int .i64 z, .pointer none]) ∧ Kept w w' := by
  go_enter Try.func14, Try.ntmps14
  go_wp2_with fail
  refine (makeSmall_any z _).mono ?_
  rintro e w1 ⟨rfl, hk⟩
  have H := Lib.hid (after_blk hk)
  go_wp2_with (refine wpList_store_row rfl 43 (.tmp 2) (.tmp 10) rfl w.heap.size _ rfl rfl 43 _ H.out infoS rfl (by simp [Value.oneCell']) ?_)
  refine bodyPost_blk (cs := #[.int .i64 z, .pointer none]) rfl rfl (setRow_heap _ _ _ _ _ _ H.out) Try.underlying43 rfl (by exact infoS) rfl ?_
  exact ⟨rfl, below_setRow (after_kept hk) (Nat.le_refl _) _⟩
set_option maxRecDepth 100000 in
theorem MakeInt_small (z : Int) (h1 : -2147483648 ≤ z) (h2 : z ≤ 2147483647) (w : World) :
    Calls Try.prog 11 #[.int .i64 z] w fun e w' => e = .returned (.agg #[.int .i64 z, .pointer none]) ∧ Kept w w' := by
  go_enter Try.func11, Try.ntmps11
  go_wp2_with fail
  refine (MakeInt64_small z h1 h2 _).mono ?_
  rintro e w1 ⟨rfl, hk⟩
  have H := Lib.hid (after_blk hk)
  go_wp2_with (refine wpList_store_row rfl 43 (.tmp 2) (.tmp 4) rfl w.heap.size _ rfl rfl 43 _ H.out infoS rfl (by simp [Value.oneCell']) ?_)
  refine bodyPost_blk (cs := #[.int .i64 z, .pointer none]) rfl rfl (setRow_heap _ _ _ _ _ _ H.out) Try.underlying43 rfl (by exact infoS) rfl ?_
  exact ⟨rfl, below_setRow (after_kept hk) (Nat.le_refl _) _⟩
/-- the bytes of a text -/
def bs (S : ByteArray) : List Nat := S.data.toList.map UInt8.toNat
theorem bs_len (S : ByteArray) : (bs S).length = S.size := by
  rw [bs, List.length_map]
  rfl
theorem bs_get (S : ByteArray) (k : Nat) (h : k < (bs S).length) (h' : k < S.size) : (bs S)[k]'h = (S[k]'h').toNat := by
  exact List.getElem_map UInt8.toNat
theorem bs_lt (S : ByteArray) (k : Nat) (h : k < (bs S).length) : (bs S)[k]'h < 256 := by
  have h' : k < S.size := by rwa [bs_len] at h
  rw [bs_get S k h h']
  exact UInt8.toNat_lt _
set_option maxRecDepth 100000 in
theorem elLen_any (S : ByteArray) (b : Bool) (w : World) :
    Calls Try.prog 8 #[.agg #[.string S, .bool b]] w fun e w' => e = .returned (.int .i64 (S.size : Int)) ∧ Kept w w' := by
  go_enter Try.func8, Try.ntmps8
  go_wp2_with fail
  go_ret
  exact ⟨rfl, (Below.refl _ _).alloc (Nat.le_refl _) _⟩
set_option maxRecDepth 100000 in
theorem elIndex_any (S : ByteArray) (k : Nat) (hk : k < (bs S).length) (w : World) :
    Calls Try.prog 9 #[.agg #[.string S, .bool true], .int .i64 k] w fun e w' => e = .returned (.iface 43 (.agg #[.int .i64 ((bs S)[k]'hk : Nat), .pointer none])) ∧ Kept w w' := by
  have hk' : k < S.size := by rwa [bs_len] at hk
  have hlt := bs_lt S k hk
  have hge := bs_get S k hk hk'
  generalize (bs S)[k]'hk = d at *
  subst hge
  clear hk
  go_enter Try.func9, Try.ntmps9
  go_wp2_with fail
  generalize hd : (S[k]'hk').toNat = d at *
  have HD := Lib.hid hd
  clear hd
  refine (MakeInt_small (d : Int) (by omega) (by omega) _).mono ?_
  rintro e w1 ⟨rfl, hk⟩
  go_wp2_with fail
  go_ret
  rw [HD.out]
  exact ⟨rfl, after_kept hk⟩
theorem only_kept {w w' : World} (h : Kept w w') (row : Option Nat) : w.grownBy w' row := ⟨h.os, h.tape, h.output, h.size, fun i hi _ => h.block i hi⟩
theorem block_lt0 {w : World} {g : Nat} {o : Obj} (h : w.heap[g]? = some o) : g < w.heap.size := (Array.getElem?_eq_some_iff.1 h).1
theorem own_slice {w : World} {B e n : Nat} {v : Value} {xs : List Value} (h : w.ownsRow B e 1 v n xs) : ∃ A c, v = .slice A n c := by
  rcases h.2 with ⟨e1, e2⟩ | ⟨g, cap, cur, e1, _⟩
  · subst e2; exact ⟨_, _, e1⟩
  · exact ⟨_, _, e1⟩
/-- the interface values of a text's bytes -/
def els (l : List Nat) : List Value := l.map fun (d : Nat) => Value.iface 43 (.agg #[.int .i64 (d : Int), .pointer none])
theorem els_one (l : List Nat) : ∀ u ∈ els l, u.oneCell' = true := by
  intro u hu; simp only [els, List.mem_map] at hu; obtain ⟨d, _, rfl⟩ := hu; rfl
theorem info29 : (Try.prog.info? 29).map (fun i => (i.zero, i.size, i.bytes)) = some (some .nilIface, 1, 16) := by kernel_rfl
set_option maxRecDepth 100000 in
theorem ZzElems_any (S : ByteArray) (hS : S.size ≤ 1000) (w : World) :
    Calls Try.prog 6 #[.bool true, .string S] w fun e w' => ∃ A c, e = .returned (.slice A S.size c) ∧ Sl w' A c (els (bs S)) ∧ Kept w w' := by
  obtain ⟨i0, hi0, hz0, hz1, hz2⟩ := info_parts info29
  go_enter Try.func6, Try.ntmps6
  go_wp2_with fail
  refine (elLen_any S true _).mono ?_
  rintro e w1 ⟨rfl, hk⟩
  have hb := after_blk hk
  have hb1 := after_kept hk
  have hs1 := block_lt0 hb
  clear hk
  go_wp2_with fail
  go_loopw [6, 13] (fun lv iv wr => ∃ k : Nat, iv = .int .i64 k ∧ k ≤ S.size ∧ wr.ownsRow (w.heap.size + 1) 29 1 lv k (els ((bs S).take k)) ∧ Blk wr w.heap.size 34 #[.string S, .bool true] ∧ Below w.heap.size w wr) (fun _ iv _ => S.size - (intOf iv).toNat)
  case atStart => exact ⟨0, rfl, Nat.zero_le _, by simpa [els] using World.ownsRow_nil _ _ _ _, hb, hb1⟩
  case round =>
    obtain ⟨k, rfl, hk, hown, hbk, hbw⟩ := hrel
    have c0 : wr.cell? ⟨w.heap.size, 0, none⟩ = some (.string S) := hbk.cell 0
    have c1 : wr.cell? ⟨w.heap.size, 1, none⟩ = some (.bool true) := hbk.cell 1
    have hown' := hown
    obtain ⟨A, cap, rfl⟩ := own_slice hown'
    clear hown'
    by_cases hlt : k < S.size
    · have hkb : k < (bs S).length := by rw [bs_len]; exact hlt
      have hE := elIndex_any S k hkb
      go_wp2_with fail
      refine (hE wr).mono ?_
      rintro e w2 ⟨rfl, hk2⟩
      generalize hd : (bs S)[k]'hkb = d
      have hels : els ((bs S).take (k + 1)) = els ((bs S).take k) ++ [.iface 43 (.agg #[.int .i64 (d : Int), .pointer none])] := by
        rw [List.take_succ_eq_append_getElem hkb, hd]
        simp only [els, List.map_append, List.map_cons, List.map_nil, List.map_take]
      have hown2 := (hown.kept (only_kept hk2 none) (by simp [Value.ownBlock]; cases A <;> simp)).alloc (.cells #[.iface 43 (.agg #[.int .i64 (d : Int), .pointer none])] 29)
      have hz : w.heap.size + 1 ≤ w2.heap.size := by have := hbk.lt; have := hk2.size; omega
      have hlit : Sl (w2.alloc (.cells #[.iface 43 (.agg #[.int .i64 (d : Int), .pointer none])] 29)) (some ⟨w2.heap.size, 0, none⟩) 1 [.iface 43 (.agg #[.int .i64 (d : Int), .pointer none])] := by
        refine ⟨Nat.le_refl _, by unfold maxLen; omega, fun _ => ⟨_, _, rfl, fun j u hu => ?_⟩⟩
        cases j with
        | zero => injection hu with hu; subst hu; exact (Blk.new w2 29 #[.iface 43 (.agg #[.int .i64 (d : Int), .pointer none])]).cell 0
        | succ j => simp at hu
      have hb3 : Blk (w2.alloc (.cells #[.iface 43 (.agg #[.int .i64 (d : Int), .pointer none])] 29)) w.heap.size 34 #[.string S, .bool true] := (hbk.below hk2).below ((Below.refl _ _).alloc (Nat.le_refl _) _)
      have hbw3 : Below w.heap.size w (w2.alloc (.cells #[.iface 43 (.agg #[.int .i64 (d : Int), .pointer none])] 29)) := (Below.trans hbw (hk2.mono hbw.size)).alloc (by omega) _
      have hsz3 : (w2.alloc (.cells #[.iface 43 (.agg #[.int .i64 (d : Int), .pointer none])] 29)).heap.size = w2.heap.size + 1 := World.size_alloc _ _
      clear hd
      have HOWN := Lib.hid hown2
      have HELS := Lib.hid hels
      have HLIT := Lib.hid hlit
      have HB3 := Lib.hid hb3
      clear hown hown2 hels hlit hb3 hE hbk
      go_wp2_with (at_builtin; refine wpList_append_sl rfl (.tmp 16) (.tmp 20) 26 rfl (w.heap.size + 1) 29 i0 .nilIface 16 Try.underlying26 hi0 hz0 hz1 hz2 rfl _ k (els ((bs S).take k)) rfl HOWN.out _ 1 _ [.iface 43 (.agg #[.int .i64 (d : Int), .pointer none])] rfl rfl HLIT.out (by intro u hu; rw [List.mem_singleton.1 hu]; rfl) (by unfold maxLen; omega) (by omega) (by omega) ?_; intro v1 w1_ hown1 hg1)
      rw [← HELS.out] at hown1
      have hg1' : (w2.alloc (.cells #[.iface 43 (.agg #[.int .i64 (d : Int), .pointer none])] 29)).grownBy w1_ (Value.slice A k cap).ownBlock := hg1
      have hb4 : Blk w1_ w.heap.size 34 #[.string S, .bool true] := (hg1'.block _ HB3.out.lt (fun e => by have := (HOWN.out.lt _ e.symm).1; omega)).trans HB3.out
      exact ⟨⟨k + 1, by go_num, by omega, hown1, hb4, Below.grown hbw3 hg1' hbw3.size (fun q hq => by have := (HOWN.out.lt _ hq).1; omega)⟩, by simp [intOf]; omega⟩
    · obtain rfl : k = S.size := by omega
      have hfin : (bs S).take S.size = bs S := List.take_of_length_le (by rw [bs_len]; exact Nat.le_refl _)
      rw [hfin] at hown
      have HOWN := Lib.hid hown
      clear hown hfin
      go_wp2_with fail
      go_ret
      have hsl := Sl.of_own HOWN.out
      exact ⟨A, cap, rfl, hsl.1, hbw⟩
set_option maxRecDepth 100000 in
theorem get_any (x : Int) (p : Option Addr) (w : World) :
    Calls Try.prog 12 #[.agg #[.int .i64 x, .pointer p]] w fun e w' => e = .returned (.tuple #[.int .i64 x, .pointer p]) ∧ Kept w w' := by
  go_enter Try.func12, Try.ntmps12
  go_wp2_with fail
  go_quiet (fail)
  go_wp2_with fail
  go_ret2
  exact ⟨rfl, ((Below.refl _ _).alloc (Nat.le_refl _) _).trans ⟨rfl, rfl, rfl, Nat.le_refl _, fun _ _ => rfl⟩⟩
@[go_sem] theorem asInt (v : Value) (w : World) : (Instr.typeAssert (.iface 43 v) 29 43 true).run Try.prog w = .ok (.tuple #[v, .bool true]) w := by kernel_rfl
set_option maxRecDepth 100000 in
theorem Int64_small (x : Int) (w : World) :
    Calls Try.prog 10 #[.agg #[.int .i64 x, .pointer none]] w fun e w' => e = .returned (.tuple #[.int .i64 x, .bool true]) ∧ Kept w w' := by
  go_enter Try.func10, Try.ntmps10
  go_wp2_with fail
  refine (get_any x none _).mono ?_
  rintro e w1 ⟨rfl, hk⟩
  go_wp2_with fail
  go_ret2
  exact ⟨rfl, after_kept hk⟩
set_option maxRecDepth 100000 in
theorem ofNumber_any (x : Int) (w : World) :
    Calls Try.prog 7 #[.iface 43 (.agg #[.int .i64 x, .pointer none]), .nilIface] w fun e w' => e = .returned (.tuple #[.int .i64 x, .bool true]) ∧ Kept w w' := by
  go_enter Try.func7, Try.ntmps7
  go_wp2_with fail
  refine (Int64_small x _).mono ?_
  rintro e w1 ⟨rfl, hk⟩
  go_wp2_with fail
  go_ret2
  exact ⟨rfl, after_kept hk⟩
def i64s (l : List Nat) : List Value := l.map fun (d : Nat) => Value.int .i64 (d : Int)
theorem els_len (l : List Nat) : (els l).length = l.length := by rw [els, List.length_map]
theorem els_get (l : List Nat) (k : Nat) (h : k < l.length) : (els l)[k]? = some (.iface 43 (.agg #[.int .i64 ((l[k]'h : Nat) : Int), .pointer none])) := by simp [els, h]
theorem i64s_len (l : List Nat) : (i64s l).length = l.length := by rw [i64s, List.length_map]
theorem i64s_get (l : List Nat) (k : Nat) (h : k < l.length) : (i64s l)[k]? = some (.int .i64 ((l[k]'h : Nat) : Int)) := by simp [i64s, h]
theorem infoI : (Try.prog.info? 3).map (fun i => (i.zero, i.size, i.bytes)) = some (some (.int .i64 0), 1, 8) := by kernel_rfl
set_option maxRecDepth 100000 in
theorem ofNumbers_any (A : Option Addr) (c : Nat) (l : List Nat) (hl : l.length ≤ 1000) (w : World) (hs : Sl w A c (els l)) :
    Calls Try.prog 5 #[.slice A l.length c] w fun e w' => ∃ A c, e = .returned (.slice A l.length c) ∧ Sl w' A c (i64s l) ∧ Kept w w' := by
  obtain ⟨i0, hi0, hz0, hz1, hz2⟩ := info_parts infoI
  have HS := Lib.hid hs
  clear hs
  go_enter Try.func5, Try.ntmps5
  go_wp2_with fail
  go_loopw [2, 9] (fun lv iv wr => ∃ k : Nat, iv = .int .i64 k ∧ k ≤ l.length ∧ wr.ownsRow w.heap.size 3 1 lv k (i64s (l.take k)) ∧ Below w.heap.size w wr) (fun _ iv _ => l.length - (intOf iv).toNat)
  case atStart => exact ⟨0, rfl, Nat.zero_le _, by simpa [i64s] using World.ownsRow_nil _ _ _ _, Below.refl _ _⟩
  case round =>
    obtain ⟨k, rfl, hk, hown, hbw⟩ := hrel
    have hown' := hown
    obtain ⟨A2, cap, rfl⟩ := own_slice hown'
    clear hown'
    by_cases hlt : k < l.length
    · obtain ⟨b, off, rfl, hc⟩ := HS.out.at_ (fun h => by have := congrArg List.length h; rw [els_len, List.length_nil] at this; omega)
      have hck : wr.cell? ⟨b, off + k, none⟩ = some (.iface 43 (.agg #[.int .i64 ((l[k]'hlt : Nat) : Int), .pointer none])) :=
        (hbw.cell (p := ⟨b, off + k, none⟩) (block_lt_of_cell (hc k _ (els_get l k hlt)))).trans (hc k _ (els_get l k hlt))
      clear hc
      generalize hd : l[k]'hlt = d at *
      have HOWN0 := Lib.hid hown
      clear hown
      go_wp2_with fail
      refine (ofNumber_any (d : Int) wr).mono ?_
      rintro e w2 ⟨rfl, hk2⟩
      have hels : i64s (l.take (k + 1)) = i64s (l.take k) ++ [.int .i64 (d : Int)] := by
        rw [List.take_succ_eq_append_getElem hlt, hd]
        simp only [i64s, List.map_append, List.map_cons, List.map_nil, List.map_take]
      have hown2 := (HOWN0.out.kept (only_kept hk2 none) (by cases A2 <;> simp [Value.ownBlock])).alloc (.cells #[.int .i64 (d : Int)] 3)
      have hlit : Sl (w2.alloc (.cells #[.int .i64 (d : Int)] 3)) (some ⟨w2.heap.size, 0, none⟩) 1 [.int .i64 (d : Int)] := by
        refine ⟨Nat.le_refl _, by unfold maxLen; omega, fun _ => ⟨_, _, rfl, fun j u hu => ?_⟩⟩
        cases j with
        | zero => injection hu with hu; subst hu; exact (Blk.new w2 3 #[.int .i64 (d : Int)]).cell 0
        | succ j => simp at hu
      have hz := hbw.size
      have hz' := hk2.size
      have hbw3 : Below w.heap.size w (w2.alloc (.cells #[.int .i64 (d : Int)] 3)) := (Below.trans hbw (hk2.mono hbw.size)).alloc (by omega) _
      have hsz3 : (w2.alloc (.cells #[.int .i64 (d : Int)] 3)).heap.size = w2.heap.size + 1 := World.size_alloc _ _
      clear hd
      have HOWN := Lib.hid hown2
      have HELS := Lib.hid hels
      have HLIT := Lib.hid hlit
      clear HOWN0 hown2 hels hlit hck
      go_wp2_with (at_builtin; refine wpList_append_sl rfl (.tmp 18) (.tmp 20) 22 rfl w.heap.size 3 i0 (.int .i64 0) 8 Try.underlying22 hi0 hz0 hz1 hz2 rfl _ k (i64s (l.take k)) rfl HOWN.out _ 1 _ [.int .i64 (d : Int)] rfl rfl HLIT.out (by intro u hu; rw [List.mem_singleton.1 hu]; rfl) (by unfold maxLen; omega) (by omega) (by omega) ?_; intro v1 w1_ hown1 hg1)
      rw [← HELS.out] at hown1
      have hg1' : (w2.alloc (.cells #[.int .i64 (d : Int)] 3)).grownBy w1_ (Value.slice A2 k cap).ownBlock := hg1
      exact ⟨⟨k + 1, by go_num, by omega, hown1, Below.grown hbw3 hg1' hbw3.size (fun q hq => (HOWN.out.lt _ hq).1)⟩, by simp [intOf]; omega⟩
    · obtain rfl : k = l.length := by omega
      rw [List.take_of_length_le (Nat.le_refl _)] at hown
      have HOWN := Lib.hid hown
      clear hown
      go_wp2_with fail
      go_ret
      exact ⟨A2, cap, rfl, (Sl.of_own HOWN.out).1, hbw⟩
set_option maxRecDepth 100000 in
theorem iElemOrds_any (S : ByteArray) (hS : S.size ≤ 1000) (w : World) :
    Calls Try.prog 4 #[.string S] w fun e w' => ∃ A c, e = .returned (.slice A S.size c) ∧ Sl w' A c (i64s (bs S)) ∧ Kept w w' := by
  go_enter Try.func4, Try.ntmps4
  go_wp2_with fail
  refine (ZzElems_any S hS w).mono ?_
  rintro e w1 ⟨A, c, rfl, hs, hk⟩
  have h := ofNumbers_any A c (bs S) (by rw [bs_len]; exact hS) w1 hs
  rw [bs_len] at h
  have H := Lib.hid h
  clear h hs
  go_wp2_with fail
  refine (H.out).mono ?_
  rintro e w2 ⟨A2, c2, rfl, hs2, hk2⟩
  go_wp2_with fail
  go_ret
  exact ⟨A2, c2, rfl, hs2, hk.trans hk2⟩
end Go.Proofs.Ytkodcbddlgadaaa
