/- The map of two names: carried out and read -/
import Derived.Test.YtcamjefacbaniaaGreatIv
import Derived.MapKept
namespace Go.Proofs.YtcamjefacbaniaaGreat
open Go.ChangeShapes Go.WideShapes Go.ChangeAt Go.RowKit
set_option linter.unusedVariables false
section
variable {P : Program}
theorem run_mapAdd (mty kt et : TypeId) (r clock : Nat) (es : Array MapEntry) (b : Bool) (s : ByteArray) (w : World) (hm : P.underlying mty = some (.map kt et)) (hk : P.underlying kt = some .bool) (hb : w.heap[r]? = some (.map es clock))
    (hf : Instr.findNow .bool (.bool b) es.toList 0 = some none) :
    (Instr.mapUpdate mty (.map (some r)) (.bool b) (.string s)).run P w = .ok () { w with heap := w.heap.setIfInBounds r (.map (es.push { key := .bool b, val := .string s, born := clock }) (clock + 1)) } := by
  have hc : (Instr.checkKey false 10000 kt (.bool b)).run P w = .ok () w := MapKept.run_checkKey (k := .bool b) hk (by simp [MapKept.IsKey]) false 9999
  simp [Instr.mapUpdate, run_underlying hm, MapKept.run_getObj_map hb, hc, MapKept.run_findKey hk hf, MapKept.run_setObj_map _ hb, Result.andThen]
theorem run_mapGet (mty kt et : TypeId) (r clock k : Nat) (es : Array MapEntry) (b : Bool) (v : Value) (w : World) (hm : P.underlying mty = some (.map kt et)) (hk : P.underlying kt = some .bool) (hb : w.heap[r]? = some (.map es clock))
    (hf : Instr.findNow .bool (.bool b) es.toList 0 = some (some (k, v))) :
    (Instr.lookup mty (.map (some r)) (.bool b) false).run P w = .ok v w := by
  have hc : ∀ e : Bool, (Instr.checkKey e 10000 kt (.bool b)).run P w = .ok () w := fun e => MapKept.run_checkKey (k := .bool b) hk (by simp [MapKept.IsKey]) e 9999
  simp [Instr.lookup, run_underlying hm, MapKept.run_getObj_map hb, hc, MapKept.run_findKey hk hf, Result.andThen]
end
def eF (c : Nat) : MapEntry := { key := .bool false, val := .string (nmPart false), born := c }
def eT (c : Nat) : MapEntry := { key := .bool true, val := .string (nmPart true), born := c }
/-- the map of the two names, so far -/
def MapSt (w : World) (m : Nat) (f t : Bool) : Prop := ∃ es clock, w.heap[m]? = some (.map es clock) ∧
  match f, t with
  | false, false => es = #[]
  | true, false => ∃ c, es = #[eF c]
  | false, true => ∃ c, es = #[eT c]
  | true, true => ∃ c d, es = #[eF c, eT d] ∨ es = #[eT c, eF d]
theorem MapSt.addF {w : World} {m : Nat} {t : Bool} (h : MapSt w m false t) : ∃ w', (Instr.mapUpdate 31 (.map (some m)) (.bool false) (.string ⟨#[112, 97, 114, 116, 105, 116, 105, 111, 110]⟩)).run Tryz.prog w = .ok () w' ∧ MapSt w' m true t ∧ (∀ k, k ≠ m → w'.heap[k]? = w.heap[k]?) ∧ w'.heap.size = w.heap.size ∧ w'.os = w.os ∧ w'.tape = w.tape ∧ w'.output = w.output := by
  obtain ⟨es, clock, hb, he⟩ := h
  have hlt : m < w.heap.size := (Array.getElem?_eq_some_iff.1 hb).1
  have hf : Instr.findNow .bool (.bool false) es.toList 0 = some none := by
    cases t
    · simp only at he; subst he; rfl
    · obtain ⟨c, rfl⟩ := he; rfl
  refine ⟨_, run_mapAdd 31 4 9 m clock es false _ w Tryz.underlying31 Tryz.underlying4 hb hf, ⟨es.push { key := .bool false, val := .string ⟨#[112, 97, 114, 116, 105, 116, 105, 111, 110]⟩, born := clock }, clock + 1, by simp [hlt], ?_⟩, fun k hk => by simp [Ne.symm hk], by simp, rfl, rfl, rfl⟩
  cases t
  · simp only at he; subst he
    exact ⟨clock, rfl⟩
  · obtain ⟨c, rfl⟩ := he
    exact ⟨c, clock, .inr rfl⟩
theorem MapSt.addT {w : World} {m : Nat} {f : Bool} (h : MapSt w m f false) : ∃ w', (Instr.mapUpdate 31 (.map (some m)) (.bool true) (.string ⟨#[114, 112, 97, 114, 116, 105, 116, 105, 111, 110]⟩)).run Tryz.prog w = .ok () w' ∧ MapSt w' m f true ∧ (∀ k, k ≠ m → w'.heap[k]? = w.heap[k]?) ∧ w'.heap.size = w.heap.size ∧ w'.os = w.os ∧ w'.tape = w.tape ∧ w'.output = w.output := by
  obtain ⟨es, clock, hb, he⟩ := h
  have hlt : m < w.heap.size := (Array.getElem?_eq_some_iff.1 hb).1
  have hf : Instr.findNow .bool (.bool true) es.toList 0 = some none := by
    cases f
    · simp only at he; subst he; rfl
    · obtain ⟨c, rfl⟩ := he; rfl
  refine ⟨_, run_mapAdd 31 4 9 m clock es true _ w Tryz.underlying31 Tryz.underlying4 hb hf, ⟨es.push { key := .bool true, val := .string ⟨#[114, 112, 97, 114, 116, 105, 116, 105, 111, 110]⟩, born := clock }, clock + 1, by simp [hlt], ?_⟩, fun k hk => by simp [Ne.symm hk], by simp, rfl, rfl, rfl⟩
  cases f
  · simp only at he; subst he
    exact ⟨clock, rfl⟩
  · obtain ⟨c, rfl⟩ := he
    exact ⟨c, clock, .inl rfl⟩
theorem MapSt.get {w : World} {m : Nat} (h : MapSt w m true true) (back : Bool) : (Instr.lookup 31 (.map (some m)) (.bool back) false).run Tryz.prog w = .ok (.string (nmPart back)) w := by
  obtain ⟨es, clock, hb, c, d, rfl | rfl⟩ := h <;> cases back
  · exact run_mapGet 31 4 9 m clock 0 _ false _ w Tryz.underlying31 Tryz.underlying4 hb rfl
  · exact run_mapGet 31 4 9 m clock 1 _ true _ w Tryz.underlying31 Tryz.underlying4 hb rfl
  · exact run_mapGet 31 4 9 m clock 1 _ false _ w Tryz.underlying31 Tryz.underlying4 hb rfl
  · exact run_mapGet 31 4 9 m clock 0 _ true _ w Tryz.underlying31 Tryz.underlying4 hb rfl
theorem MapSt.below {w w' : World} {m : Nat} {f t : Bool} (h : MapSt w m f t) (hb : Kept w w') : MapSt w' m f t := by
  obtain ⟨es, clock, h1, h2⟩ := h
  exact ⟨es, clock, (hb.block m (Array.getElem?_eq_some_iff.1 h1).1).trans h1, h2⟩
theorem MapSt.ne {w : World} {m g : Nat} {f t : Bool} {ty : TypeId} {cs : Array Value} (h : MapSt w m f t) (hg : Blk w g ty cs) : g ≠ m := by
  rintro rfl
  obtain ⟨es, clock, h1, _⟩ := h
  have : w.heap[g]? = some (.cells cs ty (0, 0)) := hg
  rw [h1] at this
  cases this
end Go.Proofs.YtcamjefacbaniaaGreat
