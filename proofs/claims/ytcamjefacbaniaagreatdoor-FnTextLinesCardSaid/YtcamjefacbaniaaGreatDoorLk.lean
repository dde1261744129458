/- The law of a text's lines, walked -/
import Derived.Test.YtcamjefacbaniaaGreatDoorLh
namespace Go.Proofs.YtcamjefacbaniaaGreatDoor
open Go.ChangeShapes Go.WideShapes Go.ChangeAt Go.RowKit
set_option linter.unusedVariables false
theorem BoolVal_any2 (b : Bool) (w : World) :
    Calls Tryz.prog 6 #[.bool b] w fun e w' => ∃ q : Int, e = .returned (.agg #[.int .i64 1, .bool false, .slice none 0 0, .int .u64 q, .string ⟨#[]⟩, .slice none 0 0]) ∧ Hid (q = if b then 1 else 0) ∧ Kept w w' :=
  (BoolVal_any b w).mono fun _ _ ⟨h1, h2⟩ => ⟨_, h1, Lib.hid rfl, h2⟩
theorem Sl.cellAt {w : World} {A : Option Addr} {c : Nat} {l : List ByteArray} (h : Sl w A c (strs l)) (h0 : 0 < l.length) : ∃ b off, A = some ⟨b, off, none⟩ ∧ ∀ (k : Nat) (hk : k < l.length), w.cell? ⟨b, off + k, none⟩ = some (.string (l[k]'hk)) := by
  obtain ⟨b, off, e, hc⟩ := h.at_ (fun e => by
    have := congrArg List.length e
    rw [strs_len, List.length_nil] at this
    omega)
  exact ⟨b, off, e, fun k hk => hc k _ (strs_get l k hk)⟩
set_option maxRecDepth 100000 in
theorem sameTexts_any (A B : Option Addr) (n c d : Nat) (l : List ByteArray) (hl : l.length = n) (hn : n ≤ 61) (w : World) (h1 : Sl w A c (strs l)) (h2 : Sl w B d (strs l)) :
    Calls Tryz.prog 8 #[.slice A n c, .slice B n d] w fun e w' => e = .returned (.bool true) ∧ w = w' := by
  by_cases h0 : n = 0
  · subst h0
    clear h1 h2
    go_enter Tryz.func8, Tryz.ntmps8
    go_wp2_with fail
    go_rounds 1
    go_ret
    exact ⟨rfl, rfl⟩
  · obtain ⟨g1, o1, rfl, c1⟩ := h1.cellAt (by omega)
    obtain ⟨g2, o2, rfl, c2⟩ := h2.cellAt (by omega)
    have C1 := Lib.hid c1
    have C2 := Lib.hid c2
    clear c1 c2 h1 h2 h0
    go_enter Tryz.func8, Tryz.ntmps8
    go_wp2_with fail
    go_loop [14] (fun i => ∃ k : Nat, i = .int .i64 k ∧ k ≤ n) (fun i => n - (intOf i).toNat)
    case atStart => exact ⟨0, rfl, Nat.zero_le _⟩
    case round =>
      obtain ⟨k, rfl, hk⟩ := hrel
      by_cases hlt : k < n
      · have e1 := C1.out k (by omega)
        have e2 := C2.out k (by omega)
        go_wp2_with fail
        go_round
        case rel => exact ⟨k + 1, by go_num, by omega⟩
        case measure => simp [intOf]; omega
      · go_wp2_with fail
        go_ret
        exact ⟨rfl, rfl⟩
set_option maxRecDepth 100000 in
set_option maxHeartbeats 4000000 in
theorem FnTextLines_any (S : ByteArray) (keep : Bool) (w : World) :
    Calls Tryz.prog 3 #[.string S, .bool keep] w fun e w' => e = .returned (.bool true) ∧ Kept w w' := by
  by_cases hS : S.size ≤ 2147483647
  · have hS' : ¬ (2147483647 : Int) < (S.size : Int) := by omega
    go_enter Tryz.func3, Tryz.ntmps3
    go_wp2_with fail
    refine (Ascii_any S hS w).mono ?_
    rintro e w1 ⟨T, rfl, hT, ha, hk1⟩
    have HK1 := Lib.hid hk1
    clear hk1 ha
    go_wp2_with fail
    refine (BoolVal_any2 keep w1).mono ?_
    rintro e w2 ⟨q, rfl, HQ, hk2⟩
    have hb2 : Blk (w2.alloc (.cells #[.int .i64 1, .bool false, .slice none 0 0, .int .u64 q, .string ⟨#[]⟩, .slice none 0 0] 27)) w2.heap.size 27 (bvv keep) := by
      have e1 : #[.int .i64 1, .bool false, .slice none 0 0, .int .u64 q, .string ⟨#[]⟩, .slice none 0 0] = bvv keep := by rw [HQ.out]; rfl
      rw [e1]
      exact Blk.new _ _ _
    have HA := Lib.hid (asked_lines keep T hT w2.heap.size 1 _ hb2)
    have HK2 := Lib.hid ((HK1.out.trans hk2).alloc (HK1.out.trans hk2).size (.cells #[.int .i64 1, .bool false, .slice none 0 0, .int .u64 q, .string ⟨#[]⟩, .slice none 0 0] 27))
    clear hk2 hb2 HQ
    go_wp2_with fail
    refine (HA.out).mono ?_
    rintro e w3 ⟨v, rfl, B, d, A, c, rfl, hs, hk3⟩
    have HS := Lib.hid hs
    have HK3 := Lib.hid (Kept.trans HK2.out hk3)
    clear hs hk3 HA HK2
    go_wp2_with fail
    refine (TextLines_any keep T hT _).mono ?_
    rintro e w4 ⟨A4, c4, rfl, hs4, hk4⟩
    have HS4 := Lib.hid hs4
    have hk4' : Kept w3 w4 := after_kept hk4
    have HSB := Lib.hid (HS.out.below hk4')
    have HK4 := Lib.hid (HK3.out.trans hk4')
    have hll := lins_len keep T
    have hl61 : (lins keep T).length ≤ 61 := by omega
    clear hs4 hk4 hk4' hll
    go_wp2_with fail
    refine (sameTexts_any A4 A _ c4 c _ rfl hl61 w4 HS4.out HSB.out).mono ?_
    rintro e w5 ⟨rfl, rfl⟩
    go_wp2_with fail
    go_ret
    exact ⟨rfl, HK4.out⟩
  · have hS' : (2147483647 : Int) < (S.size : Int) := by omega
    go_enter Tryz.func3, Tryz.ntmps3
    go_wp2_with fail
    go_ret
    exact ⟨rfl, Below.refl _ _⟩
end Go.Proofs.YtcamjefacbaniaaGreatDoor
