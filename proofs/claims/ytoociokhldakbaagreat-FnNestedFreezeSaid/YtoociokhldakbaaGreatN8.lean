/- The reference's reach: what a node is reached from. -/
import Derived.Test.YtoociokhldakbaaGreatN7
import Derived.Test.YtoociokhldakbaaGreatIc
namespace Go.Proofs.YtoociokhldakbaaGreat
open Go.ChangeShapes Go.WideShapes Go.ChangeAt Go.RowKit
set_option linter.unusedVariables false
def i64s (l : List Nat) : List Value := l.map fun (d : Nat) => Value.int .i64 (d : Int)
theorem i64s_get (l : List Nat) (k : Nat) (h : k < l.length) : (i64s l)[k]? = some (.int .i64 ((l[k]'h : Nat) : Int)) := by simp [i64s, h]
/-- the kids of n nodes whose row begins in block gb -/
def KidsAt (w : World) (gb n : Nat) (ks : Nat → List Nat) : Prop := ∀ i, i < n → ∃ A c, w.cell? ⟨gb, i * 6 + 5, none⟩ = some (.slice A (ks i).length c) ∧ Sl w A c (i64s (ks i))
theorem KidsAt.below {w w' : World} {gb n : Nat} {ks : Nat → List Nat} (h : KidsAt w gb n ks) (hb : Kept w w') : KidsAt w' gb n ks := fun i hi => by
  obtain ⟨A, c, h1, h2⟩ := h i hi
  exact ⟨A, c, (hb.cell (block_lt_of_cell h1)).trans h1, h2.below hb⟩
theorem info_bool : (Tryz.prog.info? 4).map (fun i => (i.zero, i.size, i.bytes)) = some (some (.bool false), 1, 1) := by kernel_rfl
/-- the marks of n nodes -/
def RchP (n : Nat) (ks : Nat → List Nat) (root : Nat) (w : World) (e : Ending) (w' : World) : Prop :=
  ∃ (ob : Nat) (R : Nat → Bool), e = .returned (.slice (some ⟨ob, 0, none⟩) n n) ∧ w.heap.size ≤ ob ∧ w'.rowIs ob 4 n (fun j => .bool (R j)) ∧ (∀ m, R m = true ↔ Rch ks root m) ∧ Kept w w'
set_option maxRecDepth 100000 in
set_option maxHeartbeats 1000000 in
theorem Reached_any (gb n nc root : Nat) (ks : Nat → List Nat) (hn : n ≤ 1000) (hroot : root < n) (hkid : ∀ i, i < n → ∀ d, d ∈ ks i → d < n) (hlen : ∀ i, i < n → (ks i).length ≤ 100000) (w : World) (hk : KidsAt w gb n ks) :
    Calls Tryz.prog 9 #[.agg #[.slice (some ⟨gb, 0, none⟩) n nc, .int .i64 (root : Int)]] w (RchP n ks root w) := by
  obtain ⟨i0, hi0, hz0, hz1, hz2⟩ := info_parts info_bool
  have hmk := fun W => run_make (P := Tryz.prog) W 37 4 i0 (.bool false) Tryz.underlying37 hi0 hz0 .i64 .i64 (n : Int) (n : Int) (by omega) (by omega) (by rw [hz2]; omega) (by omega)
  simp only [hz1, Int.toNat_natCast, Nat.mul_one] at hmk
  have hk0 : Kept w (w.alloc (.cells #[.slice (some ⟨gb, 0, none⟩) n nc, .int .i64 (root : Int)] 24)) := by go_grown
  have hrI : (root : Int) < (n : Int) := by omega
  have hr0 : (0 : Int) ≤ (root : Int) := by omega
  have hnI : (n : Int) ≤ 1000 := by omega
  have hmc : (madeCells #[Value.bool false] n)[root]? = some (.bool false) := by
    obtain ⟨cs, h1, h2, h3⟩ := World.rowIs_made w (.bool false) n 4
    rw [heap_alloc_new] at h1
    injection h1 with h1
    injection h1 with h1
    subst h1
    exact h3 root hroot
  have hrow : ((w.alloc (.cells #[.slice (some ⟨gb, 0, none⟩) n nc, .int .i64 (root : Int)] 24)).alloc (.cells ((madeCells #[Value.bool false] n).setIfInBounds root (.bool true)) 4)).rowIs (w.heap.size + 1) 4 n (fun j => .bool (decide (j = root))) := by
    have h := (World.rowIs_made (w.alloc (.cells #[.slice (some ⟨gb, 0, none⟩) n nc, .int .i64 (root : Int)] 24)) (.bool false) n 4).set root (.bool true)
    rw [World.size_alloc] at h
    have e : ∀ W : World, ∀ c : Array Value, (W.alloc (.cells c 4)).setCell ⟨W.heap.size, root, none⟩ (.bool true) = W.alloc (.cells (c.setIfInBounds root (.bool true)) 4) := fun W c => World.setCell_alloc_new c _ _ _
    have e2 := e (w.alloc (.cells #[.slice (some ⟨gb, 0, none⟩) n nc, .int .i64 (root : Int)] 24)) (madeCells #[Value.bool false] n)
    rw [World.size_alloc] at e2
    have h' := h
    rw [e2] at h'
    refine h'.congr fun j _ => ?_
    show (if j = root then Value.bool true else .bool false) = _
    by_cases hj : j = root
    · rw [if_pos hj, decide_eq_true hj]
    · rw [if_neg hj, decide_eq_false hj]
  have hkk : Kept w ((w.alloc (.cells #[.slice (some ⟨gb, 0, none⟩) n nc, .int .i64 (root : Int)] 24)).alloc (.cells ((madeCells #[Value.bool false] n).setIfInBounds root (.bool true)) 4)) := by go_grown
  have hbox : Blk ((w.alloc (.cells #[.slice (some ⟨gb, 0, none⟩) n nc, .int .i64 (root : Int)] 24)).alloc (.cells ((madeCells #[Value.bool false] n).setIfInBounds root (.bool true)) 4)) w.heap.size 24 #[.slice (some ⟨gb, 0, none⟩) n nc, .int .i64 (root : Int)] := (Blk.new w _ _).below ((Below.refl _ _).alloc (Nat.le_refl _) _)
  have HK := Lib.hid hk
  have HN := Lib.hid hn
  have HROOT := Lib.hid hroot
  have HKID := Lib.hid hkid
  have HLEN := Lib.hid hlen
  have HROW := Lib.hid hrow
  have HKK := Lib.hid hkk
  have HBOX := Lib.hid hbox
  clear hi0 hz0 hz1 hz2 hn hroot hkid hlen hk hk0 hrow hkk hbox
  go_enter Tryz.func9, Tryz.ntmps9
  go_wp2_with fail
  generalize ((w.alloc (.cells #[.slice (some ⟨gb, 0, none⟩) n nc, .int .i64 (root : Int)] 24)).alloc (.cells ((madeCells #[Value.bool false] n).setIfInBounds root (.bool true)) 4)) = W1 at *
  have START := Lib.hid (Rnd.start (n := n) (ks := ks) HROOT.out)
  have BOX : Hid (∀ wr, W1.grownBy wr (some (w.heap.size + 1)) → wr.cell? ⟨w.heap.size, 0, none⟩ = some (.slice (some ⟨gb, 0, none⟩) n nc)) := Lib.hid fun wr h => ((h.block w.heap.size HBOX.out.lt (by simp)).trans HBOX.out |> fun (hb : Blk wr w.heap.size 24 _) => hb.cell 0)
  have KIDS : Hid (∀ wr, W1.grownBy wr (some (w.heap.size + 1)) → ∀ i, i < n → ∃ A c, wr.cell? ⟨gb, i * 6 + 5, none⟩ = some (.slice A (ks i).length c) ∧ ∀ (k d : Nat), (ks i)[k]? = some d → ∃ b off, A = some ⟨b, off, none⟩ ∧ wr.cell? ⟨b, off + k, none⟩ = some (.int .i64 (d : Int))) := Lib.hid fun wr h i hi => by
    obtain ⟨A, c, h1, h2⟩ := HK.out i hi
    have hkw : Kept w wr := ⟨h.os.trans HKK.out.os, h.tape.trans HKK.out.tape, h.output.trans HKK.out.output, Nat.le_trans HKK.out.size h.size, fun j hj => (h.block j (Nat.lt_of_lt_of_le hj HKK.out.size) (by intro e; injection e with e; omega)).trans (HKK.out.block j hj)⟩
    refine ⟨A, c, (hkw.cell (block_lt_of_cell h1)).trans h1, fun k d hd => ?_⟩
    have h3 := h2.below hkw
    have hk2 : k < (ks i).length := (List.getElem?_eq_some_iff.1 hd).1
    obtain ⟨b, off, e, hc⟩ := h3.at_ (fun e => by
      have := congrArg List.length e
      rw [i64s, List.length_map, List.length_nil] at this
      omega)
    exact ⟨b, off, e, hc k _ (by rw [i64s, List.getElem?_map, hd]; rfl)⟩
  have FIN : Hid (∀ wr R, W1.grownBy wr (some (w.heap.size + 1)) → wr.rowIs (w.heap.size + 1) 4 n (fun j => .bool (R j)) → Rnd n ks root n R → RchP n ks root w (.returned (.slice (some ⟨w.heap.size + 1, 0, none⟩) n n)) wr) := Lib.hid fun wr R h h2 h3 =>
    ⟨w.heap.size + 1, R, rfl, Nat.le_succ _, h2, fun m => h3.reach HROOT.out HKID.out m, ⟨h.os.trans HKK.out.os, h.tape.trans HKK.out.tape, h.output.trans HKK.out.output, Nat.le_trans HKK.out.size h.size, fun j hj => (h.block j (Nat.lt_of_lt_of_le hj HKK.out.size) (by intro e; injection e with e; omega)).trans (HKK.out.block j hj)⟩⟩
  obtain ⟨ob, hob⟩ : ∃ ob, ob = w.heap.size + 1 := ⟨_, rfl⟩
  rw [← hob] at FIN BOX KIDS HROW ⊢
  have HROW2 := HROW
  clear HK HKK HBOX hob HROOT
  go_loopw [4] (fun nv wr => ∃ (r : Nat) (R : Nat → Bool), nv = .int .i64 (r : Int) ∧ r ≤ n ∧ wr.rowIs ob 4 n (fun j => .bool (R j)) ∧ W1.grownBy wr (some ob) ∧ Rnd n ks root r R) (fun nv _ => n - (intOf nv).toNat)
  case atStart => exact ⟨0, _, rfl, Nat.zero_le _, HROW.out, World.grownBy.refl _ _, START.out⟩
  case round =>
    obtain ⟨r, R, rfl, hr, hrow, hg, hR⟩ := hrel
    have hbx := BOX.out wr hg
    by_cases hlt : r < n
    · have i1 : (r : Int) < (n : Int) := by omega
      have M0 := Lib.hid (Mid.start hR)
      have HR := Lib.hid hR
      have HRW := Lib.hid hrow
      have HG := Lib.hid hg
      have HLT := Lib.hid hlt
      clear hR hrow hg hlt hr
      go_wp2_with fail
      obtain ⟨w2, hw2⟩ : ∃ w2, w2 = wr := ⟨_, rfl⟩
      subst hw2
      go_loopw [5] (fun iv wr => ∃ (i : Nat) (R' : Nat → Bool), iv = .int .i64 (i : Int) ∧ i ≤ n ∧ wr.rowIs ob 4 n (fun j => .bool (R' j)) ∧ W1.grownBy wr (some ob) ∧ Mid n ks root R i 0 R') (fun iv _ => n - (intOf iv).toNat)
      case atStart => exact ⟨0, R, rfl, Nat.zero_le _, HRW.out, HG.out, M0.out⟩
      case round =>
        obtain ⟨i, R', rfl, hi, hrow, hg, hM⟩ := hrel
        have hbx := BOX.out wr hg
        by_cases hlt : i < n
        · have j1 : (i : Int) < (n : Int) := by omega
          have j0 : (0 : Int) ≤ (i : Int) := by omega
          have HM := Lib.hid hM
          have HRW2 := Lib.hid hrow
          have HG2 := Lib.hid hg
          have HI := Lib.hid hlt
          have hleni := HLEN.out i hlt
          clear hM hrow hg hlt hi
          go_wp2_with fail
          obtain ⟨w3, hw3⟩ : ∃ w3, w3 = wr := ⟨_, rfl⟩
          subst hw3
          obtain ⟨m, hm⟩ : ∃ m, m = (ks i).length := ⟨_, rfl⟩
          have hmI : (m : Int) ≤ 100000 := by omega
          have HMM := Lib.hid hm
          go_loopw [6] (fun kv wr => ∃ (k : Nat) (R'' : Nat → Bool), kv = .int .i64 (k : Int) ∧ k ≤ m ∧ wr.rowIs ob 4 n (fun j => .bool (R'' j)) ∧ W1.grownBy wr (some ob) ∧ Mid n ks root R i k R'') (fun kv _ => m - (intOf kv).toNat)
          case atStart => exact ⟨0, R', rfl, Nat.zero_le _, HRW2.out, HG2.out, HM.out⟩
          case round =>
            obtain ⟨k, R'', rfl, hk, hrow, hg, hM⟩ := hrel
            have hbx := BOX.out wr hg
            obtain ⟨A, c, hc5, hkd⟩ := KIDS.out wr hg i HI.out
            rw [← hm] at hc5
            by_cases hlt2 : k < m
            · have hke := List.getElem?_eq_getElem (l := ks i) (i := k) (by omega)
              obtain ⟨b, off, rfl, hcd⟩ := hkd k _ hke
              generalize (ks i)[k] = d at hke hcd
              have hdn : d < n := HKID.out i HI.out d (List.mem_of_getElem? hke)
              have HST := Lib.hid (hM.step HI.out hdn hke)
              have k1 : (k : Int) < (m : Int) := by omega
              have k0 : (0 : Int) ≤ (k : Int) := by omega
              have d1 : (d : Int) < (n : Int) := by omega
              have d0 : (0 : Int) ≤ (d : Int) := by omega
              have hcd2 : wr.cell? ⟨ob, d, none⟩ = some (.bool (R'' d)) := hrow.cell hdn
              have hci2 : wr.cell? ⟨ob, i, none⟩ = some (.bool (R'' i)) := hrow.cell HI.out
              have hfz := hrow.frozen d
              have SET : Hid (∀ v, v = (R'' d || R'' i) → (wr.setCell ⟨ob, d, none⟩ (.bool v)).rowIs ob 4 n (fun j => .bool ((fun j => if j = d then (R'' d || R'' i) else R'' j) j))) := Lib.hid fun v hv => by
                refine (hrow.set d (.bool v)).congr fun j _ => ?_
                show (if j = d then Value.bool v else .bool (R'' j)) = .bool (if j = d then (R'' d || R'' i) else R'' j)
                by_cases e : j = d
                · rw [if_pos e, if_pos e, hv]
                · rw [if_neg e, if_neg e]
              have GS : Hid (∀ v, W1.grownBy (wr.setCell ⟨ob, d, none⟩ (.bool v)) (some ob)) := Lib.hid fun v => only_set hg d (.bool v)
              have HK2 := Lib.hid hlt2
              clear hm hleni hkd hke hdn hM hrow hg hlt2 hk
              cases h1 : R'' d
              · rw [h1] at hcd2
                have HS := Lib.hid (SET.out (R'' i) (by rw [h1]; rfl))
                clear h1 SET
                go_wp2_with fail
                exact ⟨⟨k + 1, _, by go_num, by have := HK2.out; omega, HS.out, GS.out _, HST.out⟩, by have := HK2.out; simp [intOf]; omega⟩
              · rw [h1] at hcd2
                have HS := Lib.hid (SET.out true (by rw [h1]; rfl))
                clear h1 SET
                go_wp2_with fail
                exact ⟨⟨k + 1, _, by go_num, by have := HK2.out; omega, HS.out, GS.out _, HST.out⟩, by have := HK2.out; simp [intOf]; omega⟩
            · have hkm : k = (ks i).length := by omega
              rw [hkm] at hM
              have HNX := Lib.hid hM.next
              have HRW3 := Lib.hid hrow
              have HG3 := Lib.hid hg
              have k1 : ¬ (k : Int) < (m : Int) := by omega
              clear hm hleni hkd hM hrow hg hlt2 hk hkm
              go_wp2_with fail
              exact ⟨⟨i + 1, R'', by go_num, HI.out, HRW3.out, HG3.out, HNX.out⟩, by have := HI.out; simp [intOf]; omega⟩
        · obtain rfl : i = n := by omega
          have HNX := Lib.hid (hM.stop HR.out HKID.out)
          have HRW3 := Lib.hid hrow
          have HG3 := Lib.hid hg
          clear hM hrow hg
          go_wp2_with fail
          exact ⟨⟨r + 1, R', by go_num, HLT.out, HRW3.out, HG3.out, HNX.out⟩, by have := HLT.out; simp [intOf]; omega⟩
    · obtain rfl : r = n := by omega
      have HF := Lib.hid (FIN.out wr R hg hrow hR)
      clear hR hrow hg
      go_wp2_with fail
      go_ret
      exact HF.out
end Go.Proofs.YtoociokhldakbaaGreat
