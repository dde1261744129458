/- Two made values compared; a key found. -/
import Derived.Test.YtoociokhldakbaaGreatOB
import Derived.Deep.RegionHeld3
import Derived.Orders
namespace Go.Proofs.YtoociokhldakbaaGreat
open Go.ChangeShapes Go.WideShapes Go.ChangeAt Go.RowKit
set_option linter.unusedVariables false
set_option maxRecDepth 100000 in
set_option maxHeartbeats 2000000 in
/-- two numbers -/
theorem Equal_num (F G : Nat → Prop) (d f : Nat) (kx ky : Int) (bx by' : Bool) (Ax Ay Kx Ky : Option Addr) (lx ly : List Nat) (cx cy qx qy nx ny ex ey : Nat) (Tx Ty : ByteArray) (w : World) (h1 : kx = 2 ∨ kx = 3) (h2 : ky = 2 ∨ ky = 3) (hx : OG F w d kx (.agg #[.int .i64 kx, .bool bx, .slice Ax lx.length cx, .int .u64 (qx : Int), .string Tx, .slice Kx nx ex])) (hy : OG G w f ky (.agg #[.int .i64 ky, .bool by', .slice Ay ly.length cy, .int .u64 (qy : Int), .string Ty, .slice Ky ny ey])) :
    Calls Tryz.prog 38 #[.agg #[.int .i64 kx, .bool bx, .slice Ax lx.length cx, .int .u64 (qx : Int), .string Tx, .slice Kx nx ex], .agg #[.int .i64 ky, .bool by', .slice Ay ly.length cy, .int .u64 (qy : Int), .string Ty, .slice Ky ny ey]] w fun e w' => AnsB e ∧ Kept w w' := by
  obtain ⟨hk0, hbx, hby⟩ := two_boxes w #[.int .i64 kx, .bool bx, .slice Ax lx.length cx, .int .u64 (qx : Int), .string Tx, .slice Kx nx ex] #[.int .i64 ky, .bool by', .slice Ay ly.length cy, .int .u64 (qy : Int), .string Ty, .slice Ky ny ey] 33 33
  have CELLS : Hid (∀ X, Kept ((w.alloc (.cells #[.int .i64 kx, .bool bx, .slice Ax lx.length cx, .int .u64 (qx : Int), .string Tx, .slice Kx nx ex] 33)).alloc (.cells #[.int .i64 ky, .bool by', .slice Ay ly.length cy, .int .u64 (qy : Int), .string Ty, .slice Ky ny ey] 33)) X → X.cell? ⟨w.heap.size, 0, none⟩ = some (.int .i64 kx) ∧ X.cell? ⟨w.heap.size, 1, none⟩ = some (.bool bx) ∧ X.cell? ⟨w.heap.size, 2, none⟩ = some (.slice Ax lx.length cx) ∧ X.cell? ⟨w.heap.size, 3, none⟩ = some (.int .u64 (qx : Int)) ∧ X.cell? ⟨w.heap.size, 4, none⟩ = some (.string Tx) ∧ X.cell? ⟨w.heap.size, 5, none⟩ = some (.slice Kx nx ex) ∧ X.cell? ⟨w.heap.size + 1, 0, none⟩ = some (.int .i64 ky) ∧ X.cell? ⟨w.heap.size + 1, 1, none⟩ = some (.bool by') ∧ X.cell? ⟨w.heap.size + 1, 2, none⟩ = some (.slice Ay ly.length cy) ∧ X.cell? ⟨w.heap.size + 1, 3, none⟩ = some (.int .u64 (qy : Int)) ∧ X.cell? ⟨w.heap.size + 1, 4, none⟩ = some (.string Ty) ∧ X.cell? ⟨w.heap.size + 1, 5, none⟩ = some (.slice Ky ny ey)) := Lib.hid fun X hX => ⟨(hbx.below hX).cell 0, (hbx.below hX).cell 1, (hbx.below hX).cell 2, (hbx.below hX).cell 3, (hbx.below hX).cell 4, (hbx.below hX).cell 5, (hby.below hX).cell 0, (hby.below hX).cell 1, (hby.below hX).cell 2, (hby.below hX).cell 3, (hby.below hX).cell 4, (hby.below hX).cell 5⟩
  have HK0 := Lib.hid hk0
  have HX := Lib.hid (hx.below hk0)
  have HY := Lib.hid (hy.below hk0)
  have H1 := Lib.hid h1
  have H2 := Lib.hid h2
  clear hx hy h1 h2
  clear hk0 hbx hby
  go_enter Tryz.func38, Tryz.ntmps38
  go_wp2_with fail
  generalize ((w.alloc (.cells #[.int .i64 kx, .bool bx, .slice Ax lx.length cx, .int .u64 (qx : Int), .string Tx, .slice Kx nx ex] 33)).alloc (.cells #[.int .i64 ky, .bool by', .slice Ay ly.length cy, .int .u64 (qy : Int), .string Ty, .slice Ky ny ey] 33)) = W at *
  refine (number_any kx _ bx Ax Kx lx.length cx nx ex Tx _).mono ?_
  rintro e w1 ⟨⟨r1, rfl, hr1⟩, hk1⟩
  have HK1 := Lib.hid hk1
  have e1 : r1 = true := hr1.2 H1.out
  subst e1
  obtain ⟨x0, x1, x2, x3, x4, x5, y0, y1, y2, y3, y4, y5⟩ := CELLS.out _ HK1.out
  clear hr1 hk1
  go_wp2_with fail
  refine (number_any ky _ by' Ay Ky ly.length cy ny ey Ty _).mono ?_
  rintro e w2 ⟨⟨r2, rfl, hr2⟩, hk2⟩
  have HK2 := Lib.hid (HK1.out.trans hk2)
  have e2 : r2 = true := hr2.2 H2.out
  subst e2
  clear x0 x1 x2 x3 x4 x5 y0 y1 y2 y3 y4 y5
  obtain ⟨x0, x1, x2, x3, x4, x5, y0, y1, y2, y3, y4, y5⟩ := CELLS.out _ HK2.out
  clear hr2 hk2
  go_wp2_with fail
  refine (cmpNumbers_any F G d f kx ky _ _ _ (HX.out.below HK2.out) (HY.out.below HK2.out)).mono ?_
  rintro e w3 ⟨⟨r3, rfl⟩, hk3⟩
  have HK3 := Lib.hid (HK2.out.trans hk3)
  clear hk3
  go_wp2_with fail
  go_ret
  exact ⟨⟨_, rfl⟩, HK0.out.trans HK3.out⟩
set_option maxRecDepth 100000 in
set_option maxHeartbeats 2000000 in
/-- of two kinds, not both numbers -/
theorem Equal_kinds (kx ky : Int) (bx by' : Bool) (Ax Ay Kx Ky : Option Addr) (lx ly : List Nat) (cx cy qx qy nx ny ex ey : Nat) (Tx Ty : ByteArray) (w : World) (h0 : ¬ ((kx = 2 ∨ kx = 3) ∧ (ky = 2 ∨ ky = 3))) (hne : kx ≠ ky) :
    Calls Tryz.prog 38 #[.agg #[.int .i64 kx, .bool bx, .slice Ax lx.length cx, .int .u64 (qx : Int), .string Tx, .slice Kx nx ex], .agg #[.int .i64 ky, .bool by', .slice Ay ly.length cy, .int .u64 (qy : Int), .string Ty, .slice Ky ny ey]] w fun e w' => AnsB e ∧ Kept w w' := by
  obtain ⟨hk0, hbx, hby⟩ := two_boxes w #[.int .i64 kx, .bool bx, .slice Ax lx.length cx, .int .u64 (qx : Int), .string Tx, .slice Kx nx ex] #[.int .i64 ky, .bool by', .slice Ay ly.length cy, .int .u64 (qy : Int), .string Ty, .slice Ky ny ey] 33 33
  have CELLS : Hid (∀ X, Kept ((w.alloc (.cells #[.int .i64 kx, .bool bx, .slice Ax lx.length cx, .int .u64 (qx : Int), .string Tx, .slice Kx nx ex] 33)).alloc (.cells #[.int .i64 ky, .bool by', .slice Ay ly.length cy, .int .u64 (qy : Int), .string Ty, .slice Ky ny ey] 33)) X → X.cell? ⟨w.heap.size, 0, none⟩ = some (.int .i64 kx) ∧ X.cell? ⟨w.heap.size, 1, none⟩ = some (.bool bx) ∧ X.cell? ⟨w.heap.size, 2, none⟩ = some (.slice Ax lx.length cx) ∧ X.cell? ⟨w.heap.size, 3, none⟩ = some (.int .u64 (qx : Int)) ∧ X.cell? ⟨w.heap.size, 4, none⟩ = some (.string Tx) ∧ X.cell? ⟨w.heap.size, 5, none⟩ = some (.slice Kx nx ex) ∧ X.cell? ⟨w.heap.size + 1, 0, none⟩ = some (.int .i64 ky) ∧ X.cell? ⟨w.heap.size + 1, 1, none⟩ = some (.bool by') ∧ X.cell? ⟨w.heap.size + 1, 2, none⟩ = some (.slice Ay ly.length cy) ∧ X.cell? ⟨w.heap.size + 1, 3, none⟩ = some (.int .u64 (qy : Int)) ∧ X.cell? ⟨w.heap.size + 1, 4, none⟩ = some (.string Ty) ∧ X.cell? ⟨w.heap.size + 1, 5, none⟩ = some (.slice Ky ny ey)) := Lib.hid fun X hX => ⟨(hbx.below hX).cell 0, (hbx.below hX).cell 1, (hbx.below hX).cell 2, (hbx.below hX).cell 3, (hbx.below hX).cell 4, (hbx.below hX).cell 5, (hby.below hX).cell 0, (hby.below hX).cell 1, (hby.below hX).cell 2, (hby.below hX).cell 3, (hby.below hX).cell 4, (hby.below hX).cell 5⟩
  have HK0 := Lib.hid hk0
  have e0 : (kx != ky) = true := by simpa using hne
  have H0 := Lib.hid h0
  clear h0 hne
  clear hk0 hbx hby
  go_enter Tryz.func38, Tryz.ntmps38
  go_wp2_with fail
  generalize ((w.alloc (.cells #[.int .i64 kx, .bool bx, .slice Ax lx.length cx, .int .u64 (qx : Int), .string Tx, .slice Kx nx ex] 33)).alloc (.cells #[.int .i64 ky, .bool by', .slice Ay ly.length cy, .int .u64 (qy : Int), .string Ty, .slice Ky ny ey] 33)) = W at *
  refine (number_any kx _ bx Ax Kx lx.length cx nx ex Tx _).mono ?_
  rintro e w1 ⟨⟨r1, rfl, hr1⟩, hk1⟩
  have HK1 := Lib.hid hk1
  have HR1 := Lib.hid hr1
  obtain ⟨x0, x1, x2, x3, x4, x5, y0, y1, y2, y3, y4, y5⟩ := CELLS.out _ HK1.out
  clear hr1 hk1
  cases r1
  · go_wp2_with fail
    go_ret
    exact ⟨⟨_, rfl⟩, HK0.out.trans HK1.out⟩
  · go_wp2_with fail
    refine (number_any ky _ by' Ay Ky ly.length cy ny ey Ty _).mono ?_
    rintro e w2 ⟨⟨r2, rfl, hr2⟩, hk2⟩
    have HK2 := Lib.hid (HK1.out.trans hk2)
    have e2 : r2 = false := by
      cases r2
      · rfl
      · exact absurd ⟨HR1.out.1 (by simp), hr2.1 (by simp)⟩ H0.out
    subst e2
    clear x0 x1 x2 x3 x4 x5 y0 y1 y2 y3 y4 y5
    obtain ⟨x0, x1, x2, x3, x4, x5, y0, y1, y2, y3, y4, y5⟩ := CELLS.out _ HK2.out
    clear hr2 hk2
    go_wp2_with fail
    go_ret
    exact ⟨⟨_, rfl⟩, HK0.out.trans HK2.out⟩
set_option maxRecDepth 100000 in
set_option maxHeartbeats 2000000 in
/-- of one kind, no numbers, not equally many kids -/
theorem Equal_len (k : Int) (bx by' : Bool) (Ax Ay Kx Ky : Option Addr) (lx ly : List Nat) (cx cy qx qy nx ny ex ey : Nat) (Tx Ty : ByteArray) (w : World) (h0 : ¬ (k = 2 ∨ k = 3)) (hne : nx ≠ ny) :
    Calls Tryz.prog 38 #[.agg #[.int .i64 k, .bool bx, .slice Ax lx.length cx, .int .u64 (qx : Int), .string Tx, .slice Kx nx ex], .agg #[.int .i64 k, .bool by', .slice Ay ly.length cy, .int .u64 (qy : Int), .string Ty, .slice Ky ny ey]] w fun e w' => AnsB e ∧ Kept w w' := by
  obtain ⟨hk0, hbx, hby⟩ := two_boxes w #[.int .i64 k, .bool bx, .slice Ax lx.length cx, .int .u64 (qx : Int), .string Tx, .slice Kx nx ex] #[.int .i64 k, .bool by', .slice Ay ly.length cy, .int .u64 (qy : Int), .string Ty, .slice Ky ny ey] 33 33
  have CELLS : Hid (∀ X, Kept ((w.alloc (.cells #[.int .i64 k, .bool bx, .slice Ax lx.length cx, .int .u64 (qx : Int), .string Tx, .slice Kx nx ex] 33)).alloc (.cells #[.int .i64 k, .bool by', .slice Ay ly.length cy, .int .u64 (qy : Int), .string Ty, .slice Ky ny ey] 33)) X → X.cell? ⟨w.heap.size, 0, none⟩ = some (.int .i64 k) ∧ X.cell? ⟨w.heap.size, 1, none⟩ = some (.bool bx) ∧ X.cell? ⟨w.heap.size, 2, none⟩ = some (.slice Ax lx.length cx) ∧ X.cell? ⟨w.heap.size, 3, none⟩ = some (.int .u64 (qx : Int)) ∧ X.cell? ⟨w.heap.size, 4, none⟩ = some (.string Tx) ∧ X.cell? ⟨w.heap.size, 5, none⟩ = some (.slice Kx nx ex) ∧ X.cell? ⟨w.heap.size + 1, 0, none⟩ = some (.int .i64 k) ∧ X.cell? ⟨w.heap.size + 1, 1, none⟩ = some (.bool by') ∧ X.cell? ⟨w.heap.size + 1, 2, none⟩ = some (.slice Ay ly.length cy) ∧ X.cell? ⟨w.heap.size + 1, 3, none⟩ = some (.int .u64 (qy : Int)) ∧ X.cell? ⟨w.heap.size + 1, 4, none⟩ = some (.string Ty) ∧ X.cell? ⟨w.heap.size + 1, 5, none⟩ = some (.slice Ky ny ey)) := Lib.hid fun X hX => ⟨(hbx.below hX).cell 0, (hbx.below hX).cell 1, (hbx.below hX).cell 2, (hbx.below hX).cell 3, (hbx.below hX).cell 4, (hbx.below hX).cell 5, (hby.below hX).cell 0, (hby.below hX).cell 1, (hby.below hX).cell 2, (hby.below hX).cell 3, (hby.below hX).cell 4, (hby.below hX).cell 5⟩
  have HK0 := Lib.hid hk0
  have e0 : ((nx : Int) != (ny : Int)) = true := by simp; omega
  have H0 := Lib.hid h0
  clear h0 hne
  clear hk0 hbx hby
  go_enter Tryz.func38, Tryz.ntmps38
  go_wp2_with fail
  generalize ((w.alloc (.cells #[.int .i64 k, .bool bx, .slice Ax lx.length cx, .int .u64 (qx : Int), .string Tx, .slice Kx nx ex] 33)).alloc (.cells #[.int .i64 k, .bool by', .slice Ay ly.length cy, .int .u64 (qy : Int), .string Ty, .slice Ky ny ey] 33)) = W at *
  refine (number_any k _ bx Ax Kx lx.length cx nx ex Tx _).mono ?_
  rintro e w1 ⟨⟨r1, rfl, hr1⟩, hk1⟩
  have HK1 := Lib.hid hk1
  have e1 : r1 = false := by
    cases r1
    · rfl
    · exact absurd (hr1.1 rfl) (by exact H0.out)
  subst e1
  obtain ⟨x0, x1, x2, x3, x4, x5, y0, y1, y2, y3, y4, y5⟩ := CELLS.out _ HK1.out
  clear hr1 hk1
  go_wp2_with fail
  go_ret
  exact ⟨⟨_, rfl⟩, HK0.out.trans HK1.out⟩
set_option maxRecDepth 100000 in
set_option maxHeartbeats 2000000 in
/-- nothing -/
theorem Equal_none (bx by' : Bool) (Ax Ay Kx Ky : Option Addr) (lx ly : List Nat) (cx cy qx qy nx ex ey : Nat) (Tx Ty : ByteArray) (w : World) :
    Calls Tryz.prog 38 #[.agg #[.int .i64 0, .bool bx, .slice Ax lx.length cx, .int .u64 (qx : Int), .string Tx, .slice Kx nx ex], .agg #[.int .i64 0, .bool by', .slice Ay ly.length cy, .int .u64 (qy : Int), .string Ty, .slice Ky nx ey]] w fun e w' => AnsB e ∧ Kept w w' := by
  obtain ⟨hk0, hbx, hby⟩ := two_boxes w #[.int .i64 0, .bool bx, .slice Ax lx.length cx, .int .u64 (qx : Int), .string Tx, .slice Kx nx ex] #[.int .i64 0, .bool by', .slice Ay ly.length cy, .int .u64 (qy : Int), .string Ty, .slice Ky nx ey] 33 33
  have CELLS : Hid (∀ X, Kept ((w.alloc (.cells #[.int .i64 0, .bool bx, .slice Ax lx.length cx, .int .u64 (qx : Int), .string Tx, .slice Kx nx ex] 33)).alloc (.cells #[.int .i64 0, .bool by', .slice Ay ly.length cy, .int .u64 (qy : Int), .string Ty, .slice Ky nx ey] 33)) X → X.cell? ⟨w.heap.size, 0, none⟩ = some (.int .i64 0) ∧ X.cell? ⟨w.heap.size, 1, none⟩ = some (.bool bx) ∧ X.cell? ⟨w.heap.size, 2, none⟩ = some (.slice Ax lx.length cx) ∧ X.cell? ⟨w.heap.size, 3, none⟩ = some (.int .u64 (qx : Int)) ∧ X.cell? ⟨w.heap.size, 4, none⟩ = some (.string Tx) ∧ X.cell? ⟨w.heap.size, 5, none⟩ = some (.slice Kx nx ex) ∧ X.cell? ⟨w.heap.size + 1, 0, none⟩ = some (.int .i64 0) ∧ X.cell? ⟨w.heap.size + 1, 1, none⟩ = some (.bool by') ∧ X.cell? ⟨w.heap.size + 1, 2, none⟩ = some (.slice Ay ly.length cy) ∧ X.cell? ⟨w.heap.size + 1, 3, none⟩ = some (.int .u64 (qy : Int)) ∧ X.cell? ⟨w.heap.size + 1, 4, none⟩ = some (.string Ty) ∧ X.cell? ⟨w.heap.size + 1, 5, none⟩ = some (.slice Ky nx ey)) := Lib.hid fun X hX => ⟨(hbx.below hX).cell 0, (hbx.below hX).cell 1, (hbx.below hX).cell 2, (hbx.below hX).cell 3, (hbx.below hX).cell 4, (hbx.below hX).cell 5, (hby.below hX).cell 0, (hby.below hX).cell 1, (hby.below hX).cell 2, (hby.below hX).cell 3, (hby.below hX).cell 4, (hby.below hX).cell 5⟩
  have HK0 := Lib.hid hk0
  clear hk0 hbx hby
  go_enter Tryz.func38, Tryz.ntmps38
  go_wp2_with fail
  generalize ((w.alloc (.cells #[.int .i64 0, .bool bx, .slice Ax lx.length cx, .int .u64 (qx : Int), .string Tx, .slice Kx nx ex] 33)).alloc (.cells #[.int .i64 0, .bool by', .slice Ay ly.length cy, .int .u64 (qy : Int), .string Ty, .slice Ky nx ey] 33)) = W at *
  refine (number_any 0 _ bx Ax Kx lx.length cx nx ex Tx _).mono ?_
  rintro e w1 ⟨⟨r1, rfl, hr1⟩, hk1⟩
  have HK1 := Lib.hid hk1
  have e1 : r1 = false := by
    cases r1
    · rfl
    · exact absurd (hr1.1 rfl) (by omega)
  subst e1
  obtain ⟨x0, x1, x2, x3, x4, x5, y0, y1, y2, y3, y4, y5⟩ := CELLS.out _ HK1.out
  clear hr1 hk1
  go_wp2_with fail
  go_ret
  exact ⟨⟨_, rfl⟩, HK0.out.trans HK1.out⟩
set_option maxRecDepth 100000 in
set_option maxHeartbeats 2000000 in
/-- two truths -/
theorem Equal_bool (bx by' : Bool) (Ax Ay Kx Ky : Option Addr) (lx ly : List Nat) (cx cy qx qy nx ex ey : Nat) (Tx Ty : ByteArray) (w : World) :
    Calls Tryz.prog 38 #[.agg #[.int .i64 1, .bool bx, .slice Ax lx.length cx, .int .u64 (qx : Int), .string Tx, .slice Kx nx ex], .agg #[.int .i64 1, .bool by', .slice Ay ly.length cy, .int .u64 (qy : Int), .string Ty, .slice Ky nx ey]] w fun e w' => AnsB e ∧ Kept w w' := by
  obtain ⟨hk0, hbx, hby⟩ := two_boxes w #[.int .i64 1, .bool bx, .slice Ax lx.length cx, .int .u64 (qx : Int), .string Tx, .slice Kx nx ex] #[.int .i64 1, .bool by', .slice Ay ly.length cy, .int .u64 (qy : Int), .string Ty, .slice Ky nx ey] 33 33
  have CELLS : Hid (∀ X, Kept ((w.alloc (.cells #[.int .i64 1, .bool bx, .slice Ax lx.length cx, .int .u64 (qx : Int), .string Tx, .slice Kx nx ex] 33)).alloc (.cells #[.int .i64 1, .bool by', .slice Ay ly.length cy, .int .u64 (qy : Int), .string Ty, .slice Ky nx ey] 33)) X → X.cell? ⟨w.heap.size, 0, none⟩ = some (.int .i64 1) ∧ X.cell? ⟨w.heap.size, 1, none⟩ = some (.bool bx) ∧ X.cell? ⟨w.heap.size, 2, none⟩ = some (.slice Ax lx.length cx) ∧ X.cell? ⟨w.heap.size, 3, none⟩ = some (.int .u64 (qx : Int)) ∧ X.cell? ⟨w.heap.size, 4, none⟩ = some (.string Tx) ∧ X.cell? ⟨w.heap.size, 5, none⟩ = some (.slice Kx nx ex) ∧ X.cell? ⟨w.heap.size + 1, 0, none⟩ = some (.int .i64 1) ∧ X.cell? ⟨w.heap.size + 1, 1, none⟩ = some (.bool by') ∧ X.cell? ⟨w.heap.size + 1, 2, none⟩ = some (.slice Ay ly.length cy) ∧ X.cell? ⟨w.heap.size + 1, 3, none⟩ = some (.int .u64 (qy : Int)) ∧ X.cell? ⟨w.heap.size + 1, 4, none⟩ = some (.string Ty) ∧ X.cell? ⟨w.heap.size + 1, 5, none⟩ = some (.slice Ky nx ey)) := Lib.hid fun X hX => ⟨(hbx.below hX).cell 0, (hbx.below hX).cell 1, (hbx.below hX).cell 2, (hbx.below hX).cell 3, (hbx.below hX).cell 4, (hbx.below hX).cell 5, (hby.below hX).cell 0, (hby.below hX).cell 1, (hby.below hX).cell 2, (hby.below hX).cell 3, (hby.below hX).cell 4, (hby.below hX).cell 5⟩
  have HK0 := Lib.hid hk0
  clear hk0 hbx hby
  go_enter Tryz.func38, Tryz.ntmps38
  go_wp2_with fail
  generalize ((w.alloc (.cells #[.int .i64 1, .bool bx, .slice Ax lx.length cx, .int .u64 (qx : Int), .string Tx, .slice Kx nx ex] 33)).alloc (.cells #[.int .i64 1, .bool by', .slice Ay ly.length cy, .int .u64 (qy : Int), .string Ty, .slice Ky nx ey] 33)) = W at *
  refine (number_any 1 _ bx Ax Kx lx.length cx nx ex Tx _).mono ?_
  rintro e w1 ⟨⟨r1, rfl, hr1⟩, hk1⟩
  have HK1 := Lib.hid hk1
  have e1 : r1 = false := by
    cases r1
    · rfl
    · exact absurd (hr1.1 rfl) (by omega)
  subst e1
  obtain ⟨x0, x1, x2, x3, x4, x5, y0, y1, y2, y3, y4, y5⟩ := CELLS.out _ HK1.out
  clear hr1 hk1
  go_wp2_with fail
  go_ret
  exact ⟨⟨_, rfl⟩, HK0.out.trans HK1.out⟩
set_option maxRecDepth 100000 in
set_option maxHeartbeats 2000000 in
/-- two sets -/
theorem Equal_set (F G : Nat → Prop) (d : Nat) (hW : WiP d) (bx by' : Bool) (Ax Ay Kx Ky : Option Addr) (lx ly : List Nat) (cx cy qx qy nx ex ey : Nat) (Tx Ty : ByteArray) (w : World) (hx : OG F w d 9 (.agg #[.int .i64 9, .bool bx, .slice Ax lx.length cx, .int .u64 (qx : Int), .string Tx, .slice Kx nx ex])) (hy : OG G w d 9 (.agg #[.int .i64 9, .bool by', .slice Ay ly.length cy, .int .u64 (qy : Int), .string Ty, .slice Ky nx ey])) :
    Calls Tryz.prog 38 #[.agg #[.int .i64 9, .bool bx, .slice Ax lx.length cx, .int .u64 (qx : Int), .string Tx, .slice Kx nx ex], .agg #[.int .i64 9, .bool by', .slice Ay ly.length cy, .int .u64 (qy : Int), .string Ty, .slice Ky nx ey]] w fun e w' => AnsB e ∧ Kept w w' := by
  obtain ⟨hk0, hbx, hby⟩ := two_boxes w #[.int .i64 9, .bool bx, .slice Ax lx.length cx, .int .u64 (qx : Int), .string Tx, .slice Kx nx ex] #[.int .i64 9, .bool by', .slice Ay ly.length cy, .int .u64 (qy : Int), .string Ty, .slice Ky nx ey] 33 33
  have CELLS : Hid (∀ X, Kept ((w.alloc (.cells #[.int .i64 9, .bool bx, .slice Ax lx.length cx, .int .u64 (qx : Int), .string Tx, .slice Kx nx ex] 33)).alloc (.cells #[.int .i64 9, .bool by', .slice Ay ly.length cy, .int .u64 (qy : Int), .string Ty, .slice Ky nx ey] 33)) X → X.cell? ⟨w.heap.size, 0, none⟩ = some (.int .i64 9) ∧ X.cell? ⟨w.heap.size, 1, none⟩ = some (.bool bx) ∧ X.cell? ⟨w.heap.size, 2, none⟩ = some (.slice Ax lx.length cx) ∧ X.cell? ⟨w.heap.size, 3, none⟩ = some (.int .u64 (qx : Int)) ∧ X.cell? ⟨w.heap.size, 4, none⟩ = some (.string Tx) ∧ X.cell? ⟨w.heap.size, 5, none⟩ = some (.slice Kx nx ex) ∧ X.cell? ⟨w.heap.size + 1, 0, none⟩ = some (.int .i64 9) ∧ X.cell? ⟨w.heap.size + 1, 1, none⟩ = some (.bool by') ∧ X.cell? ⟨w.heap.size + 1, 2, none⟩ = some (.slice Ay ly.length cy) ∧ X.cell? ⟨w.heap.size + 1, 3, none⟩ = some (.int .u64 (qy : Int)) ∧ X.cell? ⟨w.heap.size + 1, 4, none⟩ = some (.string Ty) ∧ X.cell? ⟨w.heap.size + 1, 5, none⟩ = some (.slice Ky nx ey)) := Lib.hid fun X hX => ⟨(hbx.below hX).cell 0, (hbx.below hX).cell 1, (hbx.below hX).cell 2, (hbx.below hX).cell 3, (hbx.below hX).cell 4, (hbx.below hX).cell 5, (hby.below hX).cell 0, (hby.below hX).cell 1, (hby.below hX).cell 2, (hby.below hX).cell 3, (hby.below hX).cell 4, (hby.below hX).cell 5⟩
  have HK0 := Lib.hid hk0
  have HX := Lib.hid (hx.below hk0)
  have HY := Lib.hid (hy.below hk0)
  have HW := Lib.hid hW
  clear hx hy hW
  clear hk0 hbx hby
  go_enter Tryz.func38, Tryz.ntmps38
  go_wp2_with fail
  generalize ((w.alloc (.cells #[.int .i64 9, .bool bx, .slice Ax lx.length cx, .int .u64 (qx : Int), .string Tx, .slice Kx nx ex] 33)).alloc (.cells #[.int .i64 9, .bool by', .slice Ay ly.length cy, .int .u64 (qy : Int), .string Ty, .slice Ky nx ey] 33)) = W at *
  refine (number_any 9 _ bx Ax Kx lx.length cx nx ex Tx _).mono ?_
  rintro e w1 ⟨⟨r1, rfl, hr1⟩, hk1⟩
  have HK1 := Lib.hid hk1
  have e1 : r1 = false := by
    cases r1
    · rfl
    · exact absurd (hr1.1 rfl) (by omega)
  subst e1
  obtain ⟨x0, x1, x2, x3, x4, x5, y0, y1, y2, y3, y4, y5⟩ := CELLS.out _ HK1.out
  clear hr1 hk1
  go_wp2_with fail
  refine (HW.out F G 9 9 _ _ _ (HX.out.below HK1.out) (HY.out.below HK1.out)).mono ?_
  rintro e w3 ⟨⟨r3, rfl⟩, hk3⟩
  have HK3 := Lib.hid (HK1.out.trans hk3)
  clear hk3
  go_wp2_with fail
  go_ret
  exact ⟨⟨_, rfl⟩, HK0.out.trans HK3.out⟩
set_option maxRecDepth 100000 in
set_option maxHeartbeats 2000000 in
/-- two lists, tuples or texts -/
theorem Equal_list (F G : Nat → Prop) (d : Nat) (hE : ∀ d', d = d' + 1 → EqP d') (k : Int) (h4 : 4 ≤ k) (h7 : k ≤ 7) (bx by' : Bool) (Ax Ay Kx Ky : Option Addr) (lx ly : List Nat) (cx cy qx qy nx ex ey : Nat) (Tx Ty : ByteArray) (w : World) (hn : nx ≤ 16) (hx : KG F w d Kx nx ex) (hy : KG G w d Ky nx ey) :
    Calls Tryz.prog 38 #[.agg #[.int .i64 k, .bool bx, .slice Ax lx.length cx, .int .u64 (qx : Int), .string Tx, .slice Kx nx ex], .agg #[.int .i64 k, .bool by', .slice Ay ly.length cy, .int .u64 (qy : Int), .string Ty, .slice Ky nx ey]] w fun e w' => AnsB e ∧ Kept w w' := by
  obtain ⟨hk0, hbx, hby⟩ := two_boxes w #[.int .i64 k, .bool bx, .slice Ax lx.length cx, .int .u64 (qx : Int), .string Tx, .slice Kx nx ex] #[.int .i64 k, .bool by', .slice Ay ly.length cy, .int .u64 (qy : Int), .string Ty, .slice Ky nx ey] 33 33
  have CELLS : Hid (∀ X, Kept ((w.alloc (.cells #[.int .i64 k, .bool bx, .slice Ax lx.length cx, .int .u64 (qx : Int), .string Tx, .slice Kx nx ex] 33)).alloc (.cells #[.int .i64 k, .bool by', .slice Ay ly.length cy, .int .u64 (qy : Int), .string Ty, .slice Ky nx ey] 33)) X → X.cell? ⟨w.heap.size, 0, none⟩ = some (.int .i64 k) ∧ X.cell? ⟨w.heap.size, 1, none⟩ = some (.bool bx) ∧ X.cell? ⟨w.heap.size, 2, none⟩ = some (.slice Ax lx.length cx) ∧ X.cell? ⟨w.heap.size, 3, none⟩ = some (.int .u64 (qx : Int)) ∧ X.cell? ⟨w.heap.size, 4, none⟩ = some (.string Tx) ∧ X.cell? ⟨w.heap.size, 5, none⟩ = some (.slice Kx nx ex) ∧ X.cell? ⟨w.heap.size + 1, 0, none⟩ = some (.int .i64 k) ∧ X.cell? ⟨w.heap.size + 1, 1, none⟩ = some (.bool by') ∧ X.cell? ⟨w.heap.size + 1, 2, none⟩ = some (.slice Ay ly.length cy) ∧ X.cell? ⟨w.heap.size + 1, 3, none⟩ = some (.int .u64 (qy : Int)) ∧ X.cell? ⟨w.heap.size + 1, 4, none⟩ = some (.string Ty) ∧ X.cell? ⟨w.heap.size + 1, 5, none⟩ = some (.slice Ky nx ey)) := Lib.hid fun X hX => ⟨(hbx.below hX).cell 0, (hbx.below hX).cell 1, (hbx.below hX).cell 2, (hbx.below hX).cell 3, (hbx.below hX).cell 4, (hbx.below hX).cell 5, (hby.below hX).cell 0, (hby.below hX).cell 1, (hby.below hX).cell 2, (hby.below hX).cell 3, (hby.below hX).cell 4, (hby.below hX).cell 5⟩
  have HK0 := Lib.hid hk0
  have HX := Lib.hid (hx.below hk0)
  have HY := Lib.hid (hy.below hk0)
  have HE := Lib.hid hE
  have n0 : (k == 0) = false := by simp; omega
  have n1 : (k == 1) = false := by simp; omega
  have n8 : (k == 8) = false := by simp; omega
  have n9 : (k == 9) = false := by simp; omega
  have H4 := Lib.hid (And.intro h4 h7)
  have hnI : (nx : Int) ≤ 16 := by omega
  clear hx hy hE h4 h7
  clear hk0 hbx hby
  go_enter Tryz.func38, Tryz.ntmps38
  go_wp2_with fail
  generalize ((w.alloc (.cells #[.int .i64 k, .bool bx, .slice Ax lx.length cx, .int .u64 (qx : Int), .string Tx, .slice Kx nx ex] 33)).alloc (.cells #[.int .i64 k, .bool by', .slice Ay ly.length cy, .int .u64 (qy : Int), .string Ty, .slice Ky nx ey] 33)) = W at *
  refine (number_any k _ bx Ax Kx lx.length cx nx ex Tx _).mono ?_
  rintro e w1 ⟨⟨r1, rfl, hr1⟩, hk1⟩
  have HK1 := Lib.hid hk1
  have e1 : r1 = false := by
    cases r1
    · rfl
    · exact absurd (hr1.1 rfl) (by have := H4.out; omega)
  subst e1
  obtain ⟨x0, x1, x2, x3, x4, x5, y0, y1, y2, y3, y4, y5⟩ := CELLS.out _ HK1.out
  clear hr1 hk1
  go_wp2_with fail
  clear x0 x1 x2 x3 x4 x5 y0 y1 y2 y3 y4 y5
  go_loopw [7] (fun iv wr => ∃ i : Nat, iv = .int .i64 (i : Int) ∧ i ≤ 17 ∧ Kept W wr) (fun iv _ => 20 - (intOf iv).toNat)
  case atStart => exact ⟨0, rfl, by omega, HK1.out⟩
  case round =>
    obtain ⟨i, rfl, hi, hkW⟩ := hrel
    have HKW := Lib.hid hkW
    have i0 : (0 : Int) ≤ (i : Int) := by omega
    by_cases hlt : i < nx
    · obtain ⟨d', g, k', v', ed, rfl, ha, ho⟩ := (HX.out.below HKW.out).get hlt
      obtain ⟨d2, g2, k2, v2, ed2, rfl, ha2, ho2⟩ := (HY.out.below HKW.out).get hlt
      obtain rfl : d' = d2 := by omega
      obtain ⟨u0, u1, u2, u3, u4, u5, rfl, HAT⟩ := ha.open
      obtain ⟨t0, t1, t2, t3, t4, t5, rfl, HAT2⟩ := ha2.open
      have HO := Lib.hid ho
      have HO2 := Lib.hid ho2
      have HED := Lib.hid ed
      have i1 : (i : Int) < (nx : Int) := by omega
      have HLT := Lib.hid hlt
      have C5 : Hid (∀ X, Kept wr X → X.cell? ⟨w.heap.size, 5, none⟩ = some (.slice (some ⟨g, 0, none⟩) nx ex) ∧ X.cell? ⟨w.heap.size + 1, 5, none⟩ = some (.slice (some ⟨g2, 0, none⟩) nx ey)) := Lib.hid fun X hX => by
        obtain ⟨_, _, _, _, _, x5, _, _, _, _, _, y5⟩ := CELLS.out X (HKW.out.trans hX)
        exact ⟨x5, y5⟩
      have x5 := (C5.out wr (Below.refl _ _)).1
      clear ha ho ha2 ho2 hkW hlt ed ed2
      go_wp2_with fail
      refine wp_region_held_drew (S := (fun X : World => Kept wr X)) (by kernel_rfl) (by go_grown) (fun hHeld => ?_)
      refine wpAnyH_take (i := 0) (oi := ?o0x0) (v := ?v0x0) ?hi0x0 (by kernel_rfl) (by kernel_rfl) (by kernel_rfl) ?hQ0x0 ?hy0x0 (by assumption) ?rest0x0
      case hi0x0 => (simp only [List.getElem?_toArray, List.getElem?_cons_zero]; rfl)
      case hQ0x0 => exact fun _ _ _ h => h
      case hy0x0 => (refine Or.inl ⟨by rfl, ?_⟩; intro W hSw; (try dsimp only at hSw); go_simp; (try with_reducible rfl))
      try simp only [Act.put, List.setIfInBounds_toArray, List.set_cons_zero, List.set_cons_succ]
      refine wpAnyH_take (i := 1) (oi := ?o1x1) (v := ?v1x1) ?hi1x1 (by kernel_rfl) (by kernel_rfl) (by kernel_rfl) ?hQ1x1 ?hy1x1 (by assumption) ?rest1x1
      case hi1x1 => (simp only [List.getElem?_toArray, List.getElem?_cons_succ, List.getElem?_cons_zero]; rfl)
      case hQ1x1 => exact fun _ _ _ h => h
      case hy1x1 => (refine Or.inl ⟨by rfl, ?_⟩; intro W hSw; (try dsimp only at hSw); obtain ⟨x5, y5⟩ := C5.out _ hSw; go_simp; (try with_reducible rfl))
      try simp only [Act.put, List.setIfInBounds_toArray, List.set_cons_zero, List.set_cons_succ]
      refine wpAnyH_take (i := 2) (oi := ?o2x2) (v := ?v2x2) ?hi2x2 (by kernel_rfl) (by kernel_rfl) (by kernel_rfl) ?hQ2x2 ?hy2x2 (by assumption) ?rest2x2
      case hi2x2 => (simp only [List.getElem?_toArray, List.getElem?_cons_succ, List.getElem?_cons_zero]; rfl)
      case hQ2x2 => exact fun _ _ _ h => h
      case hy2x2 => (refine Or.inl ⟨by rfl, ?_⟩; intro W hSw; (try dsimp only at hSw); go_simp; (try with_reducible rfl))
      try simp only [Act.put, List.setIfInBounds_toArray, List.set_cons_zero, List.set_cons_succ]
      refine wpAnyH_take (i := 3) (oi := ?o3x3) (v := ?v3x3) ?hi3x3 (by kernel_rfl) (by kernel_rfl) (by kernel_rfl) ?hQ3x3 ?hy3x3 (by assumption) ?rest3x3
      case hi3x3 => (simp only [List.getElem?_toArray, List.getElem?_cons_succ, List.getElem?_cons_zero]; rfl)
      case hQ3x3 => exact fun _ _ _ h => h
      case hy3x3 => (refine Or.inl ⟨by rfl, ?_⟩; intro W hSw; (try dsimp only at hSw); go_simp; (try with_reducible rfl))
      try simp only [Act.put, List.setIfInBounds_toArray, List.set_cons_zero, List.set_cons_succ]
      refine wpAnyH_take (i := 4) (oi := ?o4x4) (v := ?v4x4) ?hi4x4 (by kernel_rfl) (by kernel_rfl) (by kernel_rfl) ?hQ4x4 ?hy4x4 (by assumption) ?rest4x4
      case hi4x4 => (simp only [List.getElem?_toArray, List.getElem?_cons_succ, List.getElem?_cons_zero]; rfl)
      case hQ4x4 => exact fun _ _ _ h => h
      case hy4x4 => (refine Or.inl ⟨by rfl, ?_⟩; intro W hSw; (try dsimp only at hSw); obtain ⟨a0, a1, a2, a3, a4, a5⟩ := HAT.out _ hSw; go_simp; (try with_reducible rfl))
      try simp only [Act.put, List.setIfInBounds_toArray, List.set_cons_zero, List.set_cons_succ]
      refine wpAnyH_take (i := 5) (oi := ?o5x5) (v := ?v5x5) ?hi5x5 (by kernel_rfl) (by kernel_rfl) (by kernel_rfl) ?hQ5x5 ?hy5x5 (by assumption) ?rest5x5
      case hi5x5 => (simp only [List.getElem?_toArray, List.getElem?_cons_succ, List.getElem?_cons_zero]; rfl)
      case hQ5x5 => exact fun _ _ _ h => h
      case hy5x5 => (refine Or.inl ⟨by rfl, ?_⟩; intro W hSw; (try dsimp only at hSw); go_simp; (try with_reducible rfl))
      try simp only [Act.put, List.setIfInBounds_toArray, List.set_cons_zero, List.set_cons_succ]
      refine wpAnyH_take (i := 6) (oi := ?o6x6) (v := ?v6x6) ?hi6x6 (by kernel_rfl) (by kernel_rfl) (by kernel_rfl) ?hQ6x6 ?hy6x6 (by assumption) ?rest6x6
      case hi6x6 => (simp only [List.getElem?_toArray, List.getElem?_cons_succ, List.getElem?_cons_zero]; rfl)
      case hQ6x6 => exact fun _ _ _ h => h
      case hy6x6 => (refine Or.inl ⟨by rfl, ?_⟩; intro W hSw; (try dsimp only at hSw); obtain ⟨x5, y5⟩ := C5.out _ hSw; go_simp; (try with_reducible rfl))
      try simp only [Act.put, List.setIfInBounds_toArray, List.set_cons_zero, List.set_cons_succ]
      refine wpAnyH_take (i := 7) (oi := ?o7x7) (v := ?v7x7) ?hi7x7 (by kernel_rfl) (by kernel_rfl) (by kernel_rfl) ?hQ7x7 ?hy7x7 (by assumption) ?rest7x7
      case hi7x7 => (simp only [List.getElem?_toArray, List.getElem?_cons_succ, List.getElem?_cons_zero]; rfl)
      case hQ7x7 => exact fun _ _ _ h => h
      case hy7x7 => (refine Or.inl ⟨by rfl, ?_⟩; intro W hSw; (try dsimp only at hSw); go_simp; (try with_reducible rfl))
      try simp only [Act.put, List.setIfInBounds_toArray, List.set_cons_zero, List.set_cons_succ]
      refine wpAnyH_take (i := 8) (oi := ?o8x8) (v := ?v8x8) ?hi8x8 (by kernel_rfl) (by kernel_rfl) (by kernel_rfl) ?hQ8x8 ?hy8x8 (by assumption) ?rest8x8
      case hi8x8 => (simp only [List.getElem?_toArray, List.getElem?_cons_succ, List.getElem?_cons_zero]; rfl)
      case hQ8x8 => exact fun _ _ _ h => h
      case hy8x8 => (refine Or.inl ⟨by rfl, ?_⟩; intro W hSw; (try dsimp only at hSw); go_simp; (try with_reducible rfl))
      try simp only [Act.put, List.setIfInBounds_toArray, List.set_cons_zero, List.set_cons_succ]
      refine wpAnyH_take (i := 9) (oi := ?o9x9) (v := ?v9x9) ?hi9x9 (by kernel_rfl) (by kernel_rfl) (by kernel_rfl) ?hQ9x9 ?hy9x9 (by assumption) ?rest9x9
      case hi9x9 => (simp only [List.getElem?_toArray, List.getElem?_cons_succ, List.getElem?_cons_zero]; rfl)
      case hQ9x9 => exact fun _ _ _ h => h
      case hy9x9 => (refine Or.inl ⟨by rfl, ?_⟩; intro W hSw; (try dsimp only at hSw); obtain ⟨a0, a1, a2, a3, a4, a5⟩ := HAT2.out _ hSw; go_simp; (try with_reducible rfl))
      try simp only [Act.put, List.setIfInBounds_toArray, List.set_cons_zero, List.set_cons_succ]
      refine wpAnyH_ready (rs := [10]) (by kernel_rfl) (by simp) ?_
      refine (AllReadyH.cons rfl (fun K hK => ?_) AllReadyH.nil)
      go_simp
      (with_reducible refine Calls.mono (HE.out d' HED.out _ _ _ _ _ _ _ (HO.out.below (by go_grown)) (HO2.out.below (by go_grown))) ?_)
      rintro e w3 ⟨⟨b3, rfl⟩, hk3⟩
      have hk3a : Kept wr w3 := ⟨hk3.os, hk3.tape, hk3.output, hk3.size, hk3.block⟩
      have HK3 := Lib.hid (HKW.out.trans hk3a)
      have HKW := Lib.hid hk3a
      clear hk3 hk3a
      refine hK.out _ _ ?_ (fun hHeld => ?_)
      · (exact HKW.out)
      clear hK K
      try simp only [Act.put, List.setIfInBounds_toArray, List.set_cons_zero, List.set_cons_succ]
      refine wpAnyH_take (i := 11) (oi := ?o11x10) (v := ?v11x10) ?hi11x10 (by kernel_rfl) (by kernel_rfl) (by kernel_rfl) ?hQ11x10 ?hy11x10 (by assumption) ?rest11x10
      case hi11x10 => (simp only [List.getElem?_toArray, List.getElem?_cons_succ, List.getElem?_cons_zero]; rfl)
      case hQ11x10 => exact fun _ _ _ h => h
      case hy11x10 => (refine Or.inl ⟨by rfl, ?_⟩; intro W hSw; (try dsimp only at hSw); go_simp; (try with_reducible rfl))
      try simp only [Act.put, List.setIfInBounds_toArray, List.set_cons_zero, List.set_cons_succ]
      refine wpAnyH_done (by kernel_rfl) ?_ _
      cases b3
      · go_wp2_with fail
        go_ret
        exact ⟨⟨_, rfl⟩, HK0.out.trans HK3.out⟩
      · go_wp2_with fail
        exact ⟨⟨i + 1, by go_num, by have := HLT.out; omega, HK3.out⟩, by have := HLT.out; simp [intOf]; omega⟩
    · have i1 : ¬ (i : Int) < (nx : Int) := by omega
      obtain ⟨_, _, _, _, x4, x5, _, _, _, _, y4, _⟩ := CELLS.out wr HKW.out
      clear hlt hkW
      go_wp2_with fail
      go_ret
      exact ⟨⟨_, rfl⟩, HK0.out.trans HKW.out⟩
set_option maxRecDepth 100000 in
set_option maxHeartbeats 2000000 in
/-- two dicts -/
theorem Equal_dict (F G : Nat → Prop) (d : Nat) (hE : ∀ d', d = d' + 1 → EqP d') (bx by' : Bool) (Ax Ay Kx Ky : Option Addr) (lx ly : List Nat) (cx cy qx qy nx ex ey : Nat) (Tx Ty : ByteArray) (w : World) (hn : nx ≤ 16) (hev : nx % 2 = 0) (hx : KG F w d Kx nx ex) (hy : KG G w d Ky nx ey) :
    Calls Tryz.prog 38 #[.agg #[.int .i64 8, .bool bx, .slice Ax lx.length cx, .int .u64 (qx : Int), .string Tx, .slice Kx nx ex], .agg #[.int .i64 8, .bool by', .slice Ay ly.length cy, .int .u64 (qy : Int), .string Ty, .slice Ky nx ey]] w fun e w' => AnsB e ∧ Kept w w' := by
  obtain ⟨hk0, hbx, hby⟩ := two_boxes w #[.int .i64 8, .bool bx, .slice Ax lx.length cx, .int .u64 (qx : Int), .string Tx, .slice Kx nx ex] #[.int .i64 8, .bool by', .slice Ay ly.length cy, .int .u64 (qy : Int), .string Ty, .slice Ky nx ey] 33 33
  have CELLS : Hid (∀ X, Kept ((w.alloc (.cells #[.int .i64 8, .bool bx, .slice Ax lx.length cx, .int .u64 (qx : Int), .string Tx, .slice Kx nx ex] 33)).alloc (.cells #[.int .i64 8, .bool by', .slice Ay ly.length cy, .int .u64 (qy : Int), .string Ty, .slice Ky nx ey] 33)) X → X.cell? ⟨w.heap.size, 0, none⟩ = some (.int .i64 8) ∧ X.cell? ⟨w.heap.size, 1, none⟩ = some (.bool bx) ∧ X.cell? ⟨w.heap.size, 2, none⟩ = some (.slice Ax lx.length cx) ∧ X.cell? ⟨w.heap.size, 3, none⟩ = some (.int .u64 (qx : Int)) ∧ X.cell? ⟨w.heap.size, 4, none⟩ = some (.string Tx) ∧ X.cell? ⟨w.heap.size, 5, none⟩ = some (.slice Kx nx ex) ∧ X.cell? ⟨w.heap.size + 1, 0, none⟩ = some (.int .i64 8) ∧ X.cell? ⟨w.heap.size + 1, 1, none⟩ = some (.bool by') ∧ X.cell? ⟨w.heap.size + 1, 2, none⟩ = some (.slice Ay ly.length cy) ∧ X.cell? ⟨w.heap.size + 1, 3, none⟩ = some (.int .u64 (qy : Int)) ∧ X.cell? ⟨w.heap.size + 1, 4, none⟩ = some (.string Ty) ∧ X.cell? ⟨w.heap.size + 1, 5, none⟩ = some (.slice Ky nx ey)) := Lib.hid fun X hX => ⟨(hbx.below hX).cell 0, (hbx.below hX).cell 1, (hbx.below hX).cell 2, (hbx.below hX).cell 3, (hbx.below hX).cell 4, (hbx.below hX).cell 5, (hby.below hX).cell 0, (hby.below hX).cell 1, (hby.below hX).cell 2, (hby.below hX).cell 3, (hby.below hX).cell 4, (hby.below hX).cell 5⟩
  have HK0 := Lib.hid hk0
  have HX := Lib.hid (hx.below hk0)
  have HY := Lib.hid (hy.below hk0)
  have HE := Lib.hid hE
  have HN := Lib.hid (And.intro hn hev)
  have hnI : (nx : Int) ≤ 16 := by omega
  clear hx hy hE
  clear hk0 hbx hby
  go_enter Tryz.func38, Tryz.ntmps38
  go_wp2_with fail
  generalize ((w.alloc (.cells #[.int .i64 8, .bool bx, .slice Ax lx.length cx, .int .u64 (qx : Int), .string Tx, .slice Kx nx ex] 33)).alloc (.cells #[.int .i64 8, .bool by', .slice Ay ly.length cy, .int .u64 (qy : Int), .string Ty, .slice Ky nx ey] 33)) = W at *
  refine (number_any 8 _ bx Ax Kx lx.length cx nx ex Tx _).mono ?_
  rintro e w1 ⟨⟨r1, rfl, hr1⟩, hk1⟩
  have HK1 := Lib.hid hk1
  have e1 : r1 = false := by
    cases r1
    · rfl
    · exact absurd (hr1.1 rfl) (by omega)
  subst e1
  obtain ⟨x0, x1, x2, x3, x4, x5, y0, y1, y2, y3, y4, y5⟩ := CELLS.out _ HK1.out
  clear hr1 hk1
  go_wp2_with fail
  clear x0 x1 x2 x3 x4 x5 y0 y1 y2 y3 y4 y5
  go_loopw [5] (fun iv wr => ∃ i : Nat, iv = .int .i64 (i : Int) ∧ i ≤ 17 ∧ i % 2 = 0 ∧ Kept W wr) (fun iv _ => 20 - (intOf iv).toNat)
  case atStart => exact ⟨0, rfl, by omega, rfl, HK1.out⟩
  case round =>
    obtain ⟨i, rfl, hi, hi2, hkW⟩ := hrel
    have HKW := Lib.hid hkW
    have i0 : (0 : Int) ≤ (i : Int) := by omega
    have i2 : (0 : Int) ≤ (i : Int) + 1 := by omega
    have iw : wrap64 ((i : Int) + 1) = (i : Int) + 1 := by unfold wrap64; omega
    have iw2 : IntKind.i64.wrap ((i : Int) + 1) = (i : Int) + 1 := by rw [IntKind.wrap_i64]; omega
    have HI2 := Lib.hid hi2
    by_cases hlt : i + 1 < nx
    · obtain ⟨d', g, k', v', ed, rfl, ha, ho⟩ := (HX.out.below HKW.out).get (show i < nx by omega)
      obtain ⟨d2, g2, k2, v2, ed2, eg2, ha2, ho2⟩ := (HX.out.below HKW.out).get hlt
      injection eg2 with eg2
      injection eg2 with eg2
      subst eg2
      obtain rfl : d' = d2 := by omega
      obtain ⟨u0, u1, u2, u3, u4, u5, rfl, HAT⟩ := ha.open
      obtain ⟨t0, t1, t2, t3, t4, t5, rfl, HAT2⟩ := ha2.open
      have HO2 := Lib.hid ho2
      have HED := Lib.hid ed
      have i1 : (i : Int) < (nx : Int) := by omega
      have i3 : (i : Int) + 1 < (nx : Int) := by omega
      have HLT := Lib.hid hlt
      have CF : Hid (∀ X, Kept wr X → Calls Tryz.prog 31 #[.slice Ky nx ey, .int .i64 2, .agg #[u0, u1, u2, u3, u4, u5]] X fun e w' => (∃ r : Int, e = .returned (.int .i64 r) ∧ (r = -1 ∨ ∃ j : Nat, r = (j : Int) ∧ j < nx ∧ (j : Int) % 2 = 0)) ∧ Kept X w') := Lib.hid fun X hX =>
        Find_of d' (HE.out d' HED.out) _ _ Ky nx ey 2 k' _ X (.inr rfl) (by have := (HY.out.below HKW.out).below hX; rwa [ed] at this) HN.out.1 (ho.below hX)
      have C5 : Hid (∀ X, Kept wr X → X.cell? ⟨w.heap.size, 5, none⟩ = some (.slice (some ⟨g, 0, none⟩) nx ex) ∧ X.cell? ⟨w.heap.size + 1, 5, none⟩ = some (.slice Ky nx ey)) := Lib.hid fun X hX => by
        obtain ⟨_, _, _, _, _, x5, _, _, _, _, _, y5⟩ := CELLS.out X (HKW.out.trans hX)
        exact ⟨x5, y5⟩
      have x5 := (C5.out wr (Below.refl _ _)).1
      clear ha ho ha2 ho2 hkW hlt ed ed2 hi2
      go_wp2_with fail
      refine wp_region_held_drew (S := (fun X : World => Kept wr X)) (by kernel_rfl) (by go_grown) (fun hHeld => ?_)
      refine wpAnyH_take (i := 0) (oi := ?o0x11) (v := ?v0x11) ?hi0x11 (by kernel_rfl) (by kernel_rfl) (by kernel_rfl) ?hQ0x11 ?hy0x11 (by assumption) ?rest0x11
      case hi0x11 => (simp only [List.getElem?_toArray, List.getElem?_cons_zero]; rfl)
      case hQ0x11 => exact fun _ _ _ h => h
      case hy0x11 => (refine Or.inl ⟨by rfl, ?_⟩; intro W hSw; (try dsimp only at hSw); go_simp; (try with_reducible rfl))
      try simp only [Act.put, List.setIfInBounds_toArray, List.set_cons_zero, List.set_cons_succ]
      refine wpAnyH_take (i := 1) (oi := ?o1x12) (v := ?v1x12) ?hi1x12 (by kernel_rfl) (by kernel_rfl) (by kernel_rfl) ?hQ1x12 ?hy1x12 (by assumption) ?rest1x12
      case hi1x12 => (simp only [List.getElem?_toArray, List.getElem?_cons_succ, List.getElem?_cons_zero]; rfl)
      case hQ1x12 => exact fun _ _ _ h => h
      case hy1x12 => (refine Or.inl ⟨by rfl, ?_⟩; intro W hSw; (try dsimp only at hSw); obtain ⟨x5, y5⟩ := C5.out _ hSw; go_simp; (try with_reducible rfl))
      try simp only [Act.put, List.setIfInBounds_toArray, List.set_cons_zero, List.set_cons_succ]
      refine wpAnyH_take (i := 2) (oi := ?o2x13) (v := ?v2x13) ?hi2x13 (by kernel_rfl) (by kernel_rfl) (by kernel_rfl) ?hQ2x13 ?hy2x13 (by assumption) ?rest2x13
      case hi2x13 => (simp only [List.getElem?_toArray, List.getElem?_cons_succ, List.getElem?_cons_zero]; rfl)
      case hQ2x13 => exact fun _ _ _ h => h
      case hy2x13 => (refine Or.inl ⟨by rfl, ?_⟩; intro W hSw; (try dsimp only at hSw); go_simp; (try with_reducible rfl))
      try simp only [Act.put, List.setIfInBounds_toArray, List.set_cons_zero, List.set_cons_succ]
      refine wpAnyH_take (i := 3) (oi := ?o3x14) (v := ?v3x14) ?hi3x14 (by kernel_rfl) (by kernel_rfl) (by kernel_rfl) ?hQ3x14 ?hy3x14 (by assumption) ?rest3x14
      case hi3x14 => (simp only [List.getElem?_toArray, List.getElem?_cons_succ, List.getElem?_cons_zero]; rfl)
      case hQ3x14 => exact fun _ _ _ h => h
      case hy3x14 => (refine Or.inl ⟨by rfl, ?_⟩; intro W hSw; (try dsimp only at hSw); obtain ⟨x5, y5⟩ := C5.out _ hSw; go_simp; (try with_reducible rfl))
      try simp only [Act.put, List.setIfInBounds_toArray, List.set_cons_zero, List.set_cons_succ]
      refine wpAnyH_take (i := 4) (oi := ?o4x15) (v := ?v4x15) ?hi4x15 (by kernel_rfl) (by kernel_rfl) (by kernel_rfl) ?hQ4x15 ?hy4x15 (by assumption) ?rest4x15
      case hi4x15 => (simp only [List.getElem?_toArray, List.getElem?_cons_succ, List.getElem?_cons_zero]; rfl)
      case hQ4x15 => exact fun _ _ _ h => h
      case hy4x15 => (refine Or.inl ⟨by rfl, ?_⟩; intro W hSw; (try dsimp only at hSw); go_simp; (try with_reducible rfl))
      try simp only [Act.put, List.setIfInBounds_toArray, List.set_cons_zero, List.set_cons_succ]
      refine wpAnyH_take (i := 5) (oi := ?o5x16) (v := ?v5x16) ?hi5x16 (by kernel_rfl) (by kernel_rfl) (by kernel_rfl) ?hQ5x16 ?hy5x16 (by assumption) ?rest5x16
      case hi5x16 => (simp only [List.getElem?_toArray, List.getElem?_cons_succ, List.getElem?_cons_zero]; rfl)
      case hQ5x16 => exact fun _ _ _ h => h
      case hy5x16 => (refine Or.inl ⟨by rfl, ?_⟩; intro W hSw; (try dsimp only at hSw); go_simp; (try with_reducible rfl))
      try simp only [Act.put, List.setIfInBounds_toArray, List.set_cons_zero, List.set_cons_succ]
      refine wpAnyH_take (i := 6) (oi := ?o6x17) (v := ?v6x17) ?hi6x17 (by kernel_rfl) (by kernel_rfl) (by kernel_rfl) ?hQ6x17 ?hy6x17 (by assumption) ?rest6x17
      case hi6x17 => (simp only [List.getElem?_toArray, List.getElem?_cons_succ, List.getElem?_cons_zero]; rfl)
      case hQ6x17 => exact fun _ _ _ h => h
      case hy6x17 => (refine Or.inl ⟨by rfl, ?_⟩; intro W hSw; (try dsimp only at hSw); obtain ⟨a0, a1, a2, a3, a4, a5⟩ := HAT.out _ hSw; go_simp; (try with_reducible rfl))
      try simp only [Act.put, List.setIfInBounds_toArray, List.set_cons_zero, List.set_cons_succ]
      refine wpAnyH_ready (rs := [7]) (by kernel_rfl) (by simp) ?_
      refine (AllReadyH.cons rfl (fun K hK => ?_) AllReadyH.nil)
      go_simp
      (with_reducible refine Calls.mono (CF.out _ (by go_grown)) ?_)
      rintro e w3 ⟨⟨r, rfl, hr⟩, hk3⟩
      have hk3a : Kept wr w3 := ⟨hk3.os, hk3.tape, hk3.output, hk3.size, hk3.block⟩
      have HK3 := Lib.hid (HKW.out.trans hk3a)
      have HW3 := Lib.hid hk3a
      have HKW := Lib.hid hk3a
      clear hk3 hk3a
      refine hK.out _ _ ?_ (fun hHeld => ?_)
      · (exact HKW.out)
      clear hK K
      try simp only [Act.put, List.setIfInBounds_toArray, List.set_cons_zero, List.set_cons_succ]
      refine wpAnyH_take (i := 8) (oi := ?o8x18) (v := ?v8x18) ?hi8x18 (by kernel_rfl) (by kernel_rfl) (by kernel_rfl) ?hQ8x18 ?hy8x18 (by assumption) ?rest8x18
      case hi8x18 => (simp only [List.getElem?_toArray, List.getElem?_cons_succ, List.getElem?_cons_zero]; rfl)
      case hQ8x18 => exact fun _ _ _ h => h
      case hy8x18 => (refine Or.inl ⟨by rfl, ?_⟩; intro W hSw; (try dsimp only at hSw); go_simp; (try with_reducible rfl))
      try simp only [Act.put, List.setIfInBounds_toArray, List.set_cons_zero, List.set_cons_succ]
      refine wpAnyH_done (by kernel_rfl) ?_ _
      rcases hr with rfl | ⟨j, rfl, hj, hj2⟩
      · go_wp2_with fail
        refine wp_region_held_drew (S := (fun X : World => Kept w3 X)) (by kernel_rfl) (by go_grown) (fun hHeld => ?_)
        refine wpAnyH_take (i := 0) (oi := ?o0x19) (v := ?v0x19) ?hi0x19 (by kernel_rfl) (by kernel_rfl) (by kernel_rfl) ?hQ0x19 ?hy0x19 (by assumption) ?rest0x19
        case hi0x19 => (simp only [List.getElem?_toArray, List.getElem?_cons_zero]; rfl)
        case hQ0x19 => exact fun _ _ _ h => h
        case hy0x19 => (refine Or.inl ⟨by rfl, ?_⟩; intro W hSw; (try dsimp only at hSw); go_simp; (try with_reducible rfl))
        try simp only [Act.put, List.setIfInBounds_toArray, List.set_cons_zero, List.set_cons_succ]
        refine wpAnyH_take (i := 1) (oi := ?o1x20) (v := ?v1x20) ?hi1x20 (by kernel_rfl) (by kernel_rfl) (by kernel_rfl) ?hQ1x20 ?hy1x20 (by assumption) ?rest1x20
        case hi1x20 => (simp only [List.getElem?_toArray, List.getElem?_cons_succ, List.getElem?_cons_zero]; rfl)
        case hQ1x20 => exact fun _ _ _ h => h
        case hy1x20 => (refine Or.inl ⟨by rfl, ?_⟩; intro W hSw; (try dsimp only at hSw); go_simp; (try with_reducible rfl))
        try simp only [Act.put, List.setIfInBounds_toArray, List.set_cons_zero, List.set_cons_succ]
        refine wpAnyH_take (i := 2) (oi := ?o2x21) (v := ?v2x21) ?hi2x21 (by kernel_rfl) (by kernel_rfl) (by kernel_rfl) ?hQ2x21 ?hy2x21 (by assumption) ?rest2x21
        case hi2x21 => (simp only [List.getElem?_toArray, List.getElem?_cons_succ, List.getElem?_cons_zero]; rfl)
        case hQ2x21 => exact fun _ _ _ h => h
        case hy2x21 => (refine Or.inl ⟨by rfl, ?_⟩; intro W hSw; (try dsimp only at hSw); go_simp; (try with_reducible rfl))
        try simp only [Act.put, List.setIfInBounds_toArray, List.set_cons_zero, List.set_cons_succ]
        refine wpAnyH_take (i := 3) (oi := ?o3x22) (v := undef) ?hi3x22 (by kernel_rfl) (by kernel_rfl) (by kernel_rfl) ?hQ3x22 ?hy3x22 (by assumption) ?rest3x22
        case hi3x22 => (simp only [List.getElem?_toArray, List.getElem?_cons_succ, List.getElem?_cons_zero]; rfl)
        case hQ3x22 => exact fun _ _ _ h => h
        case hy3x22 => exact Or.inr ⟨by rfl, rfl⟩
        try simp only [Act.put, List.setIfInBounds_toArray, List.set_cons_zero, List.set_cons_succ]
        refine wpAnyH_take (i := 4) (oi := ?o4x23) (v := undef) ?hi4x23 (by kernel_rfl) (by kernel_rfl) (by kernel_rfl) ?hQ4x23 ?hy4x23 (by assumption) ?rest4x23
        case hi4x23 => (simp only [List.getElem?_toArray, List.getElem?_cons_succ, List.getElem?_cons_zero]; rfl)
        case hQ4x23 => exact fun _ _ _ h => h
        case hy4x23 => exact Or.inr ⟨by rfl, rfl⟩
        try simp only [Act.put, List.setIfInBounds_toArray, List.set_cons_zero, List.set_cons_succ]
        refine wpAnyH_take (i := 5) (oi := ?o5x24) (v := undef) ?hi5x24 (by kernel_rfl) (by kernel_rfl) (by kernel_rfl) ?hQ5x24 ?hy5x24 (by assumption) ?rest5x24
        case hi5x24 => (simp only [List.getElem?_toArray, List.getElem?_cons_succ, List.getElem?_cons_zero]; rfl)
        case hQ5x24 => exact fun _ _ _ h => h
        case hy5x24 => exact Or.inr ⟨by rfl, rfl⟩
        try simp only [Act.put, List.setIfInBounds_toArray, List.set_cons_zero, List.set_cons_succ]
        refine wpAnyH_take (i := 6) (oi := ?o6x25) (v := undef) ?hi6x25 (by kernel_rfl) (by kernel_rfl) (by kernel_rfl) ?hQ6x25 ?hy6x25 (by assumption) ?rest6x25
        case hi6x25 => (simp only [List.getElem?_toArray, List.getElem?_cons_succ, List.getElem?_cons_zero]; rfl)
        case hQ6x25 => exact fun _ _ _ h => h
        case hy6x25 => exact Or.inr ⟨by rfl, rfl⟩
        try simp only [Act.put, List.setIfInBounds_toArray, List.set_cons_zero, List.set_cons_succ]
        refine wpAnyH_take (i := 7) (oi := ?o7x26) (v := undef) ?hi7x26 (by kernel_rfl) (by kernel_rfl) (by kernel_rfl) ?hQ7x26 ?hy7x26 (by assumption) ?rest7x26
        case hi7x26 => (simp only [List.getElem?_toArray, List.getElem?_cons_succ, List.getElem?_cons_zero]; rfl)
        case hQ7x26 => exact fun _ _ _ h => h
        case hy7x26 => exact Or.inr ⟨by rfl, rfl⟩
        try simp only [Act.put, List.setIfInBounds_toArray, List.set_cons_zero, List.set_cons_succ]
        refine wpAnyH_take (i := 8) (oi := ?o8x27) (v := undef) ?hi8x27 (by kernel_rfl) (by kernel_rfl) (by kernel_rfl) ?hQ8x27 ?hy8x27 (by assumption) ?rest8x27
        case hi8x27 => (simp only [List.getElem?_toArray, List.getElem?_cons_succ, List.getElem?_cons_zero]; rfl)
        case hQ8x27 => exact fun _ _ _ h => h
        case hy8x27 => exact Or.inr ⟨by rfl, rfl⟩
        try simp only [Act.put, List.setIfInBounds_toArray, List.set_cons_zero, List.set_cons_succ]
        refine wpAnyH_take (i := 9) (oi := ?o9x28) (v := undef) ?hi9x28 (by kernel_rfl) (by kernel_rfl) (by kernel_rfl) ?hQ9x28 ?hy9x28 (by assumption) ?rest9x28
        case hi9x28 => (simp only [List.getElem?_toArray, List.getElem?_cons_succ, List.getElem?_cons_zero]; rfl)
        case hQ9x28 => exact fun _ _ _ h => h
        case hy9x28 => exact Or.inr ⟨by rfl, rfl⟩
        try simp only [Act.put, List.setIfInBounds_toArray, List.set_cons_zero, List.set_cons_succ]
        refine wpAnyH_take (i := 10) (oi := ?o10x29) (v := undef) ?hi10x29 (by kernel_rfl) (by kernel_rfl) (by kernel_rfl) ?hQ10x29 ?hy10x29 (by assumption) ?rest10x29
        case hi10x29 => (simp only [List.getElem?_toArray, List.getElem?_cons_succ, List.getElem?_cons_zero]; rfl)
        case hQ10x29 => exact fun _ _ _ h => h
        case hy10x29 => exact Or.inr ⟨by rfl, rfl⟩
        try simp only [Act.put, List.setIfInBounds_toArray, List.set_cons_zero, List.set_cons_succ]
        refine wpAnyH_take (i := 11) (oi := ?o11x30) (v := undef) ?hi11x30 (by kernel_rfl) (by kernel_rfl) (by kernel_rfl) ?hQ11x30 ?hy11x30 (by assumption) ?rest11x30
        case hi11x30 => (simp only [List.getElem?_toArray, List.getElem?_cons_succ, List.getElem?_cons_zero]; rfl)
        case hQ11x30 => exact fun _ _ _ h => h
        case hy11x30 => exact Or.inr ⟨by rfl, rfl⟩
        try simp only [Act.put, List.setIfInBounds_toArray, List.set_cons_zero, List.set_cons_succ]
        refine wpAnyH_take (i := 12) (oi := ?o12x31) (v := undef) ?hi12x31 (by kernel_rfl) (by kernel_rfl) (by kernel_rfl) ?hQ12x31 ?hy12x31 (by assumption) ?rest12x31
        case hi12x31 => (simp only [List.getElem?_toArray, List.getElem?_cons_succ, List.getElem?_cons_zero]; rfl)
        case hQ12x31 => exact fun _ _ _ h => h
        case hy12x31 => exact Or.inr ⟨by rfl, rfl⟩
        try simp only [Act.put, List.setIfInBounds_toArray, List.set_cons_zero, List.set_cons_succ]
        refine wpAnyH_take (i := 13) (oi := ?o13x32) (v := undef) ?hi13x32 (by kernel_rfl) (by kernel_rfl) (by kernel_rfl) ?hQ13x32 ?hy13x32 (by assumption) ?rest13x32
        case hi13x32 => (simp only [List.getElem?_toArray, List.getElem?_cons_succ, List.getElem?_cons_zero]; rfl)
        case hQ13x32 => exact fun _ _ _ h => h
        case hy13x32 => exact Or.inr ⟨by rfl, rfl⟩
        try simp only [Act.put, List.setIfInBounds_toArray, List.set_cons_zero, List.set_cons_succ]
        refine wpAnyH_take (i := 14) (oi := ?o14x33) (v := undef) ?hi14x33 (by kernel_rfl) (by kernel_rfl) (by kernel_rfl) ?hQ14x33 ?hy14x33 (by assumption) ?rest14x33
        case hi14x33 => (simp only [List.getElem?_toArray, List.getElem?_cons_succ, List.getElem?_cons_zero]; rfl)
        case hQ14x33 => exact fun _ _ _ h => h
        case hy14x33 => exact Or.inr ⟨by rfl, rfl⟩
        try simp only [Act.put, List.setIfInBounds_toArray, List.set_cons_zero, List.set_cons_succ]
        refine wpAnyH_take (i := 15) (oi := ?o15x34) (v := undef) ?hi15x34 (by kernel_rfl) (by kernel_rfl) (by kernel_rfl) ?hQ15x34 ?hy15x34 (by assumption) ?rest15x34
        case hi15x34 => (simp only [List.getElem?_toArray, List.getElem?_cons_succ, List.getElem?_cons_zero]; rfl)
        case hQ15x34 => exact fun _ _ _ h => h
        case hy15x34 => exact Or.inr ⟨by rfl, rfl⟩
        try simp only [Act.put, List.setIfInBounds_toArray, List.set_cons_zero, List.set_cons_succ]
        refine wpAnyH_take (i := 16) (oi := ?o16x35) (v := undef) ?hi16x35 (by kernel_rfl) (by kernel_rfl) (by kernel_rfl) ?hQ16x35 ?hy16x35 (by assumption) ?rest16x35
        case hi16x35 => (simp only [List.getElem?_toArray, List.getElem?_cons_succ, List.getElem?_cons_zero]; rfl)
        case hQ16x35 => exact fun _ _ _ h => h
        case hy16x35 => exact Or.inr ⟨by rfl, rfl⟩
        try simp only [Act.put, List.setIfInBounds_toArray, List.set_cons_zero, List.set_cons_succ]
        refine wpAnyH_take (i := 17) (oi := ?o17x36) (v := ?v17x36) ?hi17x36 (by kernel_rfl) (by kernel_rfl) (by kernel_rfl) ?hQ17x36 ?hy17x36 (by assumption) ?rest17x36
        case hi17x36 => (simp only [List.getElem?_toArray, List.getElem?_cons_succ, List.getElem?_cons_zero]; rfl)
        case hQ17x36 => exact fun _ _ _ h => h
        case hy17x36 => (refine Or.inl ⟨by rfl, ?_⟩; intro W hSw; (try dsimp only at hSw); go_simp; (try with_reducible rfl))
        try simp only [Act.put, List.setIfInBounds_toArray, List.set_cons_zero, List.set_cons_succ]
        refine wpAnyH_done (by kernel_rfl) ?_ _
        go_wp2_with fail
        go_ret
        exact ⟨⟨_, rfl⟩, HK0.out.trans (Below.drew HK3.out)⟩
      · have hj3 : j + 1 < nx := by have := HN.out.2; omega
        obtain ⟨d3, g3, k3, v3, ed3, rfl, ha3, ho3⟩ := ((HY.out.below HK3.out)).get hj3
        obtain rfl : d' = d3 := by have := HED.out; omega
        obtain ⟨s0, s1, s2, s3, s4, s5, rfl, HAT3⟩ := ha3.open
        have HO3 := Lib.hid ho3
        have C6 : Hid (∀ X, Kept w3 X → X.cell? ⟨w.heap.size, 5, none⟩ = some (.slice (some ⟨g, 0, none⟩) nx ex) ∧ X.cell? ⟨w.heap.size + 1, 5, none⟩ = some (.slice (some ⟨g3, 0, none⟩) nx ey)) := Lib.hid fun X hX => C5.out X (HW3.out.trans hX)
        have HAT4 : Hid (∀ X, Kept w3 X → X.cell? ⟨g, (i + 1) * 6, none⟩ = some t0 ∧ X.cell? ⟨g, (i + 1) * 6 + 1, none⟩ = some t1 ∧ X.cell? ⟨g, (i + 1) * 6 + 2, none⟩ = some t2 ∧ X.cell? ⟨g, (i + 1) * 6 + 3, none⟩ = some t3 ∧ X.cell? ⟨g, (i + 1) * 6 + 4, none⟩ = some t4 ∧ X.cell? ⟨g, (i + 1) * 6 + 5, none⟩ = some t5) := Lib.hid fun X hX => HAT2.out X (HW3.out.trans hX)
        have j0 : (0 : Int) ≤ (j : Int) + 1 := by omega
        have j1 : (j : Int) + 1 < (nx : Int) := by omega
        have jn : ¬ (j : Int) < 0 := by omega
        have jw : wrap64 ((j : Int) + 1) = (j : Int) + 1 := by unfold wrap64; omega
        have jw2 : IntKind.i64.wrap ((j : Int) + 1) = (j : Int) + 1 := by rw [IntKind.wrap_i64]; omega
        have jt : ((j : Int) + 1).toNat = j + 1 := by omega
        have it : ((i : Int) + 1).toNat = i + 1 := by omega
        clear hj hj2 hj3 ha3 ho3 ed3
        go_wp2_with fail
        refine wp_region_held_drew (S := (fun X : World => Kept w3 X)) (by kernel_rfl) (by go_grown) (fun hHeld => ?_)
        refine wpAnyH_take (i := 0) (oi := ?o0x37) (v := ?v0x37) ?hi0x37 (by kernel_rfl) (by kernel_rfl) (by kernel_rfl) ?hQ0x37 ?hy0x37 (by assumption) ?rest0x37
        case hi0x37 => (simp only [List.getElem?_toArray, List.getElem?_cons_zero]; rfl)
        case hQ0x37 => exact fun _ _ _ h => h
        case hy0x37 => (refine Or.inl ⟨by rfl, ?_⟩; intro W hSw; (try dsimp only at hSw); go_simp; (try with_reducible rfl))
        try simp only [Act.put, List.setIfInBounds_toArray, List.set_cons_zero, List.set_cons_succ]
        refine wpAnyH_take (i := 1) (oi := ?o1x38) (v := ?v1x38) ?hi1x38 (by kernel_rfl) (by kernel_rfl) (by kernel_rfl) ?hQ1x38 ?hy1x38 (by assumption) ?rest1x38
        case hi1x38 => (simp only [List.getElem?_toArray, List.getElem?_cons_succ, List.getElem?_cons_zero]; rfl)
        case hQ1x38 => exact fun _ _ _ h => h
        case hy1x38 => (refine Or.inl ⟨by rfl, ?_⟩; intro W hSw; (try dsimp only at hSw); go_simp; (try with_reducible rfl))
        try simp only [Act.put, List.setIfInBounds_toArray, List.set_cons_zero, List.set_cons_succ]
        refine wpAnyH_take (i := 2) (oi := ?o2x39) (v := ?v2x39) ?hi2x39 (by kernel_rfl) (by kernel_rfl) (by kernel_rfl) ?hQ2x39 ?hy2x39 (by assumption) ?rest2x39
        case hi2x39 => (simp only [List.getElem?_toArray, List.getElem?_cons_succ, List.getElem?_cons_zero]; rfl)
        case hQ2x39 => exact fun _ _ _ h => h
        case hy2x39 => (refine Or.inl ⟨by rfl, ?_⟩; intro W hSw; (try dsimp only at hSw); go_simp; (try with_reducible rfl))
        try simp only [Act.put, List.setIfInBounds_toArray, List.set_cons_zero, List.set_cons_succ]
        refine wpAnyH_take (i := 3) (oi := ?o3x40) (v := ?v3x40) ?hi3x40 (by kernel_rfl) (by kernel_rfl) (by kernel_rfl) ?hQ3x40 ?hy3x40 (by assumption) ?rest3x40
        case hi3x40 => (simp only [List.getElem?_toArray, List.getElem?_cons_succ, List.getElem?_cons_zero]; rfl)
        case hQ3x40 => exact fun _ _ _ h => h
        case hy3x40 => (refine Or.inl ⟨by rfl, ?_⟩; intro W hSw; (try dsimp only at hSw); go_simp; (try with_reducible rfl))
        try simp only [Act.put, List.setIfInBounds_toArray, List.set_cons_zero, List.set_cons_succ]
        refine wpAnyH_take (i := 4) (oi := ?o4x41) (v := ?v4x41) ?hi4x41 (by kernel_rfl) (by kernel_rfl) (by kernel_rfl) ?hQ4x41 ?hy4x41 (by assumption) ?rest4x41
        case hi4x41 => (simp only [List.getElem?_toArray, List.getElem?_cons_succ, List.getElem?_cons_zero]; rfl)
        case hQ4x41 => exact fun _ _ _ h => h
        case hy4x41 => (refine Or.inl ⟨by rfl, ?_⟩; intro W hSw; (try dsimp only at hSw); obtain ⟨x5, y5⟩ := C6.out _ hSw; go_simp; (try with_reducible rfl))
        try simp only [Act.put, List.setIfInBounds_toArray, List.set_cons_zero, List.set_cons_succ]
        refine wpAnyH_take (i := 5) (oi := ?o5x42) (v := ?v5x42) ?hi5x42 (by kernel_rfl) (by kernel_rfl) (by kernel_rfl) ?hQ5x42 ?hy5x42 (by assumption) ?rest5x42
        case hi5x42 => (simp only [List.getElem?_toArray, List.getElem?_cons_succ, List.getElem?_cons_zero]; rfl)
        case hQ5x42 => exact fun _ _ _ h => h
        case hy5x42 => (refine Or.inl ⟨by rfl, ?_⟩; intro W hSw; (try dsimp only at hSw); go_simp; (try with_reducible rfl))
        try simp only [Act.put, List.setIfInBounds_toArray, List.set_cons_zero, List.set_cons_succ]
        refine wpAnyH_take (i := 6) (oi := ?o6x43) (v := ?v6x43) ?hi6x43 (by kernel_rfl) (by kernel_rfl) (by kernel_rfl) ?hQ6x43 ?hy6x43 (by assumption) ?rest6x43
        case hi6x43 => (simp only [List.getElem?_toArray, List.getElem?_cons_succ, List.getElem?_cons_zero]; rfl)
        case hQ6x43 => exact fun _ _ _ h => h
        case hy6x43 => (refine Or.inl ⟨by rfl, ?_⟩; intro W hSw; (try dsimp only at hSw); go_simp; (try with_reducible rfl))
        try simp only [Act.put, List.setIfInBounds_toArray, List.set_cons_zero, List.set_cons_succ]
        refine wpAnyH_take (i := 7) (oi := ?o7x44) (v := ?v7x44) ?hi7x44 (by kernel_rfl) (by kernel_rfl) (by kernel_rfl) ?hQ7x44 ?hy7x44 (by assumption) ?rest7x44
        case hi7x44 => (simp only [List.getElem?_toArray, List.getElem?_cons_succ, List.getElem?_cons_zero]; rfl)
        case hQ7x44 => exact fun _ _ _ h => h
        case hy7x44 => (refine Or.inl ⟨by rfl, ?_⟩; intro W hSw; (try dsimp only at hSw); go_simp; (try with_reducible rfl))
        try simp only [Act.put, List.setIfInBounds_toArray, List.set_cons_zero, List.set_cons_succ]
        refine wpAnyH_take (i := 8) (oi := ?o8x45) (v := ?v8x45) ?hi8x45 (by kernel_rfl) (by kernel_rfl) (by kernel_rfl) ?hQ8x45 ?hy8x45 (by assumption) ?rest8x45
        case hi8x45 => (simp only [List.getElem?_toArray, List.getElem?_cons_succ, List.getElem?_cons_zero]; rfl)
        case hQ8x45 => exact fun _ _ _ h => h
        case hy8x45 => (refine Or.inl ⟨by rfl, ?_⟩; intro W hSw; (try dsimp only at hSw); obtain ⟨a0, a1, a2, a3, a4, a5⟩ := HAT4.out _ hSw; go_simp; (try with_reducible rfl))
        try simp only [Act.put, List.setIfInBounds_toArray, List.set_cons_zero, List.set_cons_succ]
        refine wpAnyH_take (i := 9) (oi := ?o9x46) (v := ?v9x46) ?hi9x46 (by kernel_rfl) (by kernel_rfl) (by kernel_rfl) ?hQ9x46 ?hy9x46 (by assumption) ?rest9x46
        case hi9x46 => (simp only [List.getElem?_toArray, List.getElem?_cons_succ, List.getElem?_cons_zero]; rfl)
        case hQ9x46 => exact fun _ _ _ h => h
        case hy9x46 => (refine Or.inl ⟨by rfl, ?_⟩; intro W hSw; (try dsimp only at hSw); go_simp; (try with_reducible rfl))
        try simp only [Act.put, List.setIfInBounds_toArray, List.set_cons_zero, List.set_cons_succ]
        refine wpAnyH_take (i := 10) (oi := ?o10x47) (v := ?v10x47) ?hi10x47 (by kernel_rfl) (by kernel_rfl) (by kernel_rfl) ?hQ10x47 ?hy10x47 (by assumption) ?rest10x47
        case hi10x47 => (simp only [List.getElem?_toArray, List.getElem?_cons_succ, List.getElem?_cons_zero]; rfl)
        case hQ10x47 => exact fun _ _ _ h => h
        case hy10x47 => (refine Or.inl ⟨by rfl, ?_⟩; intro W hSw; (try dsimp only at hSw); obtain ⟨x5, y5⟩ := C6.out _ hSw; go_simp; (try with_reducible rfl))
        try simp only [Act.put, List.setIfInBounds_toArray, List.set_cons_zero, List.set_cons_succ]
        refine wpAnyH_take (i := 11) (oi := ?o11x48) (v := ?v11x48) ?hi11x48 (by kernel_rfl) (by kernel_rfl) (by kernel_rfl) ?hQ11x48 ?hy11x48 (by assumption) ?rest11x48
        case hi11x48 => (simp only [List.getElem?_toArray, List.getElem?_cons_succ, List.getElem?_cons_zero]; rfl)
        case hQ11x48 => exact fun _ _ _ h => h
        case hy11x48 => (refine Or.inl ⟨by rfl, ?_⟩; intro W hSw; (try dsimp only at hSw); go_simp; (try with_reducible rfl))
        try simp only [Act.put, List.setIfInBounds_toArray, List.set_cons_zero, List.set_cons_succ]
        refine wpAnyH_take (i := 12) (oi := ?o12x49) (v := ?v12x49) ?hi12x49 (by kernel_rfl) (by kernel_rfl) (by kernel_rfl) ?hQ12x49 ?hy12x49 (by assumption) ?rest12x49
        case hi12x49 => (simp only [List.getElem?_toArray, List.getElem?_cons_succ, List.getElem?_cons_zero]; rfl)
        case hQ12x49 => exact fun _ _ _ h => h
        case hy12x49 => (refine Or.inl ⟨by rfl, ?_⟩; intro W hSw; (try dsimp only at hSw); go_simp; (try with_reducible rfl))
        try simp only [Act.put, List.setIfInBounds_toArray, List.set_cons_zero, List.set_cons_succ]
        refine wpAnyH_take (i := 13) (oi := ?o13x50) (v := ?v13x50) ?hi13x50 (by kernel_rfl) (by kernel_rfl) (by kernel_rfl) ?hQ13x50 ?hy13x50 (by assumption) ?rest13x50
        case hi13x50 => (simp only [List.getElem?_toArray, List.getElem?_cons_succ, List.getElem?_cons_zero]; rfl)
        case hQ13x50 => exact fun _ _ _ h => h
        case hy13x50 => (refine Or.inl ⟨by rfl, ?_⟩; intro W hSw; (try dsimp only at hSw); go_simp; (try with_reducible rfl))
        try simp only [Act.put, List.setIfInBounds_toArray, List.set_cons_zero, List.set_cons_succ]
        refine wpAnyH_take (i := 14) (oi := ?o14x51) (v := ?v14x51) ?hi14x51 (by kernel_rfl) (by kernel_rfl) (by kernel_rfl) ?hQ14x51 ?hy14x51 (by assumption) ?rest14x51
        case hi14x51 => (simp only [List.getElem?_toArray, List.getElem?_cons_succ, List.getElem?_cons_zero]; rfl)
        case hQ14x51 => exact fun _ _ _ h => h
        case hy14x51 => (refine Or.inl ⟨by rfl, ?_⟩; intro W hSw; (try dsimp only at hSw); obtain ⟨a0, a1, a2, a3, a4, a5⟩ := HAT3.out _ hSw; go_simp; (try with_reducible rfl))
        try simp only [Act.put, List.setIfInBounds_toArray, List.set_cons_zero, List.set_cons_succ]
        refine wpAnyH_ready (rs := [15]) (by kernel_rfl) (by simp) ?_
        refine (AllReadyH.cons rfl (fun K hK => ?_) AllReadyH.nil)
        go_simp
        (with_reducible refine Calls.mono (HE.out d' HED.out _ _ _ _ _ _ _ ((HO2.out.below HW3.out).below (by go_grown)) (HO3.out.below (by go_grown))) ?_)
        rintro e w4 ⟨⟨b4, rfl⟩, hk4⟩
        have hk4a : Kept w3 w4 := ⟨hk4.os, hk4.tape, hk4.output, hk4.size, hk4.block⟩
        have HK4 := Lib.hid (HK3.out.trans hk4a)
        have HKW := Lib.hid hk4a
        clear hk4 hk4a
        refine hK.out _ _ ?_ (fun hHeld => ?_)
        · (exact HKW.out)
        clear hK K
        try simp only [Act.put, List.setIfInBounds_toArray, List.set_cons_zero, List.set_cons_succ]
        cases b4
        · refine wpAnyH_take (i := 16) (oi := ?o16x52) (v := ?v16x52) ?hi16x52 (by kernel_rfl) (by kernel_rfl) (by kernel_rfl) ?hQ16x52 ?hy16x52 (by assumption) ?rest16x52
          case hi16x52 => (simp only [List.getElem?_toArray, List.getElem?_cons_succ, List.getElem?_cons_zero]; rfl)
          case hQ16x52 => exact fun _ _ _ h => h
          case hy16x52 => (refine Or.inl ⟨by rfl, ?_⟩; intro W hSw; (try dsimp only at hSw); go_simp; (try with_reducible rfl))
          try simp only [Act.put, List.setIfInBounds_toArray, List.set_cons_zero, List.set_cons_succ]
          refine wpAnyH_take (i := 17) (oi := ?o17x53) (v := ?v17x53) ?hi17x53 (by kernel_rfl) (by kernel_rfl) (by kernel_rfl) ?hQ17x53 ?hy17x53 (by assumption) ?rest17x53
          case hi17x53 => (simp only [List.getElem?_toArray, List.getElem?_cons_succ, List.getElem?_cons_zero]; rfl)
          case hQ17x53 => exact fun _ _ _ h => h
          case hy17x53 => (refine Or.inl ⟨by rfl, ?_⟩; intro W hSw; (try dsimp only at hSw); go_simp; (try with_reducible rfl))
          try simp only [Act.put, List.setIfInBounds_toArray, List.set_cons_zero, List.set_cons_succ]
          refine wpAnyH_done (by kernel_rfl) ?_ _
          go_wp2_with fail
          go_ret
          exact ⟨⟨_, rfl⟩, HK0.out.trans HK4.out⟩
        · refine wpAnyH_take (i := 16) (oi := ?o16x54) (v := ?v16x54) ?hi16x54 (by kernel_rfl) (by kernel_rfl) (by kernel_rfl) ?hQ16x54 ?hy16x54 (by assumption) ?rest16x54
          case hi16x54 => (simp only [List.getElem?_toArray, List.getElem?_cons_succ, List.getElem?_cons_zero]; rfl)
          case hQ16x54 => exact fun _ _ _ h => h
          case hy16x54 => (refine Or.inl ⟨by rfl, ?_⟩; intro W hSw; (try dsimp only at hSw); go_simp; (try with_reducible rfl))
          try simp only [Act.put, List.setIfInBounds_toArray, List.set_cons_zero, List.set_cons_succ]
          refine wpAnyH_take (i := 17) (oi := ?o17x55) (v := ?v17x55) ?hi17x55 (by kernel_rfl) (by kernel_rfl) (by kernel_rfl) ?hQ17x55 ?hy17x55 (by assumption) ?rest17x55
          case hi17x55 => (simp only [List.getElem?_toArray, List.getElem?_cons_succ, List.getElem?_cons_zero]; rfl)
          case hQ17x55 => exact fun _ _ _ h => h
          case hy17x55 => (refine Or.inl ⟨by rfl, ?_⟩; intro W hSw; (try dsimp only at hSw); go_simp; (try with_reducible rfl))
          try simp only [Act.put, List.setIfInBounds_toArray, List.set_cons_zero, List.set_cons_succ]
          refine wpAnyH_done (by kernel_rfl) ?_ _
          go_wp2_with fail
          exact ⟨⟨i + 2, by go_num, by have := HLT.out; omega, by have := HI2.out; omega, HK4.out⟩, by have := HLT.out; simp [intOf]; omega⟩
    · have i1 : ¬ (i : Int) + 1 < (nx : Int) := by omega
      obtain ⟨_, _, _, _, _, x5, _⟩ := CELLS.out wr HKW.out
      clear hlt hkW hi2
      go_wp2_with fail
      go_ret
      exact ⟨⟨_, rfl⟩, HK0.out.trans HKW.out⟩
theorem Equal_of (d : Nat) (hE : ∀ d', d = d' + 1 → EqP d') : EqP d := by
  intro F G kx ky x y w hx hy
  have hx' := hx
  have hy' := hy
  obtain ⟨bx, Ax, cx, lx, qx, Tx, Kx, nx, ex, rfl, _, _, _, _, _, _, hk1, hk2, hnx, hev, hKx⟩ := hx
  obtain ⟨by', Ay, cy, ly, qy, Ty, Ky, ny, ey, rfl, _, _, _, _, _, _, hk3, hk4, hny, _, hKy⟩ := hy
  by_cases h0 : (kx = 2 ∨ kx = 3) ∧ (ky = 2 ∨ ky = 3)
  · exact Equal_num F G d d kx ky bx by' Ax Ay Kx Ky lx ly cx cy qx qy nx ny ex ey Tx Ty w h0.1 h0.2 hx' hy'
  · by_cases hne : kx = ky
    · subst hne
      have h1 : ¬ (kx = 2 ∨ kx = 3) := fun h => h0 ⟨h, h⟩
      by_cases hn : nx = ny
      · subst hn
        by_cases k0 : kx = 0
        · subst k0; exact Equal_none bx by' Ax Ay Kx Ky lx ly cx cy qx qy nx ex ey Tx Ty w
        · by_cases k1 : kx = 1
          · subst k1; exact Equal_bool bx by' Ax Ay Kx Ky lx ly cx cy qx qy nx ex ey Tx Ty w
          · by_cases k8 : kx = 8
            · subst k8; exact Equal_dict F G d hE bx by' Ax Ay Kx Ky lx ly cx cy qx qy nx ex ey Tx Ty w hnx (hev rfl) hKx hKy
            · by_cases k9 : kx = 9
              · subst k9
                exact Equal_set F G d (Within_of d fun d' e => Find_of d' (hE d' e)) bx by' Ax Ay Kx Ky lx ly cx cy qx qy nx ex ey Tx Ty w hx' hy'
              · exact Equal_list F G d hE kx (by omega) (by omega) bx by' Ax Ay Kx Ky lx ly cx cy qx qy nx ex ey Tx Ty w hnx hKx hKy
      · exact Equal_len kx bx by' Ax Ay Kx Ky lx ly cx cy qx qy nx ny ex ey Tx Ty w h1 hn
    · exact Equal_kinds kx ky bx by' Ax Ay Kx Ky lx ly cx cy qx qy nx ny ex ey Tx Ty w h0 hne
theorem Equal_any : ∀ d, EqP d
  | 0 => Equal_of 0 fun d' e => by cases e
  | d + 1 => Equal_of (d + 1) fun d' e => by
    have e2 : d' = d := by omega
    rw [e2]
    exact Equal_any d
theorem Find_any (d : Nat) : FiP d := Find_of d (Equal_any d)
end Go.Proofs.YtoociokhldakbaaGreat
