/- The two loops of hexadecimal digits in the quoting of bytes. -/
import Derived.Test.YtmcemcpnhlmbhaaDoorBb
import Derived.Shelf.Strconv.Quote
import Derived.Shelf.Strconv.Quoted
import Derived.Lib.QuoteHex
import Derived.Lib.QuoteBits
import Derived.LoopN
open Go.Lib
namespace Go.Proofs.YtmcemcpnhlmbhaaDoor
open Go.ChangeShapes Go.WideShapes Go.ChangeAt Go.RowKit
set_option linter.unusedVariables false
def loopsOf : Code → List Code
  | .loop c => c :: loopsOf c
  | .seq a b => loopsOf a ++ loopsOf b
  | .block _ c => loopsOf c
  | .scope c => loopsOf c
  | .cond _ a b => loopsOf a ++ loopsOf b
  | _ => []
noncomputable def hex4Body : Code := ((loopsOf (Tryd.f11.body.getD .skip))[1]?).getD .skip
set_option maxHeartbeats 4000000 in
set_option maxRecDepth 1000000 in
/-- 4 digits are written -/
theorem hex4_any (Q : Exit → Act → World → Prop) (B n R : Nat) (r : Int) (v : Value) (cs : List Value) (W0 w : World) (c0 c1 c2 c3 c4 c5 c7 c9 c11 c12 c13 c14 c15 c16 c17 c18 c19 c20 c21 c22 c23 c24 c25 c26 c27 c28 c29 c30 c31 c32 c33 c34 c35 c36 c37 c38 c39 c40 c41 c42 c43 c44 c45 c46 c47 c48 c49 c50 c51 c52 c53 c54 c55 c56 c57 c58 c59 c60 c61 c62 c63 c64 c65 c66 c67 c68 c69 c70 c71 c72 c73 c74 c75 c76 c77 c78 c79 c80 c81 c82 c83 c84 c85 c86 c87 c88 c89 c90 c91 c92 c93 c94 c95 c96 c97 c98 c99 c100 c101 c102 c103 c104 c105 c106 c107 c108 c109 c110 c111 c112 c113 c114 c115 c116 c117 c118 c119 c120 c121 c122 c123 c124 c125 c126 c127 c128 c129 c130 c131 c132 c133 c134 c135 c136 c137 c138 c139 c140 c141 c142 c143 c144 c145 c146 c147 c148 c149 c150 c151 c152 c153 c154 c155 c156 c157 c158 c159 c160 c161 c162 c163 c164 c165 c166 c167 c168 c169 c170 c171 c172 c173 c174 c175 c176 c177 : Value) (hb : Lib.OwnBuf B 5 v n cs W0 w) (hn : n + 10 ≤ 140737488355328) (hr : r = (R : Int)) (hri : r ≤ 2147483647)
    (hexit : ∀ (v' : Value) (w' : World) (u117 u118 u119 u120 u121 u122 u123 u124 u125 u126 u127 u128 u129 : Value), Lib.OwnBuf B 5 v' (n + 4) (cs ++ Lib.intCells (Lib.hexDigits R 4)) W0 w' → Q (.exit 8) ⟨#[c0, c1, c2, c3, c4, c5, v', c7, .int .i32 r, c9, .int .i64 (-4), c11, c12, c13, c14, c15, c16, c17, c18, c19, c20, c21, c22, c23, c24, c25, c26, c27, c28, c29, c30, c31, c32, c33, c34, c35, c36, c37, c38, c39, c40, c41, c42, c43, c44, c45, c46, c47, c48, c49, c50, c51, c52, c53, c54, c55, c56, c57, c58, c59, c60, c61, c62, c63, c64, c65, c66, c67, c68, c69, c70, c71, c72, c73, c74, c75, c76, c77, c78, c79, c80, c81, c82, c83, c84, c85, c86, c87, c88, c89, c90, c91, c92, c93, c94, c95, c96, c97, c98, c99, c100, c101, c102, c103, c104, c105, c106, c107, c108, c109, c110, c111, c112, c113, c114, c115, c116, u117, u118, u119, u120, u121, u122, u123, u124, u125, u126, u127, u128, u129, c130, c131, c132, c133, c134, c135, c136, c137, c138, c139, c140, c141, c142, c143, c144, c145, c146, c147, c148, c149, c150, c151, c152, c153, c154, c155, c156, c157, c158, c159, c160, c161, c162, c163, c164, c165, c166, c167, c168, c169, c170, c171, c172, c173, c174, c175, c176, c177], []⟩ w') :
    Code.wp Tryd.prog (Code.loop hex4Body) Q ⟨#[c0, c1, c2, c3, c4, c5, v, c7, .int .i32 r, c9, .int .i64 12, c11, c12, c13, c14, c15, c16, c17, c18, c19, c20, c21, c22, c23, c24, c25, c26, c27, c28, c29, c30, c31, c32, c33, c34, c35, c36, c37, c38, c39, c40, c41, c42, c43, c44, c45, c46, c47, c48, c49, c50, c51, c52, c53, c54, c55, c56, c57, c58, c59, c60, c61, c62, c63, c64, c65, c66, c67, c68, c69, c70, c71, c72, c73, c74, c75, c76, c77, c78, c79, c80, c81, c82, c83, c84, c85, c86, c87, c88, c89, c90, c91, c92, c93, c94, c95, c96, c97, c98, c99, c100, c101, c102, c103, c104, c105, c106, c107, c108, c109, c110, c111, c112, c113, c114, c115, c116, c117, c118, c119, c120, c121, c122, c123, c124, c125, c126, c127, c128, c129, c130, c131, c132, c133, c134, c135, c136, c137, c138, c139, c140, c141, c142, c143, c144, c145, c146, c147, c148, c149, c150, c151, c152, c153, c154, c155, c156, c157, c158, c159, c160, c161, c162, c163, c164, c165, c166, c167, c168, c169, c170, c171, c172, c173, c174, c175, c176, c177], []⟩ w := by
  obtain ⟨i0, hi, hz0, hz1, hz2⟩ := info_parts (show (Tryd.prog.info? 5).map (fun i => (i.zero, i.size, i.bytes)) = some (some (.int .u8 0), 1, 1) by kernel_rfl)
  conv => arg 2; arg 1; whnf
  obtain ⟨d0, hL0, hL0', HD0, hD0⟩ := dig_at r R 4096 4096 hr rfl hri
  obtain ⟨d1, hL1, hL1', HD1, hD1⟩ := dig_at r R 256 256 hr rfl hri
  obtain ⟨d2, hL2, hL2', HD2, hD2⟩ := dig_at r R 16 16 hr rfl hri
  obtain ⟨d3, hL3, hL3', HD3, hD3⟩ := dig_low r R hr hri
  clear hr
  refine wp_loop_rounds 5 ?_
  rw [rounds_succ]
  go_big_wp2_with (at_builtin; first
      | (refine Lib.wpList_append_byte rfl _ _ 26 rfl B 5 i0 Tryd.underlying26 hi hz0 hz1 hz2 _ _ _ rfl W0 _ _ (by assumption) rfl (by first | omega | (simp only [Lib.size_two]; omega)) ?_; intro _ _ hb))
  rw [rounds_succ]
  go_big_wp2_with (at_builtin; first
      | (refine Lib.wpList_append_byte rfl _ _ 26 rfl B 5 i0 Tryd.underlying26 hi hz0 hz1 hz2 _ _ _ rfl W0 _ _ (by assumption) rfl (by first | omega | (simp only [Lib.size_two]; omega)) ?_; intro _ _ hb))
  rw [rounds_succ]
  go_big_wp2_with (at_builtin; first
      | (refine Lib.wpList_append_byte rfl _ _ 26 rfl B 5 i0 Tryd.underlying26 hi hz0 hz1 hz2 _ _ _ rfl W0 _ _ (by assumption) rfl (by first | omega | (simp only [Lib.size_two]; omega)) ?_; intro _ _ hb))
  rw [rounds_succ]
  go_big_wp2_with (at_builtin; first
      | (refine Lib.wpList_append_byte rfl _ _ 26 rfl B 5 i0 Tryd.underlying26 hi hz0 hz1 hz2 _ _ _ rfl W0 _ _ (by assumption) rfl (by first | omega | (simp only [Lib.size_two]; omega)) ?_; intro _ _ hb))
  rw [rounds_succ]
  go_big_wp2
  simpa [Lib.intCells, Lib.lowerhex_at, Lib.hexDigits, List.append_assoc, Nat.add_assoc, HD0.out, HD1.out, HD2.out, HD3.out] using hb
noncomputable def hex8Body : Code := ((loopsOf (Tryd.f11.body.getD .skip))[2]?).getD .skip
set_option maxHeartbeats 4000000 in
set_option maxRecDepth 1000000 in
/-- 8 digits are written -/
theorem hex8_any (Q : Exit → Act → World → Prop) (B n R : Nat) (r : Int) (v : Value) (cs : List Value) (W0 w : World) (c0 c1 c2 c3 c4 c5 c7 c9 c10 c12 c13 c14 c15 c16 c17 c18 c19 c20 c21 c22 c23 c24 c25 c26 c27 c28 c29 c30 c31 c32 c33 c34 c35 c36 c37 c38 c39 c40 c41 c42 c43 c44 c45 c46 c47 c48 c49 c50 c51 c52 c53 c54 c55 c56 c57 c58 c59 c60 c61 c62 c63 c64 c65 c66 c67 c68 c69 c70 c71 c72 c73 c74 c75 c76 c77 c78 c79 c80 c81 c82 c83 c84 c85 c86 c87 c88 c89 c90 c91 c92 c93 c94 c95 c96 c97 c98 c99 c100 c101 c102 c103 c104 c105 c106 c107 c108 c109 c110 c111 c112 c113 c114 c115 c116 c117 c118 c119 c120 c121 c122 c123 c124 c125 c126 c127 c128 c129 c130 c131 c132 c133 c134 c135 c136 c137 c138 c139 c140 c141 c142 c143 c144 c145 c146 c147 c148 c149 c150 c151 c152 c153 c154 c155 c156 c157 c158 c159 c160 c161 c162 c163 c164 c165 c166 c167 c168 c169 c170 c171 c172 c173 c174 c175 c176 c177 : Value) (hb : Lib.OwnBuf B 5 v n cs W0 w) (hn : n + 10 ≤ 140737488355328) (hr : r = (R : Int)) (hri : r ≤ 2147483647)
    (hexit : ∀ (v' : Value) (w' : World) (u132 u133 u134 u135 u136 u137 u138 u139 u140 u141 u142 u143 u144 : Value), Lib.OwnBuf B 5 v' (n + 8) (cs ++ Lib.intCells (Lib.hexDigits R 8)) W0 w' → Q (.exit 10) ⟨#[c0, c1, c2, c3, c4, c5, v', c7, .int .i32 r, c9, c10, .int .i64 (-4), c12, c13, c14, c15, c16, c17, c18, c19, c20, c21, c22, c23, c24, c25, c26, c27, c28, c29, c30, c31, c32, c33, c34, c35, c36, c37, c38, c39, c40, c41, c42, c43, c44, c45, c46, c47, c48, c49, c50, c51, c52, c53, c54, c55, c56, c57, c58, c59, c60, c61, c62, c63, c64, c65, c66, c67, c68, c69, c70, c71, c72, c73, c74, c75, c76, c77, c78, c79, c80, c81, c82, c83, c84, c85, c86, c87, c88, c89, c90, c91, c92, c93, c94, c95, c96, c97, c98, c99, c100, c101, c102, c103, c104, c105, c106, c107, c108, c109, c110, c111, c112, c113, c114, c115, c116, c117, c118, c119, c120, c121, c122, c123, c124, c125, c126, c127, c128, c129, c130, c131, u132, u133, u134, u135, u136, u137, u138, u139, u140, u141, u142, u143, u144, c145, c146, c147, c148, c149, c150, c151, c152, c153, c154, c155, c156, c157, c158, c159, c160, c161, c162, c163, c164, c165, c166, c167, c168, c169, c170, c171, c172, c173, c174, c175, c176, c177], []⟩ w') :
    Code.wp Tryd.prog (Code.loop hex8Body) Q ⟨#[c0, c1, c2, c3, c4, c5, v, c7, .int .i32 r, c9, c10, .int .i64 28, c12, c13, c14, c15, c16, c17, c18, c19, c20, c21, c22, c23, c24, c25, c26, c27, c28, c29, c30, c31, c32, c33, c34, c35, c36, c37, c38, c39, c40, c41, c42, c43, c44, c45, c46, c47, c48, c49, c50, c51, c52, c53, c54, c55, c56, c57, c58, c59, c60, c61, c62, c63, c64, c65, c66, c67, c68, c69, c70, c71, c72, c73, c74, c75, c76, c77, c78, c79, c80, c81, c82, c83, c84, c85, c86, c87, c88, c89, c90, c91, c92, c93, c94, c95, c96, c97, c98, c99, c100, c101, c102, c103, c104, c105, c106, c107, c108, c109, c110, c111, c112, c113, c114, c115, c116, c117, c118, c119, c120, c121, c122, c123, c124, c125, c126, c127, c128, c129, c130, c131, c132, c133, c134, c135, c136, c137, c138, c139, c140, c141, c142, c143, c144, c145, c146, c147, c148, c149, c150, c151, c152, c153, c154, c155, c156, c157, c158, c159, c160, c161, c162, c163, c164, c165, c166, c167, c168, c169, c170, c171, c172, c173, c174, c175, c176, c177], []⟩ w := by
  obtain ⟨i0, hi, hz0, hz1, hz2⟩ := info_parts (show (Tryd.prog.info? 5).map (fun i => (i.zero, i.size, i.bytes)) = some (some (.int .u8 0), 1, 1) by kernel_rfl)
  conv => arg 2; arg 1; whnf
  obtain ⟨d0, hL0, hL0', HD0, hD0⟩ := dig_at r R 268435456 268435456 hr rfl hri
  obtain ⟨d1, hL1, hL1', HD1, hD1⟩ := dig_at r R 16777216 16777216 hr rfl hri
  obtain ⟨d2, hL2, hL2', HD2, hD2⟩ := dig_at r R 1048576 1048576 hr rfl hri
  obtain ⟨d3, hL3, hL3', HD3, hD3⟩ := dig_at r R 65536 65536 hr rfl hri
  obtain ⟨d4, hL4, hL4', HD4, hD4⟩ := dig_at r R 4096 4096 hr rfl hri
  obtain ⟨d5, hL5, hL5', HD5, hD5⟩ := dig_at r R 256 256 hr rfl hri
  obtain ⟨d6, hL6, hL6', HD6, hD6⟩ := dig_at r R 16 16 hr rfl hri
  obtain ⟨d7, hL7, hL7', HD7, hD7⟩ := dig_low r R hr hri
  clear hr
  refine wp_loop_rounds 9 ?_
  rw [rounds_succ]
  go_big_wp2_with (at_builtin; first
      | (refine Lib.wpList_append_byte rfl _ _ 26 rfl B 5 i0 Tryd.underlying26 hi hz0 hz1 hz2 _ _ _ rfl W0 _ _ (by assumption) rfl (by first | omega | (simp only [Lib.size_two]; omega)) ?_; intro _ _ hb))
  rw [rounds_succ]
  go_big_wp2_with (at_builtin; first
      | (refine Lib.wpList_append_byte rfl _ _ 26 rfl B 5 i0 Tryd.underlying26 hi hz0 hz1 hz2 _ _ _ rfl W0 _ _ (by assumption) rfl (by first | omega | (simp only [Lib.size_two]; omega)) ?_; intro _ _ hb))
  rw [rounds_succ]
  go_big_wp2_with (at_builtin; first
      | (refine Lib.wpList_append_byte rfl _ _ 26 rfl B 5 i0 Tryd.underlying26 hi hz0 hz1 hz2 _ _ _ rfl W0 _ _ (by assumption) rfl (by first | omega | (simp only [Lib.size_two]; omega)) ?_; intro _ _ hb))
  rw [rounds_succ]
  go_big_wp2_with (at_builtin; first
      | (refine Lib.wpList_append_byte rfl _ _ 26 rfl B 5 i0 Tryd.underlying26 hi hz0 hz1 hz2 _ _ _ rfl W0 _ _ (by assumption) rfl (by first | omega | (simp only [Lib.size_two]; omega)) ?_; intro _ _ hb))
  rw [rounds_succ]
  go_big_wp2_with (at_builtin; first
      | (refine Lib.wpList_append_byte rfl _ _ 26 rfl B 5 i0 Tryd.underlying26 hi hz0 hz1 hz2 _ _ _ rfl W0 _ _ (by assumption) rfl (by first | omega | (simp only [Lib.size_two]; omega)) ?_; intro _ _ hb))
  rw [rounds_succ]
  go_big_wp2_with (at_builtin; first
      | (refine Lib.wpList_append_byte rfl _ _ 26 rfl B 5 i0 Tryd.underlying26 hi hz0 hz1 hz2 _ _ _ rfl W0 _ _ (by assumption) rfl (by first | omega | (simp only [Lib.size_two]; omega)) ?_; intro _ _ hb))
  rw [rounds_succ]
  go_big_wp2_with (at_builtin; first
      | (refine Lib.wpList_append_byte rfl _ _ 26 rfl B 5 i0 Tryd.underlying26 hi hz0 hz1 hz2 _ _ _ rfl W0 _ _ (by assumption) rfl (by first | omega | (simp only [Lib.size_two]; omega)) ?_; intro _ _ hb))
  rw [rounds_succ]
  go_big_wp2_with (at_builtin; first
      | (refine Lib.wpList_append_byte rfl _ _ 26 rfl B 5 i0 Tryd.underlying26 hi hz0 hz1 hz2 _ _ _ rfl W0 _ _ (by assumption) rfl (by first | omega | (simp only [Lib.size_two]; omega)) ?_; intro _ _ hb))
  rw [rounds_succ]
  go_big_wp2
  simpa [Lib.intCells, Lib.lowerhex_at, Lib.hexDigits, List.append_assoc, Nat.add_assoc, HD0.out, HD1.out, HD2.out, HD3.out, HD4.out, HD5.out, HD6.out, HD7.out] using hb
end Go.Proofs.YtmcemcpnhlmbhaaDoor
