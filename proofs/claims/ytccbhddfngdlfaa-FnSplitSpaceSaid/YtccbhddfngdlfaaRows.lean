/-
  No cell of these rows narrows 'for every input' (looked for: loops, veiled, ifaces, maps, wideKeys, modest, calm, conditions, laid).
  DERIVED. THE GIVEN ROWS OF THIS SEAT. 3 by the template 'for every input the law returns true; each argument reads behind the call as it read before'; 0 by the template 'total and deterministic' (their statements: YtccbhddfngdlfaaTotals.lean).
  GIVEN WITH THE SEED: the statements are not yours to turn. If you find one false, say at which input.
  Laid BY PROGRAM, IN A SANDBOX (cutbox-rows.mjs): the forced cells as the released guide's own fill.sh prints them over the translation 26c7d66e921a1122… (all of the seat's roots in one cut). By AI agents, Wed Nov 11 2026. No macro, syntax, notation, axiom, sorry.
-/
import Derived.Test.YtccbhddfngdlfaaChecked
import GoSem.Claim
import GoSem.ClaimJoined
import GoSem.ClaimMapViews
import Derived.JoinedTies
import Derived.KernelRfl
namespace Go.Proofs.Ytccbhddfngdlfaa
/- THE CELL 'sum', in the pinned program and in every row, IS THE sha256 OF THE DUMP (.gsa) THAT YtccbhddfngdlfaaProg.lean LOADS. Nothing in Lean hashes anything: it is a label: what it is worth is what the hold of that sum in a sandbox is worth. -/
noncomputable def Try.pinned : Pinned := { name := "ytccbhddfngdlfaa", sum := "26c7d66e921a112256a5982b3c03c8a7a800ac6a931f83aeaa2a49cc0dcdf328", checked := Try.checked }
namespace Rows
def none {H : Type} : Left H := { results := [], args := [] }

/-- 'laws.FnSplitSpace': WHATEVER THE INPUT: true; the input reads as it did. -/
def fnSplitSpaceSpec : ChangeSpec := { name := "fnSplitSpace", fn := fun _ => fun
  | [d1, d2] => { results := [.lit (.bool true)], args := [d1, d2] }
  | _ => none }
def fnSplitSpaceRow : OpenClaim := { program := "ytccbhddfngdlfaa", sum := "26c7d66e921a112256a5982b3c03c8a7a800ac6a931f83aeaa2a49cc0dcdf328", func := "given.example/pub-larkspur/laws.FnSplitSpace", spec := "fnSplitSpace", apart := false }
def FnSplitSpaceSaid : Prop := fnSplitSpaceRow.holds Try.pinned (OpenSpec.ofChange fnSplitSpaceSpec)

/-- ITS FALSE NEIGHBOUR: 'it returns false'. Refute it at one input. -/
def fnSplitSpaceWrong : ChangeSpec := { name := "fnSplitSpace", fn := fun _ => fun
  | [d1, d2] => { results := [.lit (.bool false)], args := [d1, d2] }
  | _ => none }
def FnSplitSpaceWrongFalsely : Prop := fnSplitSpaceRow.holds Try.pinned (OpenSpec.ofChange fnSplitSpaceWrong)

/-- 'laws.FnBoolCompare': WHATEVER THE INPUT: true; the input reads as it did. -/
def fnBoolCompareSpec : ChangeSpec := { name := "fnBoolCompare", fn := fun _ => fun
  | [d1, d2, d3] => { results := [.lit (.bool true)], args := [d1, d2, d3] }
  | _ => none }
def fnBoolCompareRow : OpenClaim := { program := "ytccbhddfngdlfaa", sum := "26c7d66e921a112256a5982b3c03c8a7a800ac6a931f83aeaa2a49cc0dcdf328", func := "given.example/pub-larkspur/laws.FnBoolCompare", spec := "fnBoolCompare", inPlace := ["math.Float64frombits", "math.Float64bits"], recurses := true, apart := false }
def FnBoolCompareSaid : Prop := fnBoolCompareRow.holds Try.pinned (OpenSpec.ofChange fnBoolCompareSpec)

/-- ITS FALSE NEIGHBOUR: 'it returns false'. Refute it at one input. -/
def fnBoolCompareWrong : ChangeSpec := { name := "fnBoolCompare", fn := fun _ => fun
  | [d1, d2, d3] => { results := [.lit (.bool false)], args := [d1, d2, d3] }
  | _ => none }
def FnBoolCompareWrongFalsely : Prop := fnBoolCompareRow.holds Try.pinned (OpenSpec.ofChange fnBoolCompareWrong)

/-- 'laws.FnBytesIndex': WHATEVER THE INPUT: true; the input reads as it did. -/
def fnBytesIndexSpec : ChangeSpec := { name := "fnBytesIndex", fn := fun _ => fun
  | [d1, d2] => { results := [.lit (.bool true)], args := [d1, d2] }
  | _ => none }
def fnBytesIndexRow : OpenClaim := { program := "ytccbhddfngdlfaa", sum := "26c7d66e921a112256a5982b3c03c8a7a800ac6a931f83aeaa2a49cc0dcdf328", func := "given.example/pub-larkspur/laws.FnBytesIndex", spec := "fnBytesIndex", inPlace := ["math.Float64bits", "math.Float64frombits"], recurses := true, apart := false }
def FnBytesIndexSaid : Prop := fnBytesIndexRow.holds Try.pinned (OpenSpec.ofChange fnBytesIndexSpec)

/-- ITS FALSE NEIGHBOUR: 'it returns false'. Refute it at one input. -/
def fnBytesIndexWrong : ChangeSpec := { name := "fnBytesIndex", fn := fun _ => fun
  | [d1, d2] => { results := [.lit (.bool false)], args := [d1, d2] }
  | _ => none }
def FnBytesIndexWrongFalsely : Prop := fnBytesIndexRow.holds Try.pinned (OpenSpec.ofChange fnBytesIndexWrong)

/- THE SECOND FORM. 'bulk': how many values and letters a reading holds, each counted each time it is reached (what is shared counts as often as it is met; a slice's spare places count too). A statement '..UptoSaid' is the law's where the arguments, and the package variables that the reading takes, are together of bulk at most 1048576: NARROWER than '..Said'. Prove '..Said' where nothing that the law and all that it calls make is longer than what came in: it says more and counts as full. Else prove '..UptoSaid'. A law counts once. -/
mutual
def uptoBulk {H : Type} : DataW H → Nat
  | .lit (.string bytes) => bytes.length + 1
  | .lit _ => 1
  | .nil => 1
  | .ptr d => uptoBulk d + 1
  | .slice elems spare => uptoBulkAll elems + uptoBulkAll spare + 1
  | .agg parts => uptoBulkAll parts + 1
  | .iface _ d => uptoBulk d + 1
  | .map entries => uptoBulkEntries entries + 1
  | .held _ => 1
def uptoBulkAll {H : Type} : List (DataW H) → Nat
  | [] => 0
  | d :: r => uptoBulk d + uptoBulkAll r
def uptoBulkEntries {H : Type} : List (Lit × DataW H) → Nat
  | [] => 0
  | x :: r => uptoBulkEntry x + uptoBulkEntries r
def uptoBulkEntry {H : Type} : Lit × DataW H → Nat
  | (.string bytes, d) => bytes.length + uptoBulk d + 1
  | (_, d) => uptoBulk d + 1
 end
def uptoSmall : (H : Type) → List (DataW H) → Bool := fun _ ds => decide (uptoBulkAll ds ≤ 1048576)
def OpenSpec.upto (s : _root_.Go.ChangeSpec) : _root_.Go.OpenSpec := { _root_.Go.OpenSpec.ofChange s with cond := some uptoSmall }

/-- 'laws.FnSplitSpace', WHERE WHAT IT READS IS OF BULK AT MOST 1048576: true; the input reads as it did. -/
def fnSplitSpaceUptoRow : OpenClaim := { program := "ytccbhddfngdlfaa", sum := "26c7d66e921a112256a5982b3c03c8a7a800ac6a931f83aeaa2a49cc0dcdf328", func := "given.example/pub-larkspur/laws.FnSplitSpace", spec := "fnSplitSpace", apart := false, narrowed := true }
def FnSplitSpaceUptoSaid : Prop := fnSplitSpaceUptoRow.holds Try.pinned (OpenSpec.upto fnSplitSpaceSpec)

/-- 'laws.FnBoolCompare', WHERE WHAT IT READS IS OF BULK AT MOST 1048576: true; the input reads as it did. -/
def fnBoolCompareUptoRow : OpenClaim := { program := "ytccbhddfngdlfaa", sum := "26c7d66e921a112256a5982b3c03c8a7a800ac6a931f83aeaa2a49cc0dcdf328", func := "given.example/pub-larkspur/laws.FnBoolCompare", spec := "fnBoolCompare", inPlace := ["math.Float64frombits", "math.Float64bits"], recurses := true, apart := false, narrowed := true }
def FnBoolCompareUptoSaid : Prop := fnBoolCompareUptoRow.holds Try.pinned (OpenSpec.upto fnBoolCompareSpec)

/-- 'laws.FnBytesIndex', WHERE WHAT IT READS IS OF BULK AT MOST 1048576: true; the input reads as it did. -/
def fnBytesIndexUptoRow : OpenClaim := { program := "ytccbhddfngdlfaa", sum := "26c7d66e921a112256a5982b3c03c8a7a800ac6a931f83aeaa2a49cc0dcdf328", func := "given.example/pub-larkspur/laws.FnBytesIndex", spec := "fnBytesIndex", inPlace := ["math.Float64bits", "math.Float64frombits"], recurses := true, apart := false, narrowed := true }
def FnBytesIndexUptoSaid : Prop := fnBytesIndexUptoRow.holds Try.pinned (OpenSpec.upto fnBytesIndexSpec)

end Rows
end Go.Proofs.Ytccbhddfngdlfaa
