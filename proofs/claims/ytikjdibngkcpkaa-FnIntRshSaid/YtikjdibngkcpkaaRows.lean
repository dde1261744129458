/-
  No cell of these rows narrows 'for every input' (looked for: loops, veiled, ifaces, maps, wideKeys, modest, calm, conditions, laid).
  DERIVED. THE GIVEN ROWS OF THIS SEAT. 6 by the template 'for every input the law returns true; each argument reads behind the call as it read before'; 0 by the template 'total and deterministic' (their statements: YtikjdibngkcpkaaTotals.lean).
  GIVEN WITH THE SEED: the statements are not yours to turn. If you find one false, say at which input.
  Laid BY PROGRAM, IN A SANDBOX (cutbox-rows.mjs): the forced cells as the released guide's own fill.sh prints them over the translation 7ee259089b79938f… (all of the seat's roots in one cut). By AI agents, Wed Nov 11 2026. No macro, syntax, notation, axiom, sorry.
-/
import Derived.Test.YtikjdibngkcpkaaChecked
import GoSem.Claim
import GoSem.ClaimJoined
import GoSem.ClaimMapViews
import Derived.JoinedTies
import Derived.KernelRfl
namespace Go.Proofs.Ytikjdibngkcpkaa
/- THE CELL 'sum', in the pinned program and in every row, IS THE sha256 OF THE DUMP (.gsa) THAT YtikjdibngkcpkaaProg.lean LOADS. Nothing in Lean hashes anything: it is a label: what it is worth is what the hold of that sum in a sandbox is worth. -/
noncomputable def Try.pinned : Pinned := { name := "ytikjdibngkcpkaa", sum := "7ee259089b79938fa8b22c99f833702b784077f6033742e26e371b3474300398", checked := Try.checked }
namespace Rows
def none {H : Type} : Left H := { results := [], args := [] }

/-- 'laws.FnIntHash': WHATEVER THE INPUT: true; the input reads as it did. -/
def fnIntHashSpec : ChangeSpec := { name := "fnIntHash", fn := fun _ => fun
  | [d1, d2] => { results := [.lit (.bool true)], args := [d1, d2] }
  | _ => none }
def fnIntHashRow : OpenClaim := { program := "ytikjdibngkcpkaa", sum := "7ee259089b79938fa8b22c99f833702b784077f6033742e26e371b3474300398", func := "given.example/pub-larkspur/laws.FnIntHash", spec := "fnIntHash", apart := false }
def FnIntHashSaid : Prop := fnIntHashRow.holds Try.pinned (OpenSpec.ofChange fnIntHashSpec)

/-- ITS FALSE NEIGHBOUR: 'it returns false'. Refute it at one input. -/
def fnIntHashWrong : ChangeSpec := { name := "fnIntHash", fn := fun _ => fun
  | [d1, d2] => { results := [.lit (.bool false)], args := [d1, d2] }
  | _ => none }
def FnIntHashWrongFalsely : Prop := fnIntHashRow.holds Try.pinned (OpenSpec.ofChange fnIntHashWrong)

/-- 'laws.FnScalarTruth': WHATEVER THE INPUT: true; the input reads as it did. -/
def fnScalarTruthSpec : ChangeSpec := { name := "fnScalarTruth", fn := fun _ => fun
  | [d1, d2, d3, d4] => { results := [.lit (.bool true)], args := [d1, d2, d3, d4] }
  | _ => none }
def fnScalarTruthRow : OpenClaim := { program := "ytikjdibngkcpkaa", sum := "7ee259089b79938fa8b22c99f833702b784077f6033742e26e371b3474300398", func := "given.example/pub-larkspur/laws.FnScalarTruth", spec := "fnScalarTruth", inPlace := ["math.Float64frombits"], apart := false }
def FnScalarTruthSaid : Prop := fnScalarTruthRow.holds Try.pinned (OpenSpec.ofChange fnScalarTruthSpec)

/-- ITS FALSE NEIGHBOUR: 'it returns false'. Refute it at one input. -/
def fnScalarTruthWrong : ChangeSpec := { name := "fnScalarTruth", fn := fun _ => fun
  | [d1, d2, d3, d4] => { results := [.lit (.bool false)], args := [d1, d2, d3, d4] }
  | _ => none }
def FnScalarTruthWrongFalsely : Prop := fnScalarTruthRow.holds Try.pinned (OpenSpec.ofChange fnScalarTruthWrong)

/-- 'laws.FnRangeHas': WHATEVER THE INPUT: true; the input reads as it did. -/
def fnRangeHasSpec : ChangeSpec := { name := "fnRangeHas", fn := fun _ => fun
  | [d1, d2, d3, d4, d5] => { results := [.lit (.bool true)], args := [d1, d2, d3, d4, d5] }
  | _ => none }
def fnRangeHasRow : OpenClaim := { program := "ytikjdibngkcpkaa", sum := "7ee259089b79938fa8b22c99f833702b784077f6033742e26e371b3474300398", func := "given.example/pub-larkspur/laws.FnRangeHas", spec := "fnRangeHas", apart := false }
def FnRangeHasSaid : Prop := fnRangeHasRow.holds Try.pinned (OpenSpec.ofChange fnRangeHasSpec)

/-- ITS FALSE NEIGHBOUR: 'it returns false'. Refute it at one input. -/
def fnRangeHasWrong : ChangeSpec := { name := "fnRangeHas", fn := fun _ => fun
  | [d1, d2, d3, d4, d5] => { results := [.lit (.bool false)], args := [d1, d2, d3, d4, d5] }
  | _ => none }
def FnRangeHasWrongFalsely : Prop := fnRangeHasRow.holds Try.pinned (OpenSpec.ofChange fnRangeHasWrong)

/-- 'laws.FnIntRsh': WHATEVER THE INPUT: true; the input reads as it did. -/
def fnIntRshSpec : ChangeSpec := { name := "fnIntRsh", fn := fun _ => fun
  | [d1, d2, d3] => { results := [.lit (.bool true)], args := [d1, d2, d3] }
  | _ => none }
def fnIntRshRow : OpenClaim := { program := "ytikjdibngkcpkaa", sum := "7ee259089b79938fa8b22c99f833702b784077f6033742e26e371b3474300398", func := "given.example/pub-larkspur/laws.FnIntRsh", spec := "fnIntRsh", inPlace := ["math/bits.Sub64", "math/bits.Add64"], recurses := true, apart := false }
def FnIntRshSaid : Prop := fnIntRshRow.holds Try.pinned (OpenSpec.ofChange fnIntRshSpec)

/-- ITS FALSE NEIGHBOUR: 'it returns false'. Refute it at one input. -/
def fnIntRshWrong : ChangeSpec := { name := "fnIntRsh", fn := fun _ => fun
  | [d1, d2, d3] => { results := [.lit (.bool false)], args := [d1, d2, d3] }
  | _ => none }
def FnIntRshWrongFalsely : Prop := fnIntRshRow.holds Try.pinned (OpenSpec.ofChange fnIntRshWrong)

/-- 'laws.FnIntOr': WHATEVER THE INPUT: true; the input reads as it did. -/
def fnIntOrSpec : ChangeSpec := { name := "fnIntOr", fn := fun _ => fun
  | [d1, d2, d3, d4] => { results := [.lit (.bool true)], args := [d1, d2, d3, d4] }
  | _ => none }
def fnIntOrRow : OpenClaim := { program := "ytikjdibngkcpkaa", sum := "7ee259089b79938fa8b22c99f833702b784077f6033742e26e371b3474300398", func := "given.example/pub-larkspur/laws.FnIntOr", spec := "fnIntOr", inPlace := ["math/bits.Sub64", "math/bits.Add64"], recurses := true, apart := false }
def FnIntOrSaid : Prop := fnIntOrRow.holds Try.pinned (OpenSpec.ofChange fnIntOrSpec)

/-- ITS FALSE NEIGHBOUR: 'it returns false'. Refute it at one input. -/
def fnIntOrWrong : ChangeSpec := { name := "fnIntOr", fn := fun _ => fun
  | [d1, d2, d3, d4] => { results := [.lit (.bool false)], args := [d1, d2, d3, d4] }
  | _ => none }
def FnIntOrWrongFalsely : Prop := fnIntOrRow.holds Try.pinned (OpenSpec.ofChange fnIntOrWrong)

/-- 'laws.FnIntFloat': WHATEVER THE INPUT: true; the input reads as it did. -/
def fnIntFloatSpec : ChangeSpec := { name := "fnIntFloat", fn := fun _ => fun
  | [d1, d2] => { results := [.lit (.bool true)], args := [d1, d2] }
  | _ => none }
def fnIntFloatRow : OpenClaim := { program := "ytikjdibngkcpkaa", sum := "7ee259089b79938fa8b22c99f833702b784077f6033742e26e371b3474300398", func := "given.example/pub-larkspur/laws.FnIntFloat", spec := "fnIntFloat", inPlace := ["math.Float64frombits", "math/bits.Add64", "math.Float64bits"], apart := false }
def FnIntFloatSaid : Prop := fnIntFloatRow.holds Try.pinned (OpenSpec.ofChange fnIntFloatSpec)

/-- ITS FALSE NEIGHBOUR: 'it returns false'. Refute it at one input. -/
def fnIntFloatWrong : ChangeSpec := { name := "fnIntFloat", fn := fun _ => fun
  | [d1, d2] => { results := [.lit (.bool false)], args := [d1, d2] }
  | _ => none }
def FnIntFloatWrongFalsely : Prop := fnIntFloatRow.holds Try.pinned (OpenSpec.ofChange fnIntFloatWrong)

/- THE SECOND FORM. 'bulk': how many values and letters a reading holds, each counted each time it is reached (what is shared counts as often as it is met; a slice's spare places count too). A statement '..UptoSaid' is the law's where the arguments, and the package variables that the reading takes, are together of bulk at most 1048576: NARROWER than '..Said'. Prove '..Said' where nothing that the law and all that it calls make is longer than what came in: it says more and counts as full. Else prove '..UptoSaid'. A law counts once. -/
mutual
def uptoBulk {H : Type} : DataW H → Nat
  | .lit (.string bytes) => bytes.length + 1
  | .lit _ => 1
  | .nil => 1
  | .ptr d => uptoBulk d + 1
  | .slice elems spare => uptoBulkAll elems + uptoBulkAll spare + 1
  | .agg parts => uptoBulkAll parts + 1
  | .iface _ d => uptoBulk d + 1
  | .map entries => uptoBulkEntries entries + 1
  | .held _ => 1
def uptoBulkAll {H : Type} : List (DataW H) → Nat
  | [] => 0
  | d :: r => uptoBulk d + uptoBulkAll r
def uptoBulkEntries {H : Type} : List (Lit × DataW H) → Nat
  | [] => 0
  | x :: r => uptoBulkEntry x + uptoBulkEntries r
def uptoBulkEntry {H : Type} : Lit × DataW H → Nat
  | (.string bytes, d) => bytes.length + uptoBulk d + 1
  | (_, d) => uptoBulk d + 1
 end
def uptoSmall : (H : Type) → List (DataW H) → Bool := fun _ ds => decide (uptoBulkAll ds ≤ 1048576)
def OpenSpec.upto (s : _root_.Go.ChangeSpec) : _root_.Go.OpenSpec := { _root_.Go.OpenSpec.ofChange s with cond := some uptoSmall }

/-- 'laws.FnIntHash', WHERE WHAT IT READS IS OF BULK AT MOST 1048576: true; the input reads as it did. -/
def fnIntHashUptoRow : OpenClaim := { program := "ytikjdibngkcpkaa", sum := "7ee259089b79938fa8b22c99f833702b784077f6033742e26e371b3474300398", func := "given.example/pub-larkspur/laws.FnIntHash", spec := "fnIntHash", apart := false, narrowed := true }
def FnIntHashUptoSaid : Prop := fnIntHashUptoRow.holds Try.pinned (OpenSpec.upto fnIntHashSpec)

/-- 'laws.FnScalarTruth', WHERE WHAT IT READS IS OF BULK AT MOST 1048576: true; the input reads as it did. -/
def fnScalarTruthUptoRow : OpenClaim := { program := "ytikjdibngkcpkaa", sum := "7ee259089b79938fa8b22c99f833702b784077f6033742e26e371b3474300398", func := "given.example/pub-larkspur/laws.FnScalarTruth", spec := "fnScalarTruth", inPlace := ["math.Float64frombits"], apart := false, narrowed := true }
def FnScalarTruthUptoSaid : Prop := fnScalarTruthUptoRow.holds Try.pinned (OpenSpec.upto fnScalarTruthSpec)

/-- 'laws.FnRangeHas', WHERE WHAT IT READS IS OF BULK AT MOST 1048576: true; the input reads as it did. -/
def fnRangeHasUptoRow : OpenClaim := { program := "ytikjdibngkcpkaa", sum := "7ee259089b79938fa8b22c99f833702b784077f6033742e26e371b3474300398", func := "given.example/pub-larkspur/laws.FnRangeHas", spec := "fnRangeHas", apart := false, narrowed := true }
def FnRangeHasUptoSaid : Prop := fnRangeHasUptoRow.holds Try.pinned (OpenSpec.upto fnRangeHasSpec)

/-- 'laws.FnIntRsh', WHERE WHAT IT READS IS OF BULK AT MOST 1048576: true; the input reads as it did. -/
def fnIntRshUptoRow : OpenClaim := { program := "ytikjdibngkcpkaa", sum := "7ee259089b79938fa8b22c99f833702b784077f6033742e26e371b3474300398", func := "given.example/pub-larkspur/laws.FnIntRsh", spec := "fnIntRsh", inPlace := ["math/bits.Sub64", "math/bits.Add64"], recurses := true, apart := false, narrowed := true }
def FnIntRshUptoSaid : Prop := fnIntRshUptoRow.holds Try.pinned (OpenSpec.upto fnIntRshSpec)

/-- 'laws.FnIntOr', WHERE WHAT IT READS IS OF BULK AT MOST 1048576: true; the input reads as it did. -/
def fnIntOrUptoRow : OpenClaim := { program := "ytikjdibngkcpkaa", sum := "7ee259089b79938fa8b22c99f833702b784077f6033742e26e371b3474300398", func := "given.example/pub-larkspur/laws.FnIntOr", spec := "fnIntOr", inPlace := ["math/bits.Sub64", "math/bits.Add64"], recurses := true, apart := false, narrowed := true }
def FnIntOrUptoSaid : Prop := fnIntOrUptoRow.holds Try.pinned (OpenSpec.upto fnIntOrSpec)

/-- 'laws.FnIntFloat', WHERE WHAT IT READS IS OF BULK AT MOST 1048576: true; the input reads as it did. -/
def fnIntFloatUptoRow : OpenClaim := { program := "ytikjdibngkcpkaa", sum := "7ee259089b79938fa8b22c99f833702b784077f6033742e26e371b3474300398", func := "given.example/pub-larkspur/laws.FnIntFloat", spec := "fnIntFloat", inPlace := ["math.Float64frombits", "math/bits.Add64", "math.Float64bits"], apart := false, narrowed := true }
def FnIntFloatUptoSaid : Prop := fnIntFloatUptoRow.holds Try.pinned (OpenSpec.upto fnIntFloatSpec)

end Rows
end Go.Proofs.Ytikjdibngkcpkaa
