/-
  No cell of these rows narrows 'for every input' (looked for: loops, veiled, ifaces, maps, wideKeys, modest, calm, conditions, laid).
  DERIVED. THE GIVEN ROWS OF THIS SEAT. 4 by the template 'for every input the law returns true; each argument reads behind the call as it read before'; 0 by the template 'total and deterministic' (their statements: YtaljjmodabjaeaaTotals.lean).
  GIVEN WITH THE SEED: the statements are not yours to turn. If you find one false, say at which input.
  Laid BY PROGRAM, IN A SANDBOX (cutbox-rows.mjs): the forced cells as the released guide's own fill.sh prints them over the translation e85c22a05d8a83c9… (all of the seat's roots in one cut). By AI agents, Wed Nov 11 2026. No macro, syntax, notation, axiom, sorry.
-/
import Derived.Test.YtaljjmodabjaeaaChecked
import GoSem.Claim
import GoSem.ClaimJoined
import GoSem.ClaimMapViews
import Derived.JoinedTies
import Derived.KernelRfl
namespace Go.Proofs.Ytaljjmodabjaeaa
/- THE CELL 'sum', in the pinned program and in every row, IS THE sha256 OF THE DUMP (.gsa) THAT YtaljjmodabjaeaaProg.lean LOADS. Nothing in Lean hashes anything: it is a label: what it is worth is what the hold of that sum in a sandbox is worth. -/
noncomputable def Try.pinned : Pinned := { name := "ytaljjmodabjaeaa", sum := "e85c22a05d8a83c98f2575021ef9e43e700492b3bfe6d8f3b86f6222068a11f5", checked := Try.checked }
namespace Rows
def none {H : Type} : Left H := { results := [], args := [] }

/-- 'laws.FnUlpSize': WHATEVER THE INPUT: true; the input reads as it did. -/
def fnUlpSizeSpec : ChangeSpec := { name := "fnUlpSize", fn := fun _ => fun
  | [d] => { results := [.lit (.bool true)], args := [d] }
  | _ => none }
def fnUlpSizeRow : OpenClaim := { program := "ytaljjmodabjaeaa", sum := "e85c22a05d8a83c98f2575021ef9e43e700492b3bfe6d8f3b86f6222068a11f5", func := "pub-alidade/laws.FnUlpSize", spec := "fnUlpSize", inPlace := ["math.Float64bits", "math.Float64frombits"], apart := false }
def FnUlpSizeSaid : Prop := fnUlpSizeRow.holds Try.pinned (OpenSpec.ofChange fnUlpSizeSpec)

/-- ITS FALSE NEIGHBOUR: 'it returns false'. Refute it at one input. -/
def fnUlpSizeWrong : ChangeSpec := { name := "fnUlpSize", fn := fun _ => fun
  | [d] => { results := [.lit (.bool false)], args := [d] }
  | _ => none }
def FnUlpSizeWrongFalsely : Prop := fnUlpSizeRow.holds Try.pinned (OpenSpec.ofChange fnUlpSizeWrong)

/-- 'laws.FnSegmentLess': WHATEVER THE INPUT: true; the input reads as it did. -/
def fnSegmentLessSpec : ChangeSpec := { name := "fnSegmentLess", fn := fun _ => fun
  | [d1, d2, d3, d4] => { results := [.lit (.bool true)], args := [d1, d2, d3, d4] }
  | _ => none }
def fnSegmentLessRow : OpenClaim := { program := "ytaljjmodabjaeaa", sum := "e85c22a05d8a83c98f2575021ef9e43e700492b3bfe6d8f3b86f6222068a11f5", func := "pub-alidade/laws.FnSegmentLess", spec := "fnSegmentLess", apart := false }
def FnSegmentLessSaid : Prop := fnSegmentLessRow.holds Try.pinned (OpenSpec.ofChange fnSegmentLessSpec)

/-- ITS FALSE NEIGHBOUR: 'it returns false'. Refute it at one input. -/
def fnSegmentLessWrong : ChangeSpec := { name := "fnSegmentLess", fn := fun _ => fun
  | [d1, d2, d3, d4] => { results := [.lit (.bool false)], args := [d1, d2, d3, d4] }
  | _ => none }
def FnSegmentLessWrongFalsely : Prop := fnSegmentLessRow.holds Try.pinned (OpenSpec.ofChange fnSegmentLessWrong)

/-- 'laws.FnBoxDistanceMeets': WHATEVER THE INPUT: true; the input reads as it did. -/
def fnBoxDistanceMeetsSpec : ChangeSpec := { name := "fnBoxDistanceMeets", fn := fun _ => fun
  | [d1, d2] => { results := [.lit (.bool true)], args := [d1, d2] }
  | _ => none }
def fnBoxDistanceMeetsRow : OpenClaim := { program := "ytaljjmodabjaeaa", sum := "e85c22a05d8a83c98f2575021ef9e43e700492b3bfe6d8f3b86f6222068a11f5", func := "pub-alidade/laws.FnBoxDistanceMeets", spec := "fnBoxDistanceMeets", inPlace := ["math.archTrunc", "math.Float64bits", "math.Float64frombits"], apart := false }
def FnBoxDistanceMeetsSaid : Prop := fnBoxDistanceMeetsRow.holds Try.pinned (OpenSpec.ofChange fnBoxDistanceMeetsSpec)

/-- ITS FALSE NEIGHBOUR: 'it returns false'. Refute it at one input. -/
def fnBoxDistanceMeetsWrong : ChangeSpec := { name := "fnBoxDistanceMeets", fn := fun _ => fun
  | [d1, d2] => { results := [.lit (.bool false)], args := [d1, d2] }
  | _ => none }
def FnBoxDistanceMeetsWrongFalsely : Prop := fnBoxDistanceMeetsRow.holds Try.pinned (OpenSpec.ofChange fnBoxDistanceMeetsWrong)

/-- 'laws.FnEnvIntersectsPlace': WHATEVER THE INPUT: true; the input reads as it did. -/
def fnEnvIntersectsPlaceSpec : ChangeSpec := { name := "fnEnvIntersectsPlace", fn := fun _ => fun
  | [d1, d2, d3] => { results := [.lit (.bool true)], args := [d1, d2, d3] }
  | _ => none }
def fnEnvIntersectsPlaceRow : OpenClaim := { program := "ytaljjmodabjaeaa", sum := "e85c22a05d8a83c98f2575021ef9e43e700492b3bfe6d8f3b86f6222068a11f5", func := "pub-alidade/laws.FnEnvIntersectsPlace", spec := "fnEnvIntersectsPlace", inPlace := ["math.Float64bits", "math.Float64frombits"], apart := false }
def FnEnvIntersectsPlaceSaid : Prop := fnEnvIntersectsPlaceRow.holds Try.pinned (OpenSpec.ofChange fnEnvIntersectsPlaceSpec)

/-- ITS FALSE NEIGHBOUR: 'it returns false'. Refute it at one input. -/
def fnEnvIntersectsPlaceWrong : ChangeSpec := { name := "fnEnvIntersectsPlace", fn := fun _ => fun
  | [d1, d2, d3] => { results := [.lit (.bool false)], args := [d1, d2, d3] }
  | _ => none }
def FnEnvIntersectsPlaceWrongFalsely : Prop := fnEnvIntersectsPlaceRow.holds Try.pinned (OpenSpec.ofChange fnEnvIntersectsPlaceWrong)

/- THE SECOND FORM. 'bulk': how many values and letters a reading holds, each counted each time it is reached (what is shared counts as often as it is met; a slice's spare places count too). A statement '..UptoSaid' is the law's where the arguments, and the package variables that the reading takes, are together of bulk at most 1048576: NARROWER than '..Said'. Prove '..Said' where nothing that the law and all that it calls make is longer than what came in: it says more and counts as full. Else prove '..UptoSaid'. A law counts once. -/
mutual
def uptoBulk {H : Type} : DataW H → Nat
  | .lit (.string bytes) => bytes.length + 1
  | .lit _ => 1
  | .nil => 1
  | .ptr d => uptoBulk d + 1
  | .slice elems spare => uptoBulkAll elems + uptoBulkAll spare + 1
  | .agg parts => uptoBulkAll parts + 1
  | .iface _ d => uptoBulk d + 1
  | .map entries => uptoBulkEntries entries + 1
  | .held _ => 1
def uptoBulkAll {H : Type} : List (DataW H) → Nat
  | [] => 0
  | d :: r => uptoBulk d + uptoBulkAll r
def uptoBulkEntries {H : Type} : List (Lit × DataW H) → Nat
  | [] => 0
  | x :: r => uptoBulkEntry x + uptoBulkEntries r
def uptoBulkEntry {H : Type} : Lit × DataW H → Nat
  | (.string bytes, d) => bytes.length + uptoBulk d + 1
  | (_, d) => uptoBulk d + 1
 end
def uptoSmall : (H : Type) → List (DataW H) → Bool := fun _ ds => decide (uptoBulkAll ds ≤ 1048576)
def OpenSpec.upto (s : _root_.Go.ChangeSpec) : _root_.Go.OpenSpec := { _root_.Go.OpenSpec.ofChange s with cond := some uptoSmall }

/-- 'laws.FnUlpSize', WHERE WHAT IT READS IS OF BULK AT MOST 1048576: true; the input reads as it did. -/
def fnUlpSizeUptoRow : OpenClaim := { program := "ytaljjmodabjaeaa", sum := "e85c22a05d8a83c98f2575021ef9e43e700492b3bfe6d8f3b86f6222068a11f5", func := "pub-alidade/laws.FnUlpSize", spec := "fnUlpSize", inPlace := ["math.Float64bits", "math.Float64frombits"], apart := false, narrowed := true }
def FnUlpSizeUptoSaid : Prop := fnUlpSizeUptoRow.holds Try.pinned (OpenSpec.upto fnUlpSizeSpec)

/-- 'laws.FnSegmentLess', WHERE WHAT IT READS IS OF BULK AT MOST 1048576: true; the input reads as it did. -/
def fnSegmentLessUptoRow : OpenClaim := { program := "ytaljjmodabjaeaa", sum := "e85c22a05d8a83c98f2575021ef9e43e700492b3bfe6d8f3b86f6222068a11f5", func := "pub-alidade/laws.FnSegmentLess", spec := "fnSegmentLess", apart := false, narrowed := true }
def FnSegmentLessUptoSaid : Prop := fnSegmentLessUptoRow.holds Try.pinned (OpenSpec.upto fnSegmentLessSpec)

/-- 'laws.FnBoxDistanceMeets', WHERE WHAT IT READS IS OF BULK AT MOST 1048576: true; the input reads as it did. -/
def fnBoxDistanceMeetsUptoRow : OpenClaim := { program := "ytaljjmodabjaeaa", sum := "e85c22a05d8a83c98f2575021ef9e43e700492b3bfe6d8f3b86f6222068a11f5", func := "pub-alidade/laws.FnBoxDistanceMeets", spec := "fnBoxDistanceMeets", inPlace := ["math.archTrunc", "math.Float64bits", "math.Float64frombits"], apart := false, narrowed := true }
def FnBoxDistanceMeetsUptoSaid : Prop := fnBoxDistanceMeetsUptoRow.holds Try.pinned (OpenSpec.upto fnBoxDistanceMeetsSpec)

/-- 'laws.FnEnvIntersectsPlace', WHERE WHAT IT READS IS OF BULK AT MOST 1048576: true; the input reads as it did. -/
def fnEnvIntersectsPlaceUptoRow : OpenClaim := { program := "ytaljjmodabjaeaa", sum := "e85c22a05d8a83c98f2575021ef9e43e700492b3bfe6d8f3b86f6222068a11f5", func := "pub-alidade/laws.FnEnvIntersectsPlace", spec := "fnEnvIntersectsPlace", inPlace := ["math.Float64bits", "math.Float64frombits"], apart := false, narrowed := true }
def FnEnvIntersectsPlaceUptoSaid : Prop := fnEnvIntersectsPlaceUptoRow.holds Try.pinned (OpenSpec.upto fnEnvIntersectsPlaceSpec)

end Rows
end Go.Proofs.Ytaljjmodabjaeaa
