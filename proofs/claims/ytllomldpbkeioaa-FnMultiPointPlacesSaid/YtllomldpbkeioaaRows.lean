/-
  NARROWER THAN 'FOR EVERY INPUT', by the rows' own cells (each row's printed sentence says how): FnRotateLinesTwice: loops · FnSeqForce: loops · FnLineForce: loops · FnMultiPointPlaces: loops.
  DERIVED. THE GIVEN ROWS OF THIS SEAT. 5 by the template 'for every input the law returns true; each argument reads behind the call as it read before'; 0 by the template 'total and deterministic' (their statements: YtllomldpbkeioaaTotals.lean).
  GIVEN WITH THE SEED: the statements are not yours to turn. If you find one false, say at which input.
  Laid BY PROGRAM, IN A SANDBOX (cutbox-rows.mjs): the forced cells as the released guide's own fill.sh prints them over the translation 1720ee67957f9511… (all of the seat's roots in one cut). By AI agents, Wed Nov 11 2026. No macro, syntax, notation, axiom, sorry.
-/
import Derived.Test.YtllomldpbkeioaaChecked
import GoSem.Claim
import GoSem.ClaimJoined
import GoSem.ClaimMapViews
import Derived.JoinedTies
import Derived.KernelRfl
namespace Go.Proofs.Ytllomldpbkeioaa
/- THE CELL 'sum', in the pinned program and in every row, IS THE sha256 OF THE DUMP (.gsa) THAT YtllomldpbkeioaaProg.lean LOADS. Nothing in Lean hashes anything: it is a label: what it is worth is what the hold of that sum in a sandbox is worth. -/
noncomputable def Try.pinned : Pinned := { name := "ytllomldpbkeioaa", sum := "1720ee67957f9511ba7c78f8e98b5ba722d3c92dc4c254bbffe3b37c1ff9dca2", checked := Try.checked }
namespace Rows
def none {H : Type} : Left H := { results := [], args := [] }

/-- 'laws.FnRotateLinesTwice': WHATEVER THE INPUT: true; the input reads as it did. -/
def fnRotateLinesTwiceSpec : ChangeSpec := { name := "fnRotateLinesTwice", fn := fun _ => fun
  | [d1, d2] => { results := [.lit (.bool true)], args := [d1, d2] }
  | _ => none }
def fnRotateLinesTwiceRow : OpenClaim := { program := "ytllomldpbkeioaa", sum := "1720ee67957f9511ba7c78f8e98b5ba722d3c92dc4c254bbffe3b37c1ff9dca2", func := "pub-alidade/laws.FnRotateLinesTwice", spec := "fnRotateLinesTwice", inPlace := ["math.Float64bits"], recurses := true, loops := true, apart := false }
def FnRotateLinesTwiceSaid : Prop := fnRotateLinesTwiceRow.holds Try.pinned (OpenSpec.ofChange fnRotateLinesTwiceSpec)

/-- ITS FALSE NEIGHBOUR: 'it returns false'. Refute it at one input. -/
def fnRotateLinesTwiceWrong : ChangeSpec := { name := "fnRotateLinesTwice", fn := fun _ => fun
  | [d1, d2] => { results := [.lit (.bool false)], args := [d1, d2] }
  | _ => none }
def FnRotateLinesTwiceWrongFalsely : Prop := fnRotateLinesTwiceRow.holds Try.pinned (OpenSpec.ofChange fnRotateLinesTwiceWrong)

/-- 'laws.FnSeqForce': WHATEVER THE INPUT: true; the input reads as it did. -/
def fnSeqForceSpec : ChangeSpec := { name := "fnSeqForce", fn := fun _ => fun
  | [d1, d2] => { results := [.lit (.bool true)], args := [d1, d2] }
  | _ => none }
def fnSeqForceRow : OpenClaim := { program := "ytllomldpbkeioaa", sum := "1720ee67957f9511ba7c78f8e98b5ba722d3c92dc4c254bbffe3b37c1ff9dca2", func := "pub-alidade/laws.FnSeqForce", spec := "fnSeqForce", inPlace := ["math.Float64bits"], recurses := true, loops := true, apart := false }
def FnSeqForceSaid : Prop := fnSeqForceRow.holds Try.pinned (OpenSpec.ofChange fnSeqForceSpec)

/-- ITS FALSE NEIGHBOUR: 'it returns false'. Refute it at one input. -/
def fnSeqForceWrong : ChangeSpec := { name := "fnSeqForce", fn := fun _ => fun
  | [d1, d2] => { results := [.lit (.bool false)], args := [d1, d2] }
  | _ => none }
def FnSeqForceWrongFalsely : Prop := fnSeqForceRow.holds Try.pinned (OpenSpec.ofChange fnSeqForceWrong)

/-- 'laws.FnLineForce': WHATEVER THE INPUT: true; the input reads as it did. -/
def fnLineForceSpec : ChangeSpec := { name := "fnLineForce", fn := fun _ => fun
  | [d1, d2] => { results := [.lit (.bool true)], args := [d1, d2] }
  | _ => none }
def fnLineForceRow : OpenClaim := { program := "ytllomldpbkeioaa", sum := "1720ee67957f9511ba7c78f8e98b5ba722d3c92dc4c254bbffe3b37c1ff9dca2", func := "pub-alidade/laws.FnLineForce", spec := "fnLineForce", inPlace := ["math.Float64bits"], recurses := true, loops := true, apart := false }
def FnLineForceSaid : Prop := fnLineForceRow.holds Try.pinned (OpenSpec.ofChange fnLineForceSpec)

/-- ITS FALSE NEIGHBOUR: 'it returns false'. Refute it at one input. -/
def fnLineForceWrong : ChangeSpec := { name := "fnLineForce", fn := fun _ => fun
  | [d1, d2] => { results := [.lit (.bool false)], args := [d1, d2] }
  | _ => none }
def FnLineForceWrongFalsely : Prop := fnLineForceRow.holds Try.pinned (OpenSpec.ofChange fnLineForceWrong)

/-- 'laws.FnLineBytesEither': WHATEVER THE INPUT: true; the input reads as it did. -/
def fnLineBytesEitherSpec : ChangeSpec := { name := "fnLineBytesEither", fn := fun _ => fun
  | [d1, d2, d3, d4] => { results := [.lit (.bool true)], args := [d1, d2, d3, d4] }
  | _ => none }
def fnLineBytesEitherRow : OpenClaim := { program := "ytllomldpbkeioaa", sum := "1720ee67957f9511ba7c78f8e98b5ba722d3c92dc4c254bbffe3b37c1ff9dca2", func := "pub-alidade/laws.FnLineBytesEither", spec := "fnLineBytesEither", inPlace := ["math.Float64bits", "math.Float64frombits"], unfollowed := true, recurses := true, named := ["encoding/binary.BigEndian", "encoding/binary.LittleEndian"], apart := false }
def FnLineBytesEitherSaid : Prop := fnLineBytesEitherRow.holds Try.pinned (OpenSpec.ofChange fnLineBytesEitherSpec)

/-- ITS FALSE NEIGHBOUR: 'it returns false'. Refute it at one input. -/
def fnLineBytesEitherWrong : ChangeSpec := { name := "fnLineBytesEither", fn := fun _ => fun
  | [d1, d2, d3, d4] => { results := [.lit (.bool false)], args := [d1, d2, d3, d4] }
  | _ => none }
def FnLineBytesEitherWrongFalsely : Prop := fnLineBytesEitherRow.holds Try.pinned (OpenSpec.ofChange fnLineBytesEitherWrong)

/-- 'laws.FnMultiPointPlaces': WHATEVER THE INPUT: true; the input reads as it did. -/
def fnMultiPointPlacesSpec : ChangeSpec := { name := "fnMultiPointPlaces", fn := fun _ => fun
  | [d] => { results := [.lit (.bool true)], args := [d] }
  | _ => none }
def fnMultiPointPlacesRow : OpenClaim := { program := "ytllomldpbkeioaa", sum := "1720ee67957f9511ba7c78f8e98b5ba722d3c92dc4c254bbffe3b37c1ff9dca2", func := "pub-alidade/laws.FnMultiPointPlaces", spec := "fnMultiPointPlaces", inPlace := ["math.Float64bits"], recurses := true, loops := true, apart := false }
def FnMultiPointPlacesSaid : Prop := fnMultiPointPlacesRow.holds Try.pinned (OpenSpec.ofChange fnMultiPointPlacesSpec)

/-- ITS FALSE NEIGHBOUR: 'it returns false'. Refute it at one input. -/
def fnMultiPointPlacesWrong : ChangeSpec := { name := "fnMultiPointPlaces", fn := fun _ => fun
  | [d] => { results := [.lit (.bool false)], args := [d] }
  | _ => none }
def FnMultiPointPlacesWrongFalsely : Prop := fnMultiPointPlacesRow.holds Try.pinned (OpenSpec.ofChange fnMultiPointPlacesWrong)

/- THE SECOND FORM. 'bulk': how many values and letters a reading holds, each counted each time it is reached (what is shared counts as often as it is met; a slice's spare places count too). A statement '..UptoSaid' is the law's where the arguments, and the package variables that the reading takes, are together of bulk at most 1048576: NARROWER than '..Said'. Prove '..Said' where nothing that the law and all that it calls make is longer than what came in: it says more and counts as full. Else prove '..UptoSaid'. A law counts once. -/
mutual
def uptoBulk {H : Type} : DataW H → Nat
  | .lit (.string bytes) => bytes.length + 1
  | .lit _ => 1
  | .nil => 1
  | .ptr d => uptoBulk d + 1
  | .slice elems spare => uptoBulkAll elems + uptoBulkAll spare + 1
  | .agg parts => uptoBulkAll parts + 1
  | .iface _ d => uptoBulk d + 1
  | .map entries => uptoBulkEntries entries + 1
  | .held _ => 1
def uptoBulkAll {H : Type} : List (DataW H) → Nat
  | [] => 0
  | d :: r => uptoBulk d + uptoBulkAll r
def uptoBulkEntries {H : Type} : List (Lit × DataW H) → Nat
  | [] => 0
  | x :: r => uptoBulkEntry x + uptoBulkEntries r
def uptoBulkEntry {H : Type} : Lit × DataW H → Nat
  | (.string bytes, d) => bytes.length + uptoBulk d + 1
  | (_, d) => uptoBulk d + 1
 end
def uptoSmall : (H : Type) → List (DataW H) → Bool := fun _ ds => decide (uptoBulkAll ds ≤ 1048576)
def OpenSpec.upto (s : _root_.Go.ChangeSpec) : _root_.Go.OpenSpec := { _root_.Go.OpenSpec.ofChange s with cond := some uptoSmall }

/-- 'laws.FnRotateLinesTwice', WHERE WHAT IT READS IS OF BULK AT MOST 1048576: true; the input reads as it did. -/
def fnRotateLinesTwiceUptoRow : OpenClaim := { program := "ytllomldpbkeioaa", sum := "1720ee67957f9511ba7c78f8e98b5ba722d3c92dc4c254bbffe3b37c1ff9dca2", func := "pub-alidade/laws.FnRotateLinesTwice", spec := "fnRotateLinesTwice", inPlace := ["math.Float64bits"], recurses := true, loops := true, apart := false, narrowed := true }
def FnRotateLinesTwiceUptoSaid : Prop := fnRotateLinesTwiceUptoRow.holds Try.pinned (OpenSpec.upto fnRotateLinesTwiceSpec)

/-- 'laws.FnSeqForce', WHERE WHAT IT READS IS OF BULK AT MOST 1048576: true; the input reads as it did. -/
def fnSeqForceUptoRow : OpenClaim := { program := "ytllomldpbkeioaa", sum := "1720ee67957f9511ba7c78f8e98b5ba722d3c92dc4c254bbffe3b37c1ff9dca2", func := "pub-alidade/laws.FnSeqForce", spec := "fnSeqForce", inPlace := ["math.Float64bits"], recurses := true, loops := true, apart := false, narrowed := true }
def FnSeqForceUptoSaid : Prop := fnSeqForceUptoRow.holds Try.pinned (OpenSpec.upto fnSeqForceSpec)

/-- 'laws.FnLineForce', WHERE WHAT IT READS IS OF BULK AT MOST 1048576: true; the input reads as it did. -/
def fnLineForceUptoRow : OpenClaim := { program := "ytllomldpbkeioaa", sum := "1720ee67957f9511ba7c78f8e98b5ba722d3c92dc4c254bbffe3b37c1ff9dca2", func := "pub-alidade/laws.FnLineForce", spec := "fnLineForce", inPlace := ["math.Float64bits"], recurses := true, loops := true, apart := false, narrowed := true }
def FnLineForceUptoSaid : Prop := fnLineForceUptoRow.holds Try.pinned (OpenSpec.upto fnLineForceSpec)

/-- 'laws.FnLineBytesEither', WHERE WHAT IT READS IS OF BULK AT MOST 1048576: true; the input reads as it did. -/
def fnLineBytesEitherUptoRow : OpenClaim := { program := "ytllomldpbkeioaa", sum := "1720ee67957f9511ba7c78f8e98b5ba722d3c92dc4c254bbffe3b37c1ff9dca2", func := "pub-alidade/laws.FnLineBytesEither", spec := "fnLineBytesEither", inPlace := ["math.Float64bits", "math.Float64frombits"], unfollowed := true, recurses := true, named := ["encoding/binary.BigEndian", "encoding/binary.LittleEndian"], apart := false, narrowed := true }
def FnLineBytesEitherUptoSaid : Prop := fnLineBytesEitherUptoRow.holds Try.pinned (OpenSpec.upto fnLineBytesEitherSpec)

/-- 'laws.FnMultiPointPlaces', WHERE WHAT IT READS IS OF BULK AT MOST 1048576: true; the input reads as it did. -/
def fnMultiPointPlacesUptoRow : OpenClaim := { program := "ytllomldpbkeioaa", sum := "1720ee67957f9511ba7c78f8e98b5ba722d3c92dc4c254bbffe3b37c1ff9dca2", func := "pub-alidade/laws.FnMultiPointPlaces", spec := "fnMultiPointPlaces", inPlace := ["math.Float64bits"], recurses := true, loops := true, apart := false, narrowed := true }
def FnMultiPointPlacesUptoSaid : Prop := fnMultiPointPlacesUptoRow.holds Try.pinned (OpenSpec.upto fnMultiPointPlacesSpec)

end Rows
end Go.Proofs.Ytllomldpbkeioaa
