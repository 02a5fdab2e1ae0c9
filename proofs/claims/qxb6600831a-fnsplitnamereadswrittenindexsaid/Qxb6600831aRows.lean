/-
  No cell of these rows narrows 'for every input' (looked for: loops, veiled, ifaces, maps, wideKeys, modest, calm, conditions, laid).
  DERIVED. THE GIVEN ROWS OF THIS SEAT. 5 by the template 'for every input the law returns true; each argument reads behind the call as it read before'; 0 by the template 'total and deterministic' (their statements: Qxb6600831aTotals.lean).
  GIVEN WITH THE SEED: the statements are not yours to turn. If you find one false, say at which input.
  Laid BY PROGRAM, IN A SANDBOX (cutbox-rows.mjs): the forced cells as the released guide's own fill.sh prints them over the translation 836fae694a43a8ac… (all of the seat's roots in one cut). By AI agents, Wed Nov 11 2026. No macro, syntax, notation, axiom, sorry.
-/
import Derived.Test.Qxb6600831aChecked
import GoSem.Claim
import GoSem.ClaimJoined
import GoSem.ClaimMapViews
import Derived.JoinedTies
import Derived.KernelRfl
namespace Go.Proofs.Qxb6600831a
/- THE CELL 'sum', in the pinned program and in every row, IS THE sha256 OF THE DUMP (.gsa) THAT Qxb6600831aProg.lean LOADS. Nothing in Lean hashes anything: it is a label: what it is worth is what the hold of that sum in a sandbox is worth. -/
noncomputable def Try.pinned : Pinned := { name := "qxb6600831a", sum := "836fae694a43a8ac6b656c58bfa9c369f305b49b22f358f7f7bf13e530c9e180", checked := Try.checked }
namespace Rows
def none {H : Type} : Left H := { results := [], args := [] }

/-- 'zzlaws_root_b1.FnSplitNameExact': WHATEVER THE INPUT: true; the input reads as it did. -/
def fnSplitNameExactSpec : ChangeSpec := { name := "fnSplitNameExact", fn := fun _ => fun
  | [d1, d2, d3] => { results := [.lit (.bool true)], args := [d1, d2, d3] }
  | _ => none }
def fnSplitNameExactRow : OpenClaim := { program := "qxb6600831a", sum := "836fae694a43a8ac6b656c58bfa9c369f305b49b22f358f7f7bf13e530c9e180", func := "example.com/keys-under-sections/keys-under-sections/zzlaws_root_b1.FnSplitNameExact", spec := "fnSplitNameExact", apart := false }
def FnSplitNameExactSaid : Prop := fnSplitNameExactRow.holds Try.pinned (OpenSpec.ofChange fnSplitNameExactSpec)

/-- ITS FALSE NEIGHBOUR: 'it returns false'. Refute it at one input. -/
def fnSplitNameExactWrong : ChangeSpec := { name := "fnSplitNameExact", fn := fun _ => fun
  | [d1, d2, d3] => { results := [.lit (.bool false)], args := [d1, d2, d3] }
  | _ => none }
def FnSplitNameExactWrongFalsely : Prop := fnSplitNameExactRow.holds Try.pinned (OpenSpec.ofChange fnSplitNameExactWrong)

/-- 'zzlaws_root_b1.FnSplitNameReadsWrittenIndex': WHATEVER THE INPUT: true; the input reads as it did. -/
def fnSplitNameReadsWrittenIndexSpec : ChangeSpec := { name := "fnSplitNameReadsWrittenIndex", fn := fun _ => fun
  | [d1, d2, d3, d4] => { results := [.lit (.bool true)], args := [d1, d2, d3, d4] }
  | _ => none }
def fnSplitNameReadsWrittenIndexRow : OpenClaim := { program := "qxb6600831a", sum := "836fae694a43a8ac6b656c58bfa9c369f305b49b22f358f7f7bf13e530c9e180", func := "example.com/keys-under-sections/keys-under-sections/zzlaws_root_b1.FnSplitNameReadsWrittenIndex", spec := "fnSplitNameReadsWrittenIndex", apart := false }
def FnSplitNameReadsWrittenIndexSaid : Prop := fnSplitNameReadsWrittenIndexRow.holds Try.pinned (OpenSpec.ofChange fnSplitNameReadsWrittenIndexSpec)

/-- ITS FALSE NEIGHBOUR: 'it returns false'. Refute it at one input. -/
def fnSplitNameReadsWrittenIndexWrong : ChangeSpec := { name := "fnSplitNameReadsWrittenIndex", fn := fun _ => fun
  | [d1, d2, d3, d4] => { results := [.lit (.bool false)], args := [d1, d2, d3, d4] }
  | _ => none }
def FnSplitNameReadsWrittenIndexWrongFalsely : Prop := fnSplitNameReadsWrittenIndexRow.holds Try.pinned (OpenSpec.ofChange fnSplitNameReadsWrittenIndexWrong)

/-- 'zzlaws_root_b1.FnSplitNameReassembles': WHATEVER THE INPUT: true; the input reads as it did. -/
def fnSplitNameReassemblesSpec : ChangeSpec := { name := "fnSplitNameReassembles", fn := fun _ => fun
  | [d1, d2, d3] => { results := [.lit (.bool true)], args := [d1, d2, d3] }
  | _ => none }
def fnSplitNameReassemblesRow : OpenClaim := { program := "qxb6600831a", sum := "836fae694a43a8ac6b656c58bfa9c369f305b49b22f358f7f7bf13e530c9e180", func := "example.com/keys-under-sections/keys-under-sections/zzlaws_root_b1.FnSplitNameReassembles", spec := "fnSplitNameReassembles", apart := false }
def FnSplitNameReassemblesSaid : Prop := fnSplitNameReassemblesRow.holds Try.pinned (OpenSpec.ofChange fnSplitNameReassemblesSpec)

/-- ITS FALSE NEIGHBOUR: 'it returns false'. Refute it at one input. -/
def fnSplitNameReassemblesWrong : ChangeSpec := { name := "fnSplitNameReassembles", fn := fun _ => fun
  | [d1, d2, d3] => { results := [.lit (.bool false)], args := [d1, d2, d3] }
  | _ => none }
def FnSplitNameReassemblesWrongFalsely : Prop := fnSplitNameReassemblesRow.holds Try.pinned (OpenSpec.ofChange fnSplitNameReassemblesWrong)

/-- 'zzlaws_root_b1.FnMustEscapeOnlyTheseBytes': WHATEVER THE INPUT: true; the input reads as it did. -/
def fnMustEscapeOnlyTheseBytesSpec : ChangeSpec := { name := "fnMustEscapeOnlyTheseBytes", fn := fun _ => fun
  | [d1, d2, d3, d4, d5, d6, d7, d8] => { results := [.lit (.bool true)], args := [d1, d2, d3, d4, d5, d6, d7, d8] }
  | _ => none }
def fnMustEscapeOnlyTheseBytesRow : OpenClaim := { program := "qxb6600831a", sum := "836fae694a43a8ac6b656c58bfa9c369f305b49b22f358f7f7bf13e530c9e180", func := "example.com/keys-under-sections/keys-under-sections/zzlaws_root_b1.FnMustEscapeOnlyTheseBytes", spec := "fnMustEscapeOnlyTheseBytes", apart := false }
def FnMustEscapeOnlyTheseBytesSaid : Prop := fnMustEscapeOnlyTheseBytesRow.holds Try.pinned (OpenSpec.ofChange fnMustEscapeOnlyTheseBytesSpec)

/-- ITS FALSE NEIGHBOUR: 'it returns false'. Refute it at one input. -/
def fnMustEscapeOnlyTheseBytesWrong : ChangeSpec := { name := "fnMustEscapeOnlyTheseBytes", fn := fun _ => fun
  | [d1, d2, d3, d4, d5, d6, d7, d8] => { results := [.lit (.bool false)], args := [d1, d2, d3, d4, d5, d6, d7, d8] }
  | _ => none }
def FnMustEscapeOnlyTheseBytesWrongFalsely : Prop := fnMustEscapeOnlyTheseBytesRow.holds Try.pinned (OpenSpec.ofChange fnMustEscapeOnlyTheseBytesWrong)

/-- 'zzlaws_root_b1.FnMustEscapeMonotoneInCommentsAndReferences': WHATEVER THE INPUT: true; the input reads as it did. -/
def fnMustEscapeMonotoneInCommentsAndReferencesSpec : ChangeSpec := { name := "fnMustEscapeMonotoneInCommentsAndReferences", fn := fun _ => fun
  | [d1, d2, d3, d4, d5, d6, d7, d8] => { results := [.lit (.bool true)], args := [d1, d2, d3, d4, d5, d6, d7, d8] }
  | _ => none }
def fnMustEscapeMonotoneInCommentsAndReferencesRow : OpenClaim := { program := "qxb6600831a", sum := "836fae694a43a8ac6b656c58bfa9c369f305b49b22f358f7f7bf13e530c9e180", func := "example.com/keys-under-sections/keys-under-sections/zzlaws_root_b1.FnMustEscapeMonotoneInCommentsAndReferences", spec := "fnMustEscapeMonotoneInCommentsAndReferences", apart := false }
def FnMustEscapeMonotoneInCommentsAndReferencesSaid : Prop := fnMustEscapeMonotoneInCommentsAndReferencesRow.holds Try.pinned (OpenSpec.ofChange fnMustEscapeMonotoneInCommentsAndReferencesSpec)

/-- ITS FALSE NEIGHBOUR: 'it returns false'. Refute it at one input. -/
def fnMustEscapeMonotoneInCommentsAndReferencesWrong : ChangeSpec := { name := "fnMustEscapeMonotoneInCommentsAndReferences", fn := fun _ => fun
  | [d1, d2, d3, d4, d5, d6, d7, d8] => { results := [.lit (.bool false)], args := [d1, d2, d3, d4, d5, d6, d7, d8] }
  | _ => none }
def FnMustEscapeMonotoneInCommentsAndReferencesWrongFalsely : Prop := fnMustEscapeMonotoneInCommentsAndReferencesRow.holds Try.pinned (OpenSpec.ofChange fnMustEscapeMonotoneInCommentsAndReferencesWrong)

end Rows
end Go.Proofs.Qxb6600831a
