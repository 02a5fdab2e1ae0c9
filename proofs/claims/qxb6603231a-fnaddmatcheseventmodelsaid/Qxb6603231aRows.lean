/-
  No cell of these rows narrows 'for every input' (looked for: loops, veiled, ifaces, maps, wideKeys, modest, calm, conditions, laid).
  DERIVED. THE GIVEN ROWS OF THIS SEAT. 4 by the template 'for every input the law returns true; each argument reads behind the call as it read before'; 0 by the template 'total and deterministic' (their statements: Qxb6603231aTotals.lean).
  GIVEN WITH THE SEED: the statements are not yours to turn. If you find one false, say at which input.
  Laid BY PROGRAM, IN A SANDBOX (cutbox-rows.mjs): the forced cells as the released guide's own fill.sh prints them over the translation 041e86070468d149… (all of the seat's roots in one cut). By AI agents, Wed Nov 11 2026. No macro, syntax, notation, axiom, sorry.
-/
import Derived.Test.Qxb6603231aChecked
import GoSem.Claim
import GoSem.ClaimJoined
import GoSem.ClaimMapViews
import Derived.JoinedTies
import Derived.KernelRfl
namespace Go.Proofs.Qxb6603231a
/- THE CELL 'sum', in the pinned program and in every row, IS THE sha256 OF THE DUMP (.gsa) THAT Qxb6603231aProg.lean LOADS. Nothing in Lean hashes anything: it is a label: what it is worth is what the hold of that sum in a sandbox is worth. -/
noncomputable def Try.pinned : Pinned := { name := "qxb6603231a", sum := "041e86070468d149e3c5b44c91182f2af6c89ad24966ba39e4256f9a2ef6731a", checked := Try.checked }
namespace Rows
def none {H : Type} : Left H := { results := [], args := [] }

/-- 'zzlaws_consensus_b1.FnAddReplayCountsNothing': WHATEVER THE INPUT: true; the input reads as it did. -/
def fnAddReplayCountsNothingSpec : ChangeSpec := { name := "fnAddReplayCountsNothing", fn := fun _ => fun
  | [d1, d2] => { results := [.lit (.bool true)], args := [d1, d2] }
  | _ => none }
def fnAddReplayCountsNothingRow : OpenClaim := { program := "qxb6603231a", sum := "041e86070468d149e3c5b44c91182f2af6c89ad24966ba39e4256f9a2ef6731a", func := "example.com/quorumweave/quorumweave/zzlaws_consensus_b1.FnAddReplayCountsNothing", spec := "fnAddReplayCountsNothing", plainKeys := false, apart := false }
def FnAddReplayCountsNothingSaid : Prop := fnAddReplayCountsNothingRow.holds Try.pinned (OpenSpec.ofChange fnAddReplayCountsNothingSpec)

/-- ITS FALSE NEIGHBOUR: 'it returns false'. Refute it at one input. -/
def fnAddReplayCountsNothingWrong : ChangeSpec := { name := "fnAddReplayCountsNothing", fn := fun _ => fun
  | [d1, d2] => { results := [.lit (.bool false)], args := [d1, d2] }
  | _ => none }
def FnAddReplayCountsNothingWrongFalsely : Prop := fnAddReplayCountsNothingRow.holds Try.pinned (OpenSpec.ofChange fnAddReplayCountsNothingWrong)

/-- 'zzlaws_consensus_b1.FnInMatchesAttemptModel': WHATEVER THE INPUT: true; the input reads as it did. -/
def fnInMatchesAttemptModelSpec : ChangeSpec := { name := "fnInMatchesAttemptModel", fn := fun _ => fun
  | [d1, d2] => { results := [.lit (.bool true)], args := [d1, d2] }
  | _ => none }
def fnInMatchesAttemptModelRow : OpenClaim := { program := "qxb6603231a", sum := "041e86070468d149e3c5b44c91182f2af6c89ad24966ba39e4256f9a2ef6731a", func := "example.com/quorumweave/quorumweave/zzlaws_consensus_b1.FnInMatchesAttemptModel", spec := "fnInMatchesAttemptModel", plainKeys := false, apart := false }
def FnInMatchesAttemptModelSaid : Prop := fnInMatchesAttemptModelRow.holds Try.pinned (OpenSpec.ofChange fnInMatchesAttemptModelSpec)

/-- ITS FALSE NEIGHBOUR: 'it returns false'. Refute it at one input. -/
def fnInMatchesAttemptModelWrong : ChangeSpec := { name := "fnInMatchesAttemptModel", fn := fun _ => fun
  | [d1, d2] => { results := [.lit (.bool false)], args := [d1, d2] }
  | _ => none }
def FnInMatchesAttemptModelWrongFalsely : Prop := fnInMatchesAttemptModelRow.holds Try.pinned (OpenSpec.ofChange fnInMatchesAttemptModelWrong)

/-- 'zzlaws_consensus_b1.FnLatestStableBetweenKeys': WHATEVER THE INPUT: true; the input reads as it did. -/
def fnLatestStableBetweenKeysSpec : ChangeSpec := { name := "fnLatestStableBetweenKeys", fn := fun _ => fun
  | [d1, d2, d3] => { results := [.lit (.bool true)], args := [d1, d2, d3] }
  | _ => none }
def fnLatestStableBetweenKeysRow : OpenClaim := { program := "qxb6603231a", sum := "041e86070468d149e3c5b44c91182f2af6c89ad24966ba39e4256f9a2ef6731a", func := "example.com/quorumweave/quorumweave/zzlaws_consensus_b1.FnLatestStableBetweenKeys", spec := "fnLatestStableBetweenKeys", plainKeys := false, apart := false }
def FnLatestStableBetweenKeysSaid : Prop := fnLatestStableBetweenKeysRow.holds Try.pinned (OpenSpec.ofChange fnLatestStableBetweenKeysSpec)

/-- ITS FALSE NEIGHBOUR: 'it returns false'. Refute it at one input. -/
def fnLatestStableBetweenKeysWrong : ChangeSpec := { name := "fnLatestStableBetweenKeys", fn := fun _ => fun
  | [d1, d2, d3] => { results := [.lit (.bool false)], args := [d1, d2, d3] }
  | _ => none }
def FnLatestStableBetweenKeysWrongFalsely : Prop := fnLatestStableBetweenKeysRow.holds Try.pinned (OpenSpec.ofChange fnLatestStableBetweenKeysWrong)

/-- 'zzlaws_consensus_b1.FnAddMatchesEventModel': WHATEVER THE INPUT: true; the input reads as it did. -/
def fnAddMatchesEventModelSpec : ChangeSpec := { name := "fnAddMatchesEventModel", fn := fun _ => fun
  | [d1, d2] => { results := [.lit (.bool true)], args := [d1, d2] }
  | _ => none }
def fnAddMatchesEventModelRow : OpenClaim := { program := "qxb6603231a", sum := "041e86070468d149e3c5b44c91182f2af6c89ad24966ba39e4256f9a2ef6731a", func := "example.com/quorumweave/quorumweave/zzlaws_consensus_b1.FnAddMatchesEventModel", spec := "fnAddMatchesEventModel", plainKeys := false, apart := false }
def FnAddMatchesEventModelSaid : Prop := fnAddMatchesEventModelRow.holds Try.pinned (OpenSpec.ofChange fnAddMatchesEventModelSpec)

/-- ITS FALSE NEIGHBOUR: 'it returns false'. Refute it at one input. -/
def fnAddMatchesEventModelWrong : ChangeSpec := { name := "fnAddMatchesEventModel", fn := fun _ => fun
  | [d1, d2] => { results := [.lit (.bool false)], args := [d1, d2] }
  | _ => none }
def FnAddMatchesEventModelWrongFalsely : Prop := fnAddMatchesEventModelRow.holds Try.pinned (OpenSpec.ofChange fnAddMatchesEventModelWrong)

end Rows
end Go.Proofs.Qxb6603231a
