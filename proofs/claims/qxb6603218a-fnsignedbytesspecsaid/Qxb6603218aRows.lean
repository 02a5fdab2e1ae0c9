/-
  No cell of these rows narrows 'for every input' (looked for: loops, veiled, ifaces, maps, wideKeys, modest, calm, conditions, laid).
  DERIVED. THE GIVEN ROWS OF THIS SEAT. 2 by the template 'for every input the law returns true; each argument reads behind the call as it read before'; 0 by the template 'total and deterministic' (their statements: Qxb6603218aTotals.lean).
  GIVEN WITH THE SEED: the statements are not yours to turn. If you find one false, say at which input.
  Laid BY PROGRAM, IN A SANDBOX (cutbox-rows.mjs): the forced cells as the released guide's own fill.sh prints them over the translation 8d2bb39c77b67907… (all of the seat's roots in one cut). By AI agents, Wed Nov 11 2026. No macro, syntax, notation, axiom, sorry.
-/
import Derived.Test.Qxb6603218aChecked
import GoSem.Claim
import GoSem.ClaimJoined
import GoSem.ClaimMapViews
import Derived.JoinedTies
import Derived.KernelRfl
namespace Go.Proofs.Qxb6603218a
/- THE CELL 'sum', in the pinned program and in every row, IS THE sha256 OF THE DUMP (.gsa) THAT Qxb6603218aProg.lean LOADS. Nothing in Lean hashes anything: it is a label: what it is worth is what the hold of that sum in a sandbox is worth. -/
noncomputable def Try.pinned : Pinned := { name := "qxb6603218a", sum := "8d2bb39c77b679079107e6803084b05ddc381a720a699411354c6694cfd08b06", checked := Try.checked }
namespace Rows
def none {H : Type} : Left H := { results := [], args := [] }

/-- 'zzlaws_checkpoint_b1.FnSignedBytesSpec': WHATEVER THE INPUT: true; the input reads as it did. -/
def fnSignedBytesSpecSpec : ChangeSpec := { name := "fnSignedBytesSpec", fn := fun _ => fun
  | [d] => { results := [.lit (.bool true)], args := [d] }
  | _ => none }
def fnSignedBytesSpecRow : OpenClaim := { program := "qxb6603218a", sum := "8d2bb39c77b679079107e6803084b05ddc381a720a699411354c6694cfd08b06", func := "example.com/ex5/ex5/zzlaws_checkpoint_b1.FnSignedBytesSpec", spec := "fnSignedBytesSpec", apart := false }
def FnSignedBytesSpecSaid : Prop := fnSignedBytesSpecRow.holds Try.pinned (OpenSpec.ofChange fnSignedBytesSpecSpec)

/-- ITS FALSE NEIGHBOUR: 'it returns false'. Refute it at one input. -/
def fnSignedBytesSpecWrong : ChangeSpec := { name := "fnSignedBytesSpec", fn := fun _ => fun
  | [d] => { results := [.lit (.bool false)], args := [d] }
  | _ => none }
def FnSignedBytesSpecWrongFalsely : Prop := fnSignedBytesSpecRow.holds Try.pinned (OpenSpec.ofChange fnSignedBytesSpecWrong)

/-- 'zzlaws_checkpoint_b1.FnSignedBytesIgnoresSignature': WHATEVER THE INPUT: true; the input reads as it did. -/
def fnSignedBytesIgnoresSignatureSpec : ChangeSpec := { name := "fnSignedBytesIgnoresSignature", fn := fun _ => fun
  | [d1, d2] => { results := [.lit (.bool true)], args := [d1, d2] }
  | _ => none }
def fnSignedBytesIgnoresSignatureRow : OpenClaim := { program := "qxb6603218a", sum := "8d2bb39c77b679079107e6803084b05ddc381a720a699411354c6694cfd08b06", func := "example.com/ex5/ex5/zzlaws_checkpoint_b1.FnSignedBytesIgnoresSignature", spec := "fnSignedBytesIgnoresSignature", apart := false }
def FnSignedBytesIgnoresSignatureSaid : Prop := fnSignedBytesIgnoresSignatureRow.holds Try.pinned (OpenSpec.ofChange fnSignedBytesIgnoresSignatureSpec)

/-- ITS FALSE NEIGHBOUR: 'it returns false'. Refute it at one input. -/
def fnSignedBytesIgnoresSignatureWrong : ChangeSpec := { name := "fnSignedBytesIgnoresSignature", fn := fun _ => fun
  | [d1, d2] => { results := [.lit (.bool false)], args := [d1, d2] }
  | _ => none }
def FnSignedBytesIgnoresSignatureWrongFalsely : Prop := fnSignedBytesIgnoresSignatureRow.holds Try.pinned (OpenSpec.ofChange fnSignedBytesIgnoresSignatureWrong)

end Rows
end Go.Proofs.Qxb6603218a
