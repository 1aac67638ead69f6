/-
  No cell of these rows narrows 'for every input' (looked for: loops, veiled, ifaces, maps, wideKeys, modest, calm, conditions, laid).
  DERIVED. THE GIVEN ROWS OF THIS SEAT. 2 by the template 'for every input the law returns true; each argument reads behind the call as it read before'; 0 by the template 'total and deterministic' (their statements: Qxb6616580aTotals.lean).
  GIVEN WITH THE SEED: the statements are not yours to turn. If you find one false, say at which input.
  Laid BY PROGRAM, IN A SANDBOX (cutbox-rows.mjs): the forced cells as the released guide's own fill.sh prints them over the translation 28efe1a3d88f29fa… (all of the seat's roots in one cut). By AI agents, Wed Nov 11 2026. No macro, syntax, notation, axiom, sorry.
-/
import Derived.Test.Qxb6616580aChecked
import GoSem.Claim
import GoSem.ClaimJoined
import GoSem.ClaimMapViews
import Derived.JoinedTies
import Derived.KernelRfl
namespace Go.Proofs.Qxb6616580a
/- THE CELL 'sum', in the pinned program and in every row, IS THE sha256 OF THE DUMP (.gsa) THAT Qxb6616580aProg.lean LOADS. Nothing in Lean hashes anything: it is a label: what it is worth is what the hold of that sum in a sandbox is worth. -/
noncomputable def Try.pinned : Pinned := { name := "qxb6616580a", sum := "28efe1a3d88f29fa1527087b7286803f0a00b0b63567d2e0d66034238e23f2b3", checked := Try.checked }
namespace Rows
def none {H : Type} : Left H := { results := [], args := [] }

/-- 'zzlaws_root_b1.FnRevAnnTimesWriteThrough': WHATEVER THE INPUT: true; the input reads as it did. -/
def fnRevAnnTimesWriteThroughSpec : ChangeSpec := { name := "fnRevAnnTimesWriteThrough", fn := fun _ => fun
  | [d1, d2, d3, d4, d5] => { results := [.lit (.bool true)], args := [d1, d2, d3, d4, d5] }
  | _ => none }
def fnRevAnnTimesWriteThroughRow : OpenClaim := { program := "qxb6616580a", sum := "28efe1a3d88f29fa1527087b7286803f0a00b0b63567d2e0d66034238e23f2b3", func := "example.com/certwright/certwright/zzlaws_root_b1.FnRevAnnTimesWriteThrough", spec := "fnRevAnnTimesWriteThrough", apart := false }
def FnRevAnnTimesWriteThroughSaid : Prop := fnRevAnnTimesWriteThroughRow.holds Try.pinned (OpenSpec.ofChange fnRevAnnTimesWriteThroughSpec)

/-- ITS FALSE NEIGHBOUR: 'it returns false'. Refute it at one input. -/
def fnRevAnnTimesWriteThroughWrong : ChangeSpec := { name := "fnRevAnnTimesWriteThrough", fn := fun _ => fun
  | [d1, d2, d3, d4, d5] => { results := [.lit (.bool false)], args := [d1, d2, d3, d4, d5] }
  | _ => none }
def FnRevAnnTimesWriteThroughWrongFalsely : Prop := fnRevAnnTimesWriteThroughRow.holds Try.pinned (OpenSpec.ofChange fnRevAnnTimesWriteThroughWrong)

/-- 'zzlaws_root_b1.FnRevAnnTimesOwnReceiverRFCNames': WHATEVER THE INPUT: true; the input reads as it did. -/
def fnRevAnnTimesOwnReceiverRFCNamesSpec : ChangeSpec := { name := "fnRevAnnTimesOwnReceiverRFCNames", fn := fun _ => fun
  | [d1, d2, d3, d4, d5] => { results := [.lit (.bool true)], args := [d1, d2, d3, d4, d5] }
  | _ => none }
def fnRevAnnTimesOwnReceiverRFCNamesRow : OpenClaim := { program := "qxb6616580a", sum := "28efe1a3d88f29fa1527087b7286803f0a00b0b63567d2e0d66034238e23f2b3", func := "example.com/certwright/certwright/zzlaws_root_b1.FnRevAnnTimesOwnReceiverRFCNames", spec := "fnRevAnnTimesOwnReceiverRFCNames", apart := false }
def FnRevAnnTimesOwnReceiverRFCNamesSaid : Prop := fnRevAnnTimesOwnReceiverRFCNamesRow.holds Try.pinned (OpenSpec.ofChange fnRevAnnTimesOwnReceiverRFCNamesSpec)

/-- ITS FALSE NEIGHBOUR: 'it returns false'. Refute it at one input. -/
def fnRevAnnTimesOwnReceiverRFCNamesWrong : ChangeSpec := { name := "fnRevAnnTimesOwnReceiverRFCNames", fn := fun _ => fun
  | [d1, d2, d3, d4, d5] => { results := [.lit (.bool false)], args := [d1, d2, d3, d4, d5] }
  | _ => none }
def FnRevAnnTimesOwnReceiverRFCNamesWrongFalsely : Prop := fnRevAnnTimesOwnReceiverRFCNamesRow.holds Try.pinned (OpenSpec.ofChange fnRevAnnTimesOwnReceiverRFCNamesWrong)

end Rows
end Go.Proofs.Qxb6616580a
