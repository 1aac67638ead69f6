/-
  No cell of these rows narrows 'for every input' (looked for: loops, veiled, ifaces, maps, wideKeys, modest, calm, conditions, laid).
  DERIVED. THE GIVEN ROWS OF THIS SEAT. 1 by the template 'for every input the law returns true; each argument reads behind the call as it read before'; 0 by the template 'total and deterministic' (their statements: Qxb6616336aFmtTotals.lean).
  GIVEN WITH THE SEED: the statements are not yours to turn. If you find one false, say at which input.
  Laid BY PROGRAM, IN A SANDBOX (cutbox-rows.mjs): the forced cells as the released guide's own fill.sh prints them over the translation 001488c25a206d6b… (all of the seat's roots in one cut). By AI agents, Wed Nov 11 2026. No macro, syntax, notation, axiom, sorry.
-/
import Derived.Test.Qxb6616336aFmtChecked
import GoSem.Claim
import GoSem.ClaimJoined
import GoSem.ClaimMapViews
import Derived.JoinedTies
import Derived.KernelRfl
namespace Go.Proofs.Qxb6616336aFmt
/- THE CELL 'sum', in the pinned program and in every row, IS THE sha256 OF THE DUMP (.gsa) THAT Qxb6616336aFmtProg.lean LOADS. Nothing in Lean hashes anything: it is a label: what it is worth is what the hold of that sum in a sandbox is worth. -/
noncomputable def Tryf.pinned : Pinned := { name := "qxb6616336afmt", sum := "001488c25a206d6b165c8fdccda2f1e2ff3f928a74d61bef16102b6ed99c68bf", checked := Tryf.checked }
namespace Rows
def none {H : Type} : Left H := { results := [], args := [] }

/-- 'zzlaws_pkg_engine_b1.FnTypeRelationFindsTheFirstDefinition': WHATEVER THE INPUT: true; the input reads as it did. -/
def fnTypeRelationFindsTheFirstDefinitionSpec : ChangeSpec := { name := "fnTypeRelationFindsTheFirstDefinition", fn := fun _ => fun
  | [d1, d2, d3, d4] => { results := [.lit (.bool true)], args := [d1, d2, d3, d4] }
  | _ => none }
def fnTypeRelationFindsTheFirstDefinitionRow : OpenClaim := { program := "qxb6616336afmt", sum := "001488c25a206d6b165c8fdccda2f1e2ff3f928a74d61bef16102b6ed99c68bf", func := "example.com/relatum/relatum/zzlaws_pkg_engine_b1.FnTypeRelationFindsTheFirstDefinition", spec := "fnTypeRelationFindsTheFirstDefinition", stops := ["fmt.errorf"], inPlace := ["fmt.errorf"], plainKeys := false, apart := false }
/-- NO THEOREM (fmt's text is open here; it may be false): for the released tool's asking of the row's closed facts alone. THE STATEMENT IS 'FnTypeRelationFindsTheFirstDefinitionToldSaid' (Qxb6616336aFmtCards.lean). -/
def FnTypeRelationFindsTheFirstDefinitionFormAsk : Prop := fnTypeRelationFindsTheFirstDefinitionRow.holds Tryf.pinned (OpenSpec.ofChange fnTypeRelationFindsTheFirstDefinitionSpec)

/-- ITS FALSE NEIGHBOUR: 'it returns false'. Refute it at one input. -/
def fnTypeRelationFindsTheFirstDefinitionWrong : ChangeSpec := { name := "fnTypeRelationFindsTheFirstDefinition", fn := fun _ => fun
  | [d1, d2, d3, d4] => { results := [.lit (.bool false)], args := [d1, d2, d3, d4] }
  | _ => none }
def FnTypeRelationFindsTheFirstDefinitionWrongFormAsk : Prop := fnTypeRelationFindsTheFirstDefinitionRow.holds Tryf.pinned (OpenSpec.ofChange fnTypeRelationFindsTheFirstDefinitionWrong)

end Rows
end Go.Proofs.Qxb6616336aFmt
