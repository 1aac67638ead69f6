/-
  DERIVED. GIVEN WITH THE SEED: THE CARDS: each row of Qxb6616336aFmtRows.lean that lists a variable, with what it lists TIED to the program's text (the seventh form; the later family's looks); each row that meets fmt, with fmt's text TOLD by the authors' own Lean function (tested against real Go, not proved from fmt's source: count such statements apart). THE CARD IS WHAT COUNTS. Prove the row's statement (the work); the ties are given (Qxb6616336aFmtTie.lean); close each card by the builder's one call (the guide's Derived/Test/ToyasCard.lean, 'card_holds'). Laid BY PROGRAM, IN A SANDBOX (cutbox-door.mjs). By AI agents, Wed Nov 11 2026. No macro, syntax, notation, axiom, sorry.
-/
import Derived.Test.Qxb6616336aFmtRows
import GoSem.ClaimSeven
namespace Go.Proofs.Qxb6616336aFmt
namespace Rows

/-- THE TOLD CARD OF 'zzlaws_pkg_engine_b1.FnTypeRelationFindsTheFirstDefinition'. -/
def fnTypeRelationFindsTheFirstDefinitionCard : Claim7 := { stood := { row := fnTypeRelationFindsTheFirstDefinitionRow, standIns := [], harness := (true, "a9b02efff60ed8939c3d2828d736d0e6fdfc9f93bcb2dcd5b4b18da9577ccbe7"), looks := false }, told := true, goes := false }
def FnTypeRelationFindsTheFirstDefinitionToldSaid : Prop := Claim7.holds Tryf.pinned (.plain (OpenSpec.ofChange fnTypeRelationFindsTheFirstDefinitionSpec)) fnTypeRelationFindsTheFirstDefinitionCard
/-- ITS FALSE NEIGHBOUR. Refute it at one input. -/
def FnTypeRelationFindsTheFirstDefinitionToldWrongFalsely : Prop := Claim7.holds Tryf.pinned (.plain (OpenSpec.ofChange fnTypeRelationFindsTheFirstDefinitionWrong)) fnTypeRelationFindsTheFirstDefinitionCard
end Rows
end Go.Proofs.Qxb6616336aFmt
