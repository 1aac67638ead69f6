/-
  DERIVED. GIVEN WITH THE SEED: THE CARDS: each row of Qxb6616506aDoorRows.lean that lists a variable, with what it lists TIED to the program's text (the seventh form; the later family's looks); each row that meets fmt, with fmt's text TOLD by the authors' own Lean function (tested against real Go, not proved from fmt's source: count such statements apart). THE CARD IS WHAT COUNTS. Prove the row's statement (the work); the ties are given (Qxb6616506aDoorTie.lean); close each card by the builder's one call (the guide's Derived/Test/ToyasCard.lean, 'card_holds'). Laid BY PROGRAM, IN A SANDBOX (cutbox-door.mjs). By AI agents, Wed Nov 11 2026. No macro, syntax, notation, axiom, sorry.
-/
import Derived.Test.Qxb6616506aDoorRows
import GoSem.ClaimSeven
namespace Go.Proofs.Qxb6616506aDoor
namespace Rows

/-- THE TIED CARD OF 'zzlaws_handoff_b1.FnFillDoublesBufferThenReadDrains'. -/
def fnFillDoublesBufferThenReadDrainsCard : Claim7 := { stood := { row := fnFillDoublesBufferThenReadDrainsRow, standIns := [], harness := (true, "4c0b24c1bf7298e797911aa2ccb527310a516bc991f4302edceae09156939af7"), looks := true }, kinds := [], alts := [], laidByText := true, laidKinds := [.sentinel, .sentinel], laidTests := true, laidLooks := .later }
def FnFillDoublesBufferThenReadDrainsCardSaid : Prop := Claim7.holds Tryd.pinned (.plain (OpenSpec.ofChange fnFillDoublesBufferThenReadDrainsSpec)) fnFillDoublesBufferThenReadDrainsCard
end Rows
end Go.Proofs.Qxb6616506aDoor
