/-
  No cell of these rows narrows 'for every input' (looked for: loops, veiled, ifaces, maps, wideKeys, modest, calm, conditions, laid).
  DERIVED. THE GIVEN ROWS OF THIS SEAT. 5 by the template 'for every input the law returns true; each argument reads behind the call as it read before'; 0 by the template 'total and deterministic' (their statements: Qxb6616513aTotals.lean).
  GIVEN WITH THE SEED: the statements are not yours to turn. If you find one false, say at which input.
  Laid BY PROGRAM, IN A SANDBOX (cutbox-rows.mjs): the forced cells as the released guide's own fill.sh prints them over the translation d93ad18df6a0734c… (all of the seat's roots in one cut). By AI agents, Wed Nov 11 2026. No macro, syntax, notation, axiom, sorry.
-/
import Derived.Test.Qxb6616513aChecked
import GoSem.Claim
import GoSem.ClaimJoined
import GoSem.ClaimMapViews
import Derived.JoinedTies
import Derived.KernelRfl
namespace Go.Proofs.Qxb6616513a
/- THE CELL 'sum', in the pinned program and in every row, IS THE sha256 OF THE DUMP (.gsa) THAT Qxb6616513aProg.lean LOADS. Nothing in Lean hashes anything: it is a label: what it is worth is what the hold of that sum in a sandbox is worth. -/
noncomputable def Try.pinned : Pinned := { name := "qxb6616513a", sum := "d93ad18df6a0734ce68f4b3f6d019a1a30952f5b3e2be3f94f9bc7b657e7bdf2", checked := Try.checked }
namespace Rows
def none {H : Type} : Left H := { results := [], args := [] }

/-- 'zzlaws_pkg_store_b1.FnNonzeroOneBytePutInAnywhere': WHATEVER THE INPUT: true; the input reads as it did. -/
def fnNonzeroOneBytePutInAnywhereSpec : ChangeSpec := { name := "fnNonzeroOneBytePutInAnywhere", fn := fun _ => fun
  | [d1, d2, d3] => { results := [.lit (.bool true)], args := [d1, d2, d3] }
  | _ => none }
def fnNonzeroOneBytePutInAnywhereRow : OpenClaim := { program := "qxb6616513a", sum := "d93ad18df6a0734ce68f4b3f6d019a1a30952f5b3e2be3f94f9bc7b657e7bdf2", func := "example.com/plumbago/plumbago/zzlaws_pkg_store_b1.FnNonzeroOneBytePutInAnywhere", spec := "fnNonzeroOneBytePutInAnywhere", unfollowed := true, recurses := true, apart := false }
def FnNonzeroOneBytePutInAnywhereSaid : Prop := fnNonzeroOneBytePutInAnywhereRow.holds Try.pinned (OpenSpec.ofChange fnNonzeroOneBytePutInAnywhereSpec)

/-- ITS FALSE NEIGHBOUR: 'it returns false'. Refute it at one input. -/
def fnNonzeroOneBytePutInAnywhereWrong : ChangeSpec := { name := "fnNonzeroOneBytePutInAnywhere", fn := fun _ => fun
  | [d1, d2, d3] => { results := [.lit (.bool false)], args := [d1, d2, d3] }
  | _ => none }
def FnNonzeroOneBytePutInAnywhereWrongFalsely : Prop := fnNonzeroOneBytePutInAnywhereRow.holds Try.pinned (OpenSpec.ofChange fnNonzeroOneBytePutInAnywhereWrong)

/-- 'zzlaws_pkg_store_b1.FnTimelineSetKeepsLastValuePerTime': WHATEVER THE INPUT: true; the input reads as it did. -/
def fnTimelineSetKeepsLastValuePerTimeSpec : ChangeSpec := { name := "fnTimelineSetKeepsLastValuePerTime", fn := fun _ => fun
  | [d1, d2] => { results := [.lit (.bool true)], args := [d1, d2] }
  | _ => none }
def fnTimelineSetKeepsLastValuePerTimeRow : OpenClaim := { program := "qxb6616513a", sum := "d93ad18df6a0734ce68f4b3f6d019a1a30952f5b3e2be3f94f9bc7b657e7bdf2", func := "example.com/plumbago/plumbago/zzlaws_pkg_store_b1.FnTimelineSetKeepsLastValuePerTime", spec := "fnTimelineSetKeepsLastValuePerTime", inPlace := ["slices.overlaps[example.com/plumbago/plumbago/pkg/store.point]", "slices.overlaps[example.com/plumbago/plumbago/pkg/store.kid]"], unfollowed := true, recurses := true, apart := false }
def FnTimelineSetKeepsLastValuePerTimeSaid : Prop := fnTimelineSetKeepsLastValuePerTimeRow.holds Try.pinned (OpenSpec.ofChange fnTimelineSetKeepsLastValuePerTimeSpec)

/-- ITS FALSE NEIGHBOUR: 'it returns false'. Refute it at one input. -/
def fnTimelineSetKeepsLastValuePerTimeWrong : ChangeSpec := { name := "fnTimelineSetKeepsLastValuePerTime", fn := fun _ => fun
  | [d1, d2] => { results := [.lit (.bool false)], args := [d1, d2] }
  | _ => none }
def FnTimelineSetKeepsLastValuePerTimeWrongFalsely : Prop := fnTimelineSetKeepsLastValuePerTimeRow.holds Try.pinned (OpenSpec.ofChange fnTimelineSetKeepsLastValuePerTimeWrong)

/-- 'zzlaws_pkg_store_b1.FnTimelineSetKeepsAWellFormedFullTree': WHATEVER THE INPUT: true; the input reads as it did. -/
def fnTimelineSetKeepsAWellFormedFullTreeSpec : ChangeSpec := { name := "fnTimelineSetKeepsAWellFormedFullTree", fn := fun _ => fun
  | [d1, d2] => { results := [.lit (.bool true)], args := [d1, d2] }
  | _ => none }
def fnTimelineSetKeepsAWellFormedFullTreeRow : OpenClaim := { program := "qxb6616513a", sum := "d93ad18df6a0734ce68f4b3f6d019a1a30952f5b3e2be3f94f9bc7b657e7bdf2", func := "example.com/plumbago/plumbago/zzlaws_pkg_store_b1.FnTimelineSetKeepsAWellFormedFullTree", spec := "fnTimelineSetKeepsAWellFormedFullTree", inPlace := ["slices.overlaps[example.com/plumbago/plumbago/pkg/store.point]", "slices.overlaps[example.com/plumbago/plumbago/pkg/store.kid]"], unfollowed := true, recurses := true, apart := false }
def FnTimelineSetKeepsAWellFormedFullTreeSaid : Prop := fnTimelineSetKeepsAWellFormedFullTreeRow.holds Try.pinned (OpenSpec.ofChange fnTimelineSetKeepsAWellFormedFullTreeSpec)

/-- ITS FALSE NEIGHBOUR: 'it returns false'. Refute it at one input. -/
def fnTimelineSetKeepsAWellFormedFullTreeWrong : ChangeSpec := { name := "fnTimelineSetKeepsAWellFormedFullTree", fn := fun _ => fun
  | [d1, d2] => { results := [.lit (.bool false)], args := [d1, d2] }
  | _ => none }
def FnTimelineSetKeepsAWellFormedFullTreeWrongFalsely : Prop := fnTimelineSetKeepsAWellFormedFullTreeRow.holds Try.pinned (OpenSpec.ofChange fnTimelineSetKeepsAWellFormedFullTreeWrong)

/-- 'zzlaws_pkg_store_b1.FnFillPutsEachValueAtItsSlotStart': WHATEVER THE INPUT: true; the input reads as it did. -/
def fnFillPutsEachValueAtItsSlotStartSpec : ChangeSpec := { name := "fnFillPutsEachValueAtItsSlotStart", fn := fun _ => fun
  | [d1, d2, d3, d4, d5] => { results := [.lit (.bool true)], args := [d1, d2, d3, d4, d5] }
  | _ => none }
def fnFillPutsEachValueAtItsSlotStartRow : OpenClaim := { program := "qxb6616513a", sum := "d93ad18df6a0734ce68f4b3f6d019a1a30952f5b3e2be3f94f9bc7b657e7bdf2", func := "example.com/plumbago/plumbago/zzlaws_pkg_store_b1.FnFillPutsEachValueAtItsSlotStart", spec := "fnFillPutsEachValueAtItsSlotStart", inPlace := ["math.Float64frombits"], unfollowed := true, recurses := true, apart := false }
def FnFillPutsEachValueAtItsSlotStartSaid : Prop := fnFillPutsEachValueAtItsSlotStartRow.holds Try.pinned (OpenSpec.ofChange fnFillPutsEachValueAtItsSlotStartSpec)

/-- ITS FALSE NEIGHBOUR: 'it returns false'. Refute it at one input. -/
def fnFillPutsEachValueAtItsSlotStartWrong : ChangeSpec := { name := "fnFillPutsEachValueAtItsSlotStart", fn := fun _ => fun
  | [d1, d2, d3, d4, d5] => { results := [.lit (.bool false)], args := [d1, d2, d3, d4, d5] }
  | _ => none }
def FnFillPutsEachValueAtItsSlotStartWrongFalsely : Prop := fnFillPutsEachValueAtItsSlotStartRow.holds Try.pinned (OpenSpec.ofChange fnFillPutsEachValueAtItsSlotStartWrong)

/-- 'zzlaws_pkg_store_b1.FnFillRoundTripsThroughSlotsAndItsOwnValues': WHATEVER THE INPUT: true; the input reads as it did. -/
def fnFillRoundTripsThroughSlotsAndItsOwnValuesSpec : ChangeSpec := { name := "fnFillRoundTripsThroughSlotsAndItsOwnValues", fn := fun _ => fun
  | [d1, d2, d3, d4, d5] => { results := [.lit (.bool true)], args := [d1, d2, d3, d4, d5] }
  | _ => none }
def fnFillRoundTripsThroughSlotsAndItsOwnValuesRow : OpenClaim := { program := "qxb6616513a", sum := "d93ad18df6a0734ce68f4b3f6d019a1a30952f5b3e2be3f94f9bc7b657e7bdf2", func := "example.com/plumbago/plumbago/zzlaws_pkg_store_b1.FnFillRoundTripsThroughSlotsAndItsOwnValues", spec := "fnFillRoundTripsThroughSlotsAndItsOwnValues", inPlace := ["math.Float64frombits"], unfollowed := true, recurses := true, apart := false }
def FnFillRoundTripsThroughSlotsAndItsOwnValuesSaid : Prop := fnFillRoundTripsThroughSlotsAndItsOwnValuesRow.holds Try.pinned (OpenSpec.ofChange fnFillRoundTripsThroughSlotsAndItsOwnValuesSpec)

/-- ITS FALSE NEIGHBOUR: 'it returns false'. Refute it at one input. -/
def fnFillRoundTripsThroughSlotsAndItsOwnValuesWrong : ChangeSpec := { name := "fnFillRoundTripsThroughSlotsAndItsOwnValues", fn := fun _ => fun
  | [d1, d2, d3, d4, d5] => { results := [.lit (.bool false)], args := [d1, d2, d3, d4, d5] }
  | _ => none }
def FnFillRoundTripsThroughSlotsAndItsOwnValuesWrongFalsely : Prop := fnFillRoundTripsThroughSlotsAndItsOwnValuesRow.holds Try.pinned (OpenSpec.ofChange fnFillRoundTripsThroughSlotsAndItsOwnValuesWrong)

end Rows
end Go.Proofs.Qxb6616513a
