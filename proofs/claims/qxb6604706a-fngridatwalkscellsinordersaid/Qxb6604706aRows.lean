/-
  No cell of these rows narrows 'for every input' (looked for: loops, veiled, ifaces, maps, wideKeys, modest, calm, conditions, laid).
  DERIVED. THE GIVEN ROWS OF THIS SEAT. 7 by the template 'for every input the law returns true; each argument reads behind the call as it read before'; 0 by the template 'total and deterministic' (their statements: Qxb6604706aTotals.lean).
  GIVEN WITH THE SEED: the statements are not yours to turn. If you find one false, say at which input.
  Laid BY PROGRAM, IN A SANDBOX (cutbox-rows.mjs): the forced cells as the released guide's own fill.sh prints them over the translation 4805853a96d00086… (all of the seat's roots in one cut). By AI agents, Wed Nov 11 2026. No macro, syntax, notation, axiom, sorry.
-/
import Derived.Test.Qxb6604706aChecked
import GoSem.Claim
import GoSem.ClaimJoined
import GoSem.ClaimMapViews
import Derived.JoinedTies
import Derived.KernelRfl
namespace Go.Proofs.Qxb6604706a
/- THE CELL 'sum', in the pinned program and in every row, IS THE sha256 OF THE DUMP (.gsa) THAT Qxb6604706aProg.lean LOADS. Nothing in Lean hashes anything: it is a label: what it is worth is what the hold of that sum in a sandbox is worth. -/
noncomputable def Try.pinned : Pinned := { name := "qxb6604706a", sum := "4805853a96d000861bfa8b3f9fe957a481123eac00d7a8516cfea116fb22fda1", checked := Try.checked }
namespace Rows
def none {H : Type} : Left H := { results := [], args := [] }

/-- 'zzlaws_internal_raster_b1.FnGridAtWalksCellsInOrder': WHATEVER THE INPUT: true; the input reads as it did. -/
def fnGridAtWalksCellsInOrderSpec : ChangeSpec := { name := "fnGridAtWalksCellsInOrder", fn := fun _ => fun
  | [d1, d2, d3, d4, d5, d6, d7] => { results := [.lit (.bool true)], args := [d1, d2, d3, d4, d5, d6, d7] }
  | _ => none }
def fnGridAtWalksCellsInOrderRow : OpenClaim := { program := "qxb6604706a", sum := "4805853a96d000861bfa8b3f9fe957a481123eac00d7a8516cfea116fb22fda1", func := "example.com/linetone/linetone/zzlaws_internal_raster_b1.FnGridAtWalksCellsInOrder", spec := "fnGridAtWalksCellsInOrder", apart := false }
def FnGridAtWalksCellsInOrderSaid : Prop := fnGridAtWalksCellsInOrderRow.holds Try.pinned (OpenSpec.ofChange fnGridAtWalksCellsInOrderSpec)

/-- ITS FALSE NEIGHBOUR: 'it returns false'. Refute it at one input. -/
def fnGridAtWalksCellsInOrderWrong : ChangeSpec := { name := "fnGridAtWalksCellsInOrder", fn := fun _ => fun
  | [d1, d2, d3, d4, d5, d6, d7] => { results := [.lit (.bool false)], args := [d1, d2, d3, d4, d5, d6, d7] }
  | _ => none }
def FnGridAtWalksCellsInOrderWrongFalsely : Prop := fnGridAtWalksCellsInOrderRow.holds Try.pinned (OpenSpec.ofChange fnGridAtWalksCellsInOrderWrong)

/-- 'zzlaws_internal_raster_b1.FnShiftIsCentreOfLaneStrip': WHATEVER THE INPUT: true; the input reads as it did. -/
def fnShiftIsCentreOfLaneStripSpec : ChangeSpec := { name := "fnShiftIsCentreOfLaneStrip", fn := fun _ => fun
  | [d1, d2] => { results := [.lit (.bool true)], args := [d1, d2] }
  | _ => none }
def fnShiftIsCentreOfLaneStripRow : OpenClaim := { program := "qxb6604706a", sum := "4805853a96d000861bfa8b3f9fe957a481123eac00d7a8516cfea116fb22fda1", func := "example.com/linetone/linetone/zzlaws_internal_raster_b1.FnShiftIsCentreOfLaneStrip", spec := "fnShiftIsCentreOfLaneStrip", apart := false }
def FnShiftIsCentreOfLaneStripSaid : Prop := fnShiftIsCentreOfLaneStripRow.holds Try.pinned (OpenSpec.ofChange fnShiftIsCentreOfLaneStripSpec)

/-- ITS FALSE NEIGHBOUR: 'it returns false'. Refute it at one input. -/
def fnShiftIsCentreOfLaneStripWrong : ChangeSpec := { name := "fnShiftIsCentreOfLaneStrip", fn := fun _ => fun
  | [d1, d2] => { results := [.lit (.bool false)], args := [d1, d2] }
  | _ => none }
def FnShiftIsCentreOfLaneStripWrongFalsely : Prop := fnShiftIsCentreOfLaneStripRow.holds Try.pinned (OpenSpec.ofChange fnShiftIsCentreOfLaneStripWrong)

/-- 'zzlaws_internal_raster_b1.FnShiftSpacesLanesEvenly': WHATEVER THE INPUT: true; the input reads as it did. -/
def fnShiftSpacesLanesEvenlySpec : ChangeSpec := { name := "fnShiftSpacesLanesEvenly", fn := fun _ => fun
  | [d1, d2] => { results := [.lit (.bool true)], args := [d1, d2] }
  | _ => none }
def fnShiftSpacesLanesEvenlyRow : OpenClaim := { program := "qxb6604706a", sum := "4805853a96d000861bfa8b3f9fe957a481123eac00d7a8516cfea116fb22fda1", func := "example.com/linetone/linetone/zzlaws_internal_raster_b1.FnShiftSpacesLanesEvenly", spec := "fnShiftSpacesLanesEvenly", apart := false }
def FnShiftSpacesLanesEvenlySaid : Prop := fnShiftSpacesLanesEvenlyRow.holds Try.pinned (OpenSpec.ofChange fnShiftSpacesLanesEvenlySpec)

/-- ITS FALSE NEIGHBOUR: 'it returns false'. Refute it at one input. -/
def fnShiftSpacesLanesEvenlyWrong : ChangeSpec := { name := "fnShiftSpacesLanesEvenly", fn := fun _ => fun
  | [d1, d2] => { results := [.lit (.bool false)], args := [d1, d2] }
  | _ => none }
def FnShiftSpacesLanesEvenlyWrongFalsely : Prop := fnShiftSpacesLanesEvenlyRow.holds Try.pinned (OpenSpec.ofChange fnShiftSpacesLanesEvenlyWrong)

/-- 'zzlaws_internal_raster_b1.FnLevelIsNearestWholeClamped': WHATEVER THE INPUT: true; the input reads as it did. -/
def fnLevelIsNearestWholeClampedSpec : ChangeSpec := { name := "fnLevelIsNearestWholeClamped", fn := fun _ => fun
  | [d] => { results := [.lit (.bool true)], args := [d] }
  | _ => none }
def fnLevelIsNearestWholeClampedRow : OpenClaim := { program := "qxb6604706a", sum := "4805853a96d000861bfa8b3f9fe957a481123eac00d7a8516cfea116fb22fda1", func := "example.com/linetone/linetone/zzlaws_internal_raster_b1.FnLevelIsNearestWholeClamped", spec := "fnLevelIsNearestWholeClamped", apart := false }
def FnLevelIsNearestWholeClampedSaid : Prop := fnLevelIsNearestWholeClampedRow.holds Try.pinned (OpenSpec.ofChange fnLevelIsNearestWholeClampedSpec)

/-- ITS FALSE NEIGHBOUR: 'it returns false'. Refute it at one input. -/
def fnLevelIsNearestWholeClampedWrong : ChangeSpec := { name := "fnLevelIsNearestWholeClamped", fn := fun _ => fun
  | [d] => { results := [.lit (.bool false)], args := [d] }
  | _ => none }
def FnLevelIsNearestWholeClampedWrongFalsely : Prop := fnLevelIsNearestWholeClampedRow.holds Try.pinned (OpenSpec.ofChange fnLevelIsNearestWholeClampedWrong)

/-- 'zzlaws_internal_raster_b1.FnLevelMonotoneFixesWholesWithinHalf': WHATEVER THE INPUT: true; the input reads as it did. -/
def fnLevelMonotoneFixesWholesWithinHalfSpec : ChangeSpec := { name := "fnLevelMonotoneFixesWholesWithinHalf", fn := fun _ => fun
  | [d1, d2] => { results := [.lit (.bool true)], args := [d1, d2] }
  | _ => none }
def fnLevelMonotoneFixesWholesWithinHalfRow : OpenClaim := { program := "qxb6604706a", sum := "4805853a96d000861bfa8b3f9fe957a481123eac00d7a8516cfea116fb22fda1", func := "example.com/linetone/linetone/zzlaws_internal_raster_b1.FnLevelMonotoneFixesWholesWithinHalf", spec := "fnLevelMonotoneFixesWholesWithinHalf", apart := false }
def FnLevelMonotoneFixesWholesWithinHalfSaid : Prop := fnLevelMonotoneFixesWholesWithinHalfRow.holds Try.pinned (OpenSpec.ofChange fnLevelMonotoneFixesWholesWithinHalfSpec)

/-- ITS FALSE NEIGHBOUR: 'it returns false'. Refute it at one input. -/
def fnLevelMonotoneFixesWholesWithinHalfWrong : ChangeSpec := { name := "fnLevelMonotoneFixesWholesWithinHalf", fn := fun _ => fun
  | [d1, d2] => { results := [.lit (.bool false)], args := [d1, d2] }
  | _ => none }
def FnLevelMonotoneFixesWholesWithinHalfWrongFalsely : Prop := fnLevelMonotoneFixesWholesWithinHalfRow.holds Try.pinned (OpenSpec.ofChange fnLevelMonotoneFixesWholesWithinHalfWrong)

/-- 'zzlaws_internal_raster_b1.FnDirectoryReadReportsWholeRead': WHATEVER THE INPUT: true; the input reads as it did. -/
def fnDirectoryReadReportsWholeReadSpec : ChangeSpec := { name := "fnDirectoryReadReportsWholeRead", fn := fun _ => fun
  | [d1, d2, d3] => { results := [.lit (.bool true)], args := [d1, d2, d3] }
  | _ => none }
def fnDirectoryReadReportsWholeReadRow : OpenClaim := { program := "qxb6604706a", sum := "4805853a96d000861bfa8b3f9fe957a481123eac00d7a8516cfea116fb22fda1", func := "example.com/linetone/linetone/zzlaws_internal_raster_b1.FnDirectoryReadReportsWholeRead", spec := "fnDirectoryReadReportsWholeRead", unfollowed := true, recurses := true, apart := false }
def FnDirectoryReadReportsWholeReadSaid : Prop := fnDirectoryReadReportsWholeReadRow.holds Try.pinned (OpenSpec.ofChange fnDirectoryReadReportsWholeReadSpec)

/-- ITS FALSE NEIGHBOUR: 'it returns false'. Refute it at one input. -/
def fnDirectoryReadReportsWholeReadWrong : ChangeSpec := { name := "fnDirectoryReadReportsWholeRead", fn := fun _ => fun
  | [d1, d2, d3] => { results := [.lit (.bool false)], args := [d1, d2, d3] }
  | _ => none }
def FnDirectoryReadReportsWholeReadWrongFalsely : Prop := fnDirectoryReadReportsWholeReadRow.holds Try.pinned (OpenSpec.ofChange fnDirectoryReadReportsWholeReadWrong)

/-- 'zzlaws_internal_raster_b1.FnDirectoryReadSplits': WHATEVER THE INPUT: true; the input reads as it did. -/
def fnDirectoryReadSplitsSpec : ChangeSpec := { name := "fnDirectoryReadSplits", fn := fun _ => fun
  | [d1, d2, d3, d4] => { results := [.lit (.bool true)], args := [d1, d2, d3, d4] }
  | _ => none }
def fnDirectoryReadSplitsRow : OpenClaim := { program := "qxb6604706a", sum := "4805853a96d000861bfa8b3f9fe957a481123eac00d7a8516cfea116fb22fda1", func := "example.com/linetone/linetone/zzlaws_internal_raster_b1.FnDirectoryReadSplits", spec := "fnDirectoryReadSplits", unfollowed := true, recurses := true, apart := false }
def FnDirectoryReadSplitsSaid : Prop := fnDirectoryReadSplitsRow.holds Try.pinned (OpenSpec.ofChange fnDirectoryReadSplitsSpec)

/-- ITS FALSE NEIGHBOUR: 'it returns false'. Refute it at one input. -/
def fnDirectoryReadSplitsWrong : ChangeSpec := { name := "fnDirectoryReadSplits", fn := fun _ => fun
  | [d1, d2, d3, d4] => { results := [.lit (.bool false)], args := [d1, d2, d3, d4] }
  | _ => none }
def FnDirectoryReadSplitsWrongFalsely : Prop := fnDirectoryReadSplitsRow.holds Try.pinned (OpenSpec.ofChange fnDirectoryReadSplitsWrong)

end Rows
end Go.Proofs.Qxb6604706a
