/-
  No cell of these rows narrows 'for every input' (looked for: loops, veiled, ifaces, maps, wideKeys, modest, calm, conditions, laid).
  DERIVED. THE GIVEN ROWS OF THIS SEAT. 3 by the template 'for every input the law returns true; each argument reads behind the call as it read before'; 0 by the template 'total and deterministic' (their statements: Qxb6604549aTotals.lean).
  GIVEN WITH THE SEED: the statements are not yours to turn. If you find one false, say at which input.
  Laid BY PROGRAM, IN A SANDBOX (cutbox-rows.mjs): the forced cells as the released guide's own fill.sh prints them over the translation 636dd0929345ffad… (all of the seat's roots in one cut). By AI agents, Wed Nov 11 2026. No macro, syntax, notation, axiom, sorry.
-/
import Derived.Test.Qxb6604549aChecked
import GoSem.Claim
import GoSem.ClaimJoined
import GoSem.ClaimMapViews
import Derived.JoinedTies
import Derived.KernelRfl
namespace Go.Proofs.Qxb6604549a
/- THE CELL 'sum', in the pinned program and in every row, IS THE sha256 OF THE DUMP (.gsa) THAT Qxb6604549aProg.lean LOADS. Nothing in Lean hashes anything: it is a label: what it is worth is what the hold of that sum in a sandbox is worth. -/
noncomputable def Try.pinned : Pinned := { name := "qxb6604549a", sum := "636dd0929345ffad8cdabc932dbea6106f1a2b03ec3290a8e3e18c3d5a8ec449", checked := Try.checked }
namespace Rows
def none {H : Type} : Left H := { results := [], args := [] }

/-- 'zzlaws_internal_register_b1.FnNewWritesStartsFreshWrites': WHATEVER THE INPUT: true; the input reads as it did. -/
def fnNewWritesStartsFreshWritesSpec : ChangeSpec := { name := "fnNewWritesStartsFreshWrites", fn := fun _ => fun
  | [d1, d2, d3, d4] => { results := [.lit (.bool true)], args := [d1, d2, d3, d4] }
  | _ => none }
def fnNewWritesStartsFreshWritesRow : OpenClaim := { program := "qxb6604549a", sum := "636dd0929345ffad8cdabc932dbea6106f1a2b03ec3290a8e3e18c3d5a8ec449", func := "example.com/quorumcell/quorumcell/zzlaws_internal_register_b1.FnNewWritesStartsFreshWrites", spec := "fnNewWritesStartsFreshWrites", apart := false }
def FnNewWritesStartsFreshWritesSaid : Prop := fnNewWritesStartsFreshWritesRow.holds Try.pinned (OpenSpec.ofChange fnNewWritesStartsFreshWritesSpec)

/-- ITS FALSE NEIGHBOUR: 'it returns false'. Refute it at one input. -/
def fnNewWritesStartsFreshWritesWrong : ChangeSpec := { name := "fnNewWritesStartsFreshWrites", fn := fun _ => fun
  | [d1, d2, d3, d4] => { results := [.lit (.bool false)], args := [d1, d2, d3, d4] }
  | _ => none }
def FnNewWritesStartsFreshWritesWrongFalsely : Prop := fnNewWritesStartsFreshWritesRow.holds Try.pinned (OpenSpec.ofChange fnNewWritesStartsFreshWritesWrong)

/-- 'zzlaws_internal_register_b1.FnSweepMatchesSectorModel': WHATEVER THE INPUT: true; the input reads as it did. -/
def fnSweepMatchesSectorModelSpec : ChangeSpec := { name := "fnSweepMatchesSectorModel", fn := fun _ => fun
  | [d1, d2, d3] => { results := [.lit (.bool true)], args := [d1, d2, d3] }
  | _ => none }
def fnSweepMatchesSectorModelRow : OpenClaim := { program := "qxb6604549a", sum := "636dd0929345ffad8cdabc932dbea6106f1a2b03ec3290a8e3e18c3d5a8ec449", func := "example.com/quorumcell/quorumcell/zzlaws_internal_register_b1.FnSweepMatchesSectorModel", spec := "fnSweepMatchesSectorModel", unfollowed := true, recurses := true, apart := false }
def FnSweepMatchesSectorModelSaid : Prop := fnSweepMatchesSectorModelRow.holds Try.pinned (OpenSpec.ofChange fnSweepMatchesSectorModelSpec)

/-- ITS FALSE NEIGHBOUR: 'it returns false'. Refute it at one input. -/
def fnSweepMatchesSectorModelWrong : ChangeSpec := { name := "fnSweepMatchesSectorModel", fn := fun _ => fun
  | [d1, d2, d3] => { results := [.lit (.bool false)], args := [d1, d2, d3] }
  | _ => none }
def FnSweepMatchesSectorModelWrongFalsely : Prop := fnSweepMatchesSectorModelRow.holds Try.pinned (OpenSpec.ofChange fnSweepMatchesSectorModelWrong)

/-- 'zzlaws_internal_register_b1.FnSweepCoversUpToQuorumExtent': WHATEVER THE INPUT: true; the input reads as it did. -/
def fnSweepCoversUpToQuorumExtentSpec : ChangeSpec := { name := "fnSweepCoversUpToQuorumExtent", fn := fun _ => fun
  | [d1, d2, d3] => { results := [.lit (.bool true)], args := [d1, d2, d3] }
  | _ => none }
def fnSweepCoversUpToQuorumExtentRow : OpenClaim := { program := "qxb6604549a", sum := "636dd0929345ffad8cdabc932dbea6106f1a2b03ec3290a8e3e18c3d5a8ec449", func := "example.com/quorumcell/quorumcell/zzlaws_internal_register_b1.FnSweepCoversUpToQuorumExtent", spec := "fnSweepCoversUpToQuorumExtent", unfollowed := true, recurses := true, apart := false }
def FnSweepCoversUpToQuorumExtentSaid : Prop := fnSweepCoversUpToQuorumExtentRow.holds Try.pinned (OpenSpec.ofChange fnSweepCoversUpToQuorumExtentSpec)

/-- ITS FALSE NEIGHBOUR: 'it returns false'. Refute it at one input. -/
def fnSweepCoversUpToQuorumExtentWrong : ChangeSpec := { name := "fnSweepCoversUpToQuorumExtent", fn := fun _ => fun
  | [d1, d2, d3] => { results := [.lit (.bool false)], args := [d1, d2, d3] }
  | _ => none }
def FnSweepCoversUpToQuorumExtentWrongFalsely : Prop := fnSweepCoversUpToQuorumExtentRow.holds Try.pinned (OpenSpec.ofChange fnSweepCoversUpToQuorumExtentWrong)

end Rows
end Go.Proofs.Qxb6604549a
