/-
  No cell of these rows narrows 'for every input' (looked for: loops, veiled, ifaces, maps, wideKeys, modest, calm, conditions, laid).
  DERIVED. THE GIVEN ROWS OF THIS SEAT. 5 by the template 'for every input the law returns true; each argument reads behind the call as it read before'; 0 by the template 'total and deterministic' (their statements: Qxb6608834aTotals.lean).
  GIVEN WITH THE SEED: the statements are not yours to turn. If you find one false, say at which input.
  Laid BY PROGRAM, IN A SANDBOX (cutbox-rows.mjs): the forced cells as the released guide's own fill.sh prints them over the translation 9a6e721befb219f5… (all of the seat's roots in one cut). By AI agents, Wed Nov 11 2026. No macro, syntax, notation, axiom, sorry.
-/
import Derived.Test.Qxb6608834aChecked
import GoSem.Claim
import GoSem.ClaimJoined
import GoSem.ClaimMapViews
import Derived.JoinedTies
import Derived.KernelRfl
namespace Go.Proofs.Qxb6608834a
/- THE CELL 'sum', in the pinned program and in every row, IS THE sha256 OF THE DUMP (.gsa) THAT Qxb6608834aProg.lean LOADS. Nothing in Lean hashes anything: it is a label: what it is worth is what the hold of that sum in a sandbox is worth. -/
noncomputable def Try.pinned : Pinned := { name := "qxb6608834a", sum := "9a6e721befb219f5e954010090041b98a80a7c2f48dca7b47f747504aa374c58", checked := Try.checked }
namespace Rows
def none {H : Type} : Left H := { results := [], args := [] }

/-- 'zzlaws_pkg_cluster_b1.FnRequestCutOfContainers': WHATEVER THE INPUT: true; the input reads as it did. -/
def fnRequestCutOfContainersSpec : ChangeSpec := { name := "fnRequestCutOfContainers", fn := fun _ => fun
  | [d1, d2, d3] => { results := [.lit (.bool true)], args := [d1, d2, d3] }
  | _ => none }
def fnRequestCutOfContainersRow : OpenClaim := { program := "qxb6608834a", sum := "9a6e721befb219f5e954010090041b98a80a7c2f48dca7b47f747504aa374c58", func := "example.com/nodeward/nodeward/zzlaws_pkg_cluster_b1.FnRequestCutOfContainers", spec := "fnRequestCutOfContainers", unfollowed := true, recurses := true, apart := false }
def FnRequestCutOfContainersSaid : Prop := fnRequestCutOfContainersRow.holds Try.pinned (OpenSpec.ofChange fnRequestCutOfContainersSpec)

/-- ITS FALSE NEIGHBOUR: 'it returns false'. Refute it at one input. -/
def fnRequestCutOfContainersWrong : ChangeSpec := { name := "fnRequestCutOfContainers", fn := fun _ => fun
  | [d1, d2, d3] => { results := [.lit (.bool false)], args := [d1, d2, d3] }
  | _ => none }
def FnRequestCutOfContainersWrongFalsely : Prop := fnRequestCutOfContainersRow.holds Try.pinned (OpenSpec.ofChange fnRequestCutOfContainersWrong)

/-- 'zzlaws_pkg_cluster_b1.FnRequestInitPutInAnywhere': WHATEVER THE INPUT: true; the input reads as it did. -/
def fnRequestInitPutInAnywhereSpec : ChangeSpec := { name := "fnRequestInitPutInAnywhere", fn := fun _ => fun
  | [d1, d2, d3, d4] => { results := [.lit (.bool true)], args := [d1, d2, d3, d4] }
  | _ => none }
def fnRequestInitPutInAnywhereRow : OpenClaim := { program := "qxb6608834a", sum := "9a6e721befb219f5e954010090041b98a80a7c2f48dca7b47f747504aa374c58", func := "example.com/nodeward/nodeward/zzlaws_pkg_cluster_b1.FnRequestInitPutInAnywhere", spec := "fnRequestInitPutInAnywhere", unfollowed := true, recurses := true, apart := false }
def FnRequestInitPutInAnywhereSaid : Prop := fnRequestInitPutInAnywhereRow.holds Try.pinned (OpenSpec.ofChange fnRequestInitPutInAnywhereSpec)

/-- ITS FALSE NEIGHBOUR: 'it returns false'. Refute it at one input. -/
def fnRequestInitPutInAnywhereWrong : ChangeSpec := { name := "fnRequestInitPutInAnywhere", fn := fun _ => fun
  | [d1, d2, d3, d4] => { results := [.lit (.bool false)], args := [d1, d2, d3, d4] }
  | _ => none }
def FnRequestInitPutInAnywhereWrongFalsely : Prop := fnRequestInitPutInAnywhereRow.holds Try.pinned (OpenSpec.ofChange fnRequestInitPutInAnywhereWrong)

/-- 'zzlaws_pkg_cluster_b1.FnNodeOfSetToleratedByItsTaints': WHATEVER THE INPUT: true; the input reads as it did. -/
def fnNodeOfSetToleratedByItsTaintsSpec : ChangeSpec := { name := "fnNodeOfSetToleratedByItsTaints", fn := fun _ => fun
  | [d1, d2] => { results := [.lit (.bool true)], args := [d1, d2] }
  | _ => none }
def fnNodeOfSetToleratedByItsTaintsRow : OpenClaim := { program := "qxb6608834a", sum := "9a6e721befb219f5e954010090041b98a80a7c2f48dca7b47f747504aa374c58", func := "example.com/nodeward/nodeward/zzlaws_pkg_cluster_b1.FnNodeOfSetToleratedByItsTaints", spec := "fnNodeOfSetToleratedByItsTaints", apart := false }
def FnNodeOfSetToleratedByItsTaintsSaid : Prop := fnNodeOfSetToleratedByItsTaintsRow.holds Try.pinned (OpenSpec.ofChange fnNodeOfSetToleratedByItsTaintsSpec)

/-- ITS FALSE NEIGHBOUR: 'it returns false'. Refute it at one input. -/
def fnNodeOfSetToleratedByItsTaintsWrong : ChangeSpec := { name := "fnNodeOfSetToleratedByItsTaints", fn := fun _ => fun
  | [d1, d2] => { results := [.lit (.bool false)], args := [d1, d2] }
  | _ => none }
def FnNodeOfSetToleratedByItsTaintsWrongFalsely : Prop := fnNodeOfSetToleratedByItsTaintsRow.holds Try.pinned (OpenSpec.ofChange fnNodeOfSetToleratedByItsTaintsWrong)

/-- 'zzlaws_pkg_cluster_b1.FnNewNodesOfOneSetAreIndependent': WHATEVER THE INPUT: true; the input reads as it did. -/
def fnNewNodesOfOneSetAreIndependentSpec : ChangeSpec := { name := "fnNewNodesOfOneSetAreIndependent", fn := fun _ => fun
  | [d1, d2, d3, d4, d5, d6, d7] => { results := [.lit (.bool true)], args := [d1, d2, d3, d4, d5, d6, d7] }
  | _ => none }
def fnNewNodesOfOneSetAreIndependentRow : OpenClaim := { program := "qxb6608834a", sum := "9a6e721befb219f5e954010090041b98a80a7c2f48dca7b47f747504aa374c58", func := "example.com/nodeward/nodeward/zzlaws_pkg_cluster_b1.FnNewNodesOfOneSetAreIndependent", spec := "fnNewNodesOfOneSetAreIndependent", apart := false }
def FnNewNodesOfOneSetAreIndependentSaid : Prop := fnNewNodesOfOneSetAreIndependentRow.holds Try.pinned (OpenSpec.ofChange fnNewNodesOfOneSetAreIndependentSpec)

/-- ITS FALSE NEIGHBOUR: 'it returns false'. Refute it at one input. -/
def fnNewNodesOfOneSetAreIndependentWrong : ChangeSpec := { name := "fnNewNodesOfOneSetAreIndependent", fn := fun _ => fun
  | [d1, d2, d3, d4, d5, d6, d7] => { results := [.lit (.bool false)], args := [d1, d2, d3, d4, d5, d6, d7] }
  | _ => none }
def FnNewNodesOfOneSetAreIndependentWrongFalsely : Prop := fnNewNodesOfOneSetAreIndependentRow.holds Try.pinned (OpenSpec.ofChange fnNewNodesOfOneSetAreIndependentWrong)

/-- 'zzlaws_pkg_cluster_b1.FnToleratesCutOfTolerations': WHATEVER THE INPUT: true; the input reads as it did. -/
def fnToleratesCutOfTolerationsSpec : ChangeSpec := { name := "fnToleratesCutOfTolerations", fn := fun _ => fun
  | [d1, d2, d3] => { results := [.lit (.bool true)], args := [d1, d2, d3] }
  | _ => none }
def fnToleratesCutOfTolerationsRow : OpenClaim := { program := "qxb6608834a", sum := "9a6e721befb219f5e954010090041b98a80a7c2f48dca7b47f747504aa374c58", func := "example.com/nodeward/nodeward/zzlaws_pkg_cluster_b1.FnToleratesCutOfTolerations", spec := "fnToleratesCutOfTolerations", apart := false }
def FnToleratesCutOfTolerationsSaid : Prop := fnToleratesCutOfTolerationsRow.holds Try.pinned (OpenSpec.ofChange fnToleratesCutOfTolerationsSpec)

/-- ITS FALSE NEIGHBOUR: 'it returns false'. Refute it at one input. -/
def fnToleratesCutOfTolerationsWrong : ChangeSpec := { name := "fnToleratesCutOfTolerations", fn := fun _ => fun
  | [d1, d2, d3] => { results := [.lit (.bool false)], args := [d1, d2, d3] }
  | _ => none }
def FnToleratesCutOfTolerationsWrongFalsely : Prop := fnToleratesCutOfTolerationsRow.holds Try.pinned (OpenSpec.ofChange fnToleratesCutOfTolerationsWrong)

end Rows
end Go.Proofs.Qxb6608834a
