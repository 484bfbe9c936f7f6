/-
  No cell of these rows narrows 'for every input' (looked for: loops, veiled, ifaces, maps, wideKeys, modest, calm, conditions, laid).
  DERIVED. THE GIVEN ROWS OF THIS SEAT. 3 by the template 'for every input the law returns true; each argument reads behind the call as it read before'; 0 by the template 'total and deterministic' (their statements: Qxb6003857aTotals.lean).
  GIVEN WITH THE SEED: the statements are not yours to turn. If you find one false, say at which input.
  Laid BY PROGRAM, IN A SANDBOX (cutbox-rows.mjs): the forced cells as the released guide's own fill.sh prints them over the translation 96178f57f3a29a6a… (all of the seat's roots in one cut). By AI agents, Wed Nov 11 2026. No macro, syntax, notation, axiom, sorry.
-/
import Derived.Test.Qxb6003857aChecked
import GoSem.Claim
import GoSem.ClaimJoined
import GoSem.ClaimMapViews
import Derived.JoinedTies
import Derived.KernelRfl
namespace Go.Proofs.Qxb6003857a
/- THE CELL 'sum', in the pinned program and in every row, IS THE sha256 OF THE DUMP (.gsa) THAT Qxb6003857aProg.lean LOADS. Nothing in Lean hashes anything: it is a label: what it is worth is what the hold of that sum in a sandbox is worth. -/
noncomputable def Try.pinned : Pinned := { name := "qxb6003857a", sum := "96178f57f3a29a6a32d0c7d9afdee9dd966d10838c310d6521fd30a6cc67ca01", checked := Try.checked }
namespace Rows
def none {H : Type} : Left H := { results := [], args := [] }

/-- 'zzlaws_internal_types_g1.FnScopeInsertFirstWinsAndShadowing': WHATEVER THE INPUT: true; the input reads as it did. -/
def fnScopeInsertFirstWinsAndShadowingSpec : ChangeSpec := { name := "fnScopeInsertFirstWinsAndShadowing", fn := fun _ => fun
  | [d] => { results := [.lit (.bool true)], args := [d] }
  | _ => none }
def fnScopeInsertFirstWinsAndShadowingRow : OpenClaim := { program := "qxb6003857a", sum := "96178f57f3a29a6a32d0c7d9afdee9dd966d10838c310d6521fd30a6cc67ca01", func := "example.com/nullwright/nullwright/zzlaws_internal_types_g1.FnScopeInsertFirstWinsAndShadowing", spec := "fnScopeInsertFirstWinsAndShadowing", apart := false }
def FnScopeInsertFirstWinsAndShadowingSaid : Prop := fnScopeInsertFirstWinsAndShadowingRow.holds Try.pinned (OpenSpec.ofChange fnScopeInsertFirstWinsAndShadowingSpec)

/-- ITS FALSE NEIGHBOUR: 'it returns false'. Refute it at one input. -/
def fnScopeInsertFirstWinsAndShadowingWrong : ChangeSpec := { name := "fnScopeInsertFirstWinsAndShadowing", fn := fun _ => fun
  | [d] => { results := [.lit (.bool false)], args := [d] }
  | _ => none }
def FnScopeInsertFirstWinsAndShadowingWrongFalsely : Prop := fnScopeInsertFirstWinsAndShadowingRow.holds Try.pinned (OpenSpec.ofChange fnScopeInsertFirstWinsAndShadowingWrong)

/-- 'zzlaws_internal_types_g1.FnScopeImportGathersDistinctEntities': WHATEVER THE INPUT: true; the input reads as it did. -/
def fnScopeImportGathersDistinctEntitiesSpec : ChangeSpec := { name := "fnScopeImportGathersDistinctEntities", fn := fun _ => fun
  | [d] => { results := [.lit (.bool true)], args := [d] }
  | _ => none }
def fnScopeImportGathersDistinctEntitiesRow : OpenClaim := { program := "qxb6003857a", sum := "96178f57f3a29a6a32d0c7d9afdee9dd966d10838c310d6521fd30a6cc67ca01", func := "example.com/nullwright/nullwright/zzlaws_internal_types_g1.FnScopeImportGathersDistinctEntities", spec := "fnScopeImportGathersDistinctEntities", recurses := true, apart := false }
def FnScopeImportGathersDistinctEntitiesSaid : Prop := fnScopeImportGathersDistinctEntitiesRow.holds Try.pinned (OpenSpec.ofChange fnScopeImportGathersDistinctEntitiesSpec)

/-- ITS FALSE NEIGHBOUR: 'it returns false'. Refute it at one input. -/
def fnScopeImportGathersDistinctEntitiesWrong : ChangeSpec := { name := "fnScopeImportGathersDistinctEntities", fn := fun _ => fun
  | [d] => { results := [.lit (.bool false)], args := [d] }
  | _ => none }
def FnScopeImportGathersDistinctEntitiesWrongFalsely : Prop := fnScopeImportGathersDistinctEntitiesRow.holds Try.pinned (OpenSpec.ofChange fnScopeImportGathersDistinctEntitiesWrong)

/-- 'zzlaws_internal_types_g1.FnClassDeclareFirstWinsMembersSorted': WHATEVER THE INPUT: true; the input reads as it did. -/
def fnClassDeclareFirstWinsMembersSortedSpec : ChangeSpec := { name := "fnClassDeclareFirstWinsMembersSorted", fn := fun _ => fun
  | [d] => { results := [.lit (.bool true)], args := [d] }
  | _ => none }
def fnClassDeclareFirstWinsMembersSortedRow : OpenClaim := { program := "qxb6003857a", sum := "96178f57f3a29a6a32d0c7d9afdee9dd966d10838c310d6521fd30a6cc67ca01", func := "example.com/nullwright/nullwright/zzlaws_internal_types_g1.FnClassDeclareFirstWinsMembersSorted", spec := "fnClassDeclareFirstWinsMembersSorted", unfollowed := true, recurses := true, apart := false }
def FnClassDeclareFirstWinsMembersSortedSaid : Prop := fnClassDeclareFirstWinsMembersSortedRow.holds Try.pinned (OpenSpec.ofChange fnClassDeclareFirstWinsMembersSortedSpec)

/-- ITS FALSE NEIGHBOUR: 'it returns false'. Refute it at one input. -/
def fnClassDeclareFirstWinsMembersSortedWrong : ChangeSpec := { name := "fnClassDeclareFirstWinsMembersSorted", fn := fun _ => fun
  | [d] => { results := [.lit (.bool false)], args := [d] }
  | _ => none }
def FnClassDeclareFirstWinsMembersSortedWrongFalsely : Prop := fnClassDeclareFirstWinsMembersSortedRow.holds Try.pinned (OpenSpec.ofChange fnClassDeclareFirstWinsMembersSortedWrong)

end Rows
end Go.Proofs.Qxb6003857a
