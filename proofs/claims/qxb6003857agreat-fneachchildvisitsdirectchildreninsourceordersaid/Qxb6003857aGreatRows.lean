/-
  No cell of these rows narrows 'for every input' (looked for: loops, veiled, ifaces, maps, wideKeys, modest, calm, conditions, laid).
  DERIVED. THE GIVEN ROWS OF THIS SEAT. 1 by the template 'for every input the law returns true; each argument reads behind the call as it read before'; 0 by the template 'total and deterministic' (their statements: Qxb6003857aGreatTotals.lean).
  GIVEN WITH THE SEED: the statements are not yours to turn. If you find one false, say at which input.
  Laid BY PROGRAM, IN A SANDBOX (cutbox-rows.mjs): the forced cells as the released guide's own fill.sh prints them over the translation 1b1185d96fb25f39… (all of the seat's roots in one cut). By AI agents, Wed Nov 11 2026. No macro, syntax, notation, axiom, sorry.
-/
import Derived.Test.Qxb6003857aGreatChecked
import GoSem.Claim
import GoSem.ClaimJoined
import GoSem.ClaimMapViews
import Derived.JoinedTies
import Derived.KernelRfl
namespace Go.Proofs.Qxb6003857aGreat
/- THE CELL 'sum', in the pinned program and in every row, IS THE sha256 OF THE DUMP (.gsa) THAT Qxb6003857aGreatProg.lean LOADS. Nothing in Lean hashes anything: it is a label: what it is worth is what the hold of that sum in a sandbox is worth. -/
noncomputable def Tryz.pinned : Pinned := { name := "qxb6003857agreat", sum := "1b1185d96fb25f395291f34af57cc16d392e8834b1ddd395a7515929fca47bc8", checked := Tryz.checked }
namespace Rows
def none {H : Type} : Left H := { results := [], args := [] }

/-- 'zzlaws_internal_ast_g1.FnEachChildVisitsDirectChildrenInSourceOrder': WHATEVER THE INPUT: true; the input reads as it did. -/
def fnEachChildVisitsDirectChildrenInSourceOrderSpec : ChangeSpec := { name := "fnEachChildVisitsDirectChildrenInSourceOrder", fn := fun _ => fun
  | [d1, d2, d3, d4, d5] => { results := [.lit (.bool true)], args := [d1, d2, d3, d4, d5] }
  | _ => none }
def fnEachChildVisitsDirectChildrenInSourceOrderRow : OpenClaim := { program := "qxb6003857agreat", sum := "1b1185d96fb25f395291f34af57cc16d392e8834b1ddd395a7515929fca47bc8", func := "example.com/nullwright/nullwright/zzlaws_internal_ast_g1.FnEachChildVisitsDirectChildrenInSourceOrder", spec := "fnEachChildVisitsDirectChildrenInSourceOrder", unfollowed := true, recurses := true, apart := false }
def FnEachChildVisitsDirectChildrenInSourceOrderSaid : Prop := fnEachChildVisitsDirectChildrenInSourceOrderRow.holds Tryz.pinned (OpenSpec.ofChange fnEachChildVisitsDirectChildrenInSourceOrderSpec)

/-- ITS FALSE NEIGHBOUR: 'it returns false'. Refute it at one input. -/
def fnEachChildVisitsDirectChildrenInSourceOrderWrong : ChangeSpec := { name := "fnEachChildVisitsDirectChildrenInSourceOrder", fn := fun _ => fun
  | [d1, d2, d3, d4, d5] => { results := [.lit (.bool false)], args := [d1, d2, d3, d4, d5] }
  | _ => none }
def FnEachChildVisitsDirectChildrenInSourceOrderWrongFalsely : Prop := fnEachChildVisitsDirectChildrenInSourceOrderRow.holds Tryz.pinned (OpenSpec.ofChange fnEachChildVisitsDirectChildrenInSourceOrderWrong)

end Rows
end Go.Proofs.Qxb6003857aGreat
