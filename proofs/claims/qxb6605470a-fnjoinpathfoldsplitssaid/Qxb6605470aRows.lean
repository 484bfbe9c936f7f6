/-
  No cell of these rows narrows 'for every input' (looked for: loops, veiled, ifaces, maps, wideKeys, modest, calm, conditions, laid).
  DERIVED. THE GIVEN ROWS OF THIS SEAT. 2 by the template 'for every input the law returns true; each argument reads behind the call as it read before'; 0 by the template 'total and deterministic' (their statements: Qxb6605470aTotals.lean).
  GIVEN WITH THE SEED: the statements are not yours to turn. If you find one false, say at which input.
  Laid BY PROGRAM, IN A SANDBOX (cutbox-rows.mjs): the forced cells as the released guide's own fill.sh prints them over the translation 51e3220c1014baf6… (all of the seat's roots in one cut). By AI agents, Wed Nov 11 2026. No macro, syntax, notation, axiom, sorry.
-/
import Derived.Test.Qxb6605470aChecked
import GoSem.Claim
import GoSem.ClaimJoined
import GoSem.ClaimMapViews
import Derived.JoinedTies
import Derived.KernelRfl
namespace Go.Proofs.Qxb6605470a
/- THE CELL 'sum', in the pinned program and in every row, IS THE sha256 OF THE DUMP (.gsa) THAT Qxb6605470aProg.lean LOADS. Nothing in Lean hashes anything: it is a label: what it is worth is what the hold of that sum in a sandbox is worth. -/
noncomputable def Try.pinned : Pinned := { name := "qxb6605470a", sum := "51e3220c1014baf6c14de22b8503059ed17574d2201ab23bf259f8a70c8de92c", checked := Try.checked }
namespace Rows
def none {H : Type} : Left H := { results := [], args := [] }

/-- 'zzlaws_asar_b1.FnJoinPathSplitsAtLastSlash': WHATEVER THE INPUT: true; the input reads as it did. -/
def fnJoinPathSplitsAtLastSlashSpec : ChangeSpec := { name := "fnJoinPathSplitsAtLastSlash", fn := fun _ => fun
  | [d1, d2] => { results := [.lit (.bool true)], args := [d1, d2] }
  | _ => none }
def fnJoinPathSplitsAtLastSlashRow : OpenClaim := { program := "qxb6605470a", sum := "51e3220c1014baf6c14de22b8503059ed17574d2201ab23bf259f8a70c8de92c", func := "example.com/parcelwright/parcelwright/zzlaws_asar_b1.FnJoinPathSplitsAtLastSlash", spec := "fnJoinPathSplitsAtLastSlash", apart := false }
def FnJoinPathSplitsAtLastSlashSaid : Prop := fnJoinPathSplitsAtLastSlashRow.holds Try.pinned (OpenSpec.ofChange fnJoinPathSplitsAtLastSlashSpec)

/-- ITS FALSE NEIGHBOUR: 'it returns false'. Refute it at one input. -/
def fnJoinPathSplitsAtLastSlashWrong : ChangeSpec := { name := "fnJoinPathSplitsAtLastSlash", fn := fun _ => fun
  | [d1, d2] => { results := [.lit (.bool false)], args := [d1, d2] }
  | _ => none }
def FnJoinPathSplitsAtLastSlashWrongFalsely : Prop := fnJoinPathSplitsAtLastSlashRow.holds Try.pinned (OpenSpec.ofChange fnJoinPathSplitsAtLastSlashWrong)

/-- 'zzlaws_asar_b1.FnJoinPathFoldSplits': WHATEVER THE INPUT: true; the input reads as it did. -/
def fnJoinPathFoldSplitsSpec : ChangeSpec := { name := "fnJoinPathFoldSplits", fn := fun _ => fun
  | [d] => { results := [.lit (.bool true)], args := [d] }
  | _ => none }
def fnJoinPathFoldSplitsRow : OpenClaim := { program := "qxb6605470a", sum := "51e3220c1014baf6c14de22b8503059ed17574d2201ab23bf259f8a70c8de92c", func := "example.com/parcelwright/parcelwright/zzlaws_asar_b1.FnJoinPathFoldSplits", spec := "fnJoinPathFoldSplits", apart := false }
def FnJoinPathFoldSplitsSaid : Prop := fnJoinPathFoldSplitsRow.holds Try.pinned (OpenSpec.ofChange fnJoinPathFoldSplitsSpec)

/-- ITS FALSE NEIGHBOUR: 'it returns false'. Refute it at one input. -/
def fnJoinPathFoldSplitsWrong : ChangeSpec := { name := "fnJoinPathFoldSplits", fn := fun _ => fun
  | [d] => { results := [.lit (.bool false)], args := [d] }
  | _ => none }
def FnJoinPathFoldSplitsWrongFalsely : Prop := fnJoinPathFoldSplitsRow.holds Try.pinned (OpenSpec.ofChange fnJoinPathFoldSplitsWrong)

end Rows
end Go.Proofs.Qxb6605470a
