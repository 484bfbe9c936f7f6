/-
  No cell of these rows narrows 'for every input' (looked for: loops, veiled, ifaces, maps, wideKeys, modest, calm, conditions, laid).
  DERIVED. THE GIVEN ROWS OF THIS SEAT. 2 by the template 'for every input the law returns true; each argument reads behind the call as it read before'; 0 by the template 'total and deterministic' (their statements: Qxb6605478aTotals.lean).
  GIVEN WITH THE SEED: the statements are not yours to turn. If you find one false, say at which input.
  Laid BY PROGRAM, IN A SANDBOX (cutbox-rows.mjs): the forced cells as the released guide's own fill.sh prints them over the translation de1bd46c69ab63bd… (all of the seat's roots in one cut). By AI agents, Wed Nov 11 2026. No macro, syntax, notation, axiom, sorry.
-/
import Derived.Test.Qxb6605478aChecked
import GoSem.Claim
import GoSem.ClaimJoined
import GoSem.ClaimMapViews
import Derived.JoinedTies
import Derived.KernelRfl
namespace Go.Proofs.Qxb6605478a
/- THE CELL 'sum', in the pinned program and in every row, IS THE sha256 OF THE DUMP (.gsa) THAT Qxb6605478aProg.lean LOADS. Nothing in Lean hashes anything: it is a label: what it is worth is what the hold of that sum in a sandbox is worth. -/
noncomputable def Try.pinned : Pinned := { name := "qxb6605478a", sum := "de1bd46c69ab63bd90646fef82b1bc114bff1ac73e708147f65aef83be07b953", checked := Try.checked }
namespace Rows
def none {H : Type} : Left H := { results := [], args := [] }

/-- 'zzlaws_internal_zone_b1.FnLowerCanonicalForm': WHATEVER THE INPUT: true; the input reads as it did. -/
def fnLowerCanonicalFormSpec : ChangeSpec := { name := "fnLowerCanonicalForm", fn := fun _ => fun
  | [d] => { results := [.lit (.bool true)], args := [d] }
  | _ => none }
def fnLowerCanonicalFormRow : OpenClaim := { program := "qxb6605478a", sum := "de1bd46c69ab63bd90646fef82b1bc114bff1ac73e708147f65aef83be07b953", func := "example.com/anchorwell/anchorwell/zzlaws_internal_zone_b1.FnLowerCanonicalForm", spec := "fnLowerCanonicalForm", apart := false }
def FnLowerCanonicalFormSaid : Prop := fnLowerCanonicalFormRow.holds Try.pinned (OpenSpec.ofChange fnLowerCanonicalFormSpec)

/-- ITS FALSE NEIGHBOUR: 'it returns false'. Refute it at one input. -/
def fnLowerCanonicalFormWrong : ChangeSpec := { name := "fnLowerCanonicalForm", fn := fun _ => fun
  | [d] => { results := [.lit (.bool false)], args := [d] }
  | _ => none }
def FnLowerCanonicalFormWrongFalsely : Prop := fnLowerCanonicalFormRow.holds Try.pinned (OpenSpec.ofChange fnLowerCanonicalFormWrong)

/-- 'zzlaws_internal_zone_b1.FnLowerEqualIffFoldEqual': WHATEVER THE INPUT: true; the input reads as it did. -/
def fnLowerEqualIffFoldEqualSpec : ChangeSpec := { name := "fnLowerEqualIffFoldEqual", fn := fun _ => fun
  | [d1, d2] => { results := [.lit (.bool true)], args := [d1, d2] }
  | _ => none }
def fnLowerEqualIffFoldEqualRow : OpenClaim := { program := "qxb6605478a", sum := "de1bd46c69ab63bd90646fef82b1bc114bff1ac73e708147f65aef83be07b953", func := "example.com/anchorwell/anchorwell/zzlaws_internal_zone_b1.FnLowerEqualIffFoldEqual", spec := "fnLowerEqualIffFoldEqual", apart := false }
def FnLowerEqualIffFoldEqualSaid : Prop := fnLowerEqualIffFoldEqualRow.holds Try.pinned (OpenSpec.ofChange fnLowerEqualIffFoldEqualSpec)

/-- ITS FALSE NEIGHBOUR: 'it returns false'. Refute it at one input. -/
def fnLowerEqualIffFoldEqualWrong : ChangeSpec := { name := "fnLowerEqualIffFoldEqual", fn := fun _ => fun
  | [d1, d2] => { results := [.lit (.bool false)], args := [d1, d2] }
  | _ => none }
def FnLowerEqualIffFoldEqualWrongFalsely : Prop := fnLowerEqualIffFoldEqualRow.holds Try.pinned (OpenSpec.ofChange fnLowerEqualIffFoldEqualWrong)

end Rows
end Go.Proofs.Qxb6605478a
