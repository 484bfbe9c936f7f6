/-
  No cell of these rows narrows 'for every input' (looked for: loops, veiled, ifaces, maps, wideKeys, modest, calm, conditions, laid).
  DERIVED. THE GIVEN ROWS OF THIS SEAT. 4 by the template 'for every input the law returns true; each argument reads behind the call as it read before'; 0 by the template 'total and deterministic' (their statements: Qxb6605392aTotals.lean).
  GIVEN WITH THE SEED: the statements are not yours to turn. If you find one false, say at which input.
  Laid BY PROGRAM, IN A SANDBOX (cutbox-rows.mjs): the forced cells as the released guide's own fill.sh prints them over the translation bd2ee57210eab0ef… (all of the seat's roots in one cut). By AI agents, Wed Nov 11 2026. No macro, syntax, notation, axiom, sorry.
-/
import Derived.Test.Qxb6605392aChecked
import GoSem.Claim
import GoSem.ClaimJoined
import GoSem.ClaimMapViews
import Derived.JoinedTies
import Derived.KernelRfl
namespace Go.Proofs.Qxb6605392a
/- THE CELL 'sum', in the pinned program and in every row, IS THE sha256 OF THE DUMP (.gsa) THAT Qxb6605392aProg.lean LOADS. Nothing in Lean hashes anything: it is a label: what it is worth is what the hold of that sum in a sandbox is worth. -/
noncomputable def Try.pinned : Pinned := { name := "qxb6605392a", sum := "bd2ee57210eab0ef83798963525521b2fe2a2c4ebbc2d32654699296cad95b5a", checked := Try.checked }
namespace Rows
def none {H : Type} : Left H := { results := [], args := [] }

/-- 'zzlaws_mask_b1.FnHex4MatchesDigitTable': WHATEVER THE INPUT: true; the input reads as it did. -/
def fnHex4MatchesDigitTableSpec : ChangeSpec := { name := "fnHex4MatchesDigitTable", fn := fun _ => fun
  | [d] => { results := [.lit (.bool true)], args := [d] }
  | _ => none }
def fnHex4MatchesDigitTableRow : OpenClaim := { program := "qxb6605392a", sum := "bd2ee57210eab0ef83798963525521b2fe2a2c4ebbc2d32654699296cad95b5a", func := "example.com/act2/act2/zzlaws_mask_b1.FnHex4MatchesDigitTable", spec := "fnHex4MatchesDigitTable", apart := false }
def FnHex4MatchesDigitTableSaid : Prop := fnHex4MatchesDigitTableRow.holds Try.pinned (OpenSpec.ofChange fnHex4MatchesDigitTableSpec)

/-- ITS FALSE NEIGHBOUR: 'it returns false'. Refute it at one input. -/
def fnHex4MatchesDigitTableWrong : ChangeSpec := { name := "fnHex4MatchesDigitTable", fn := fun _ => fun
  | [d] => { results := [.lit (.bool false)], args := [d] }
  | _ => none }
def FnHex4MatchesDigitTableWrongFalsely : Prop := fnHex4MatchesDigitTableRow.holds Try.pinned (OpenSpec.ofChange fnHex4MatchesDigitTableWrong)

/-- 'zzlaws_mask_b1.FnHex4ReadsItsOwnEscape': WHATEVER THE INPUT: true; the input reads as it did. -/
def fnHex4ReadsItsOwnEscapeSpec : ChangeSpec := { name := "fnHex4ReadsItsOwnEscape", fn := fun _ => fun
  | [d1, d2, d3] => { results := [.lit (.bool true)], args := [d1, d2, d3] }
  | _ => none }
def fnHex4ReadsItsOwnEscapeRow : OpenClaim := { program := "qxb6605392a", sum := "bd2ee57210eab0ef83798963525521b2fe2a2c4ebbc2d32654699296cad95b5a", func := "example.com/act2/act2/zzlaws_mask_b1.FnHex4ReadsItsOwnEscape", spec := "fnHex4ReadsItsOwnEscape", apart := false }
def FnHex4ReadsItsOwnEscapeSaid : Prop := fnHex4ReadsItsOwnEscapeRow.holds Try.pinned (OpenSpec.ofChange fnHex4ReadsItsOwnEscapeSpec)

/-- ITS FALSE NEIGHBOUR: 'it returns false'. Refute it at one input. -/
def fnHex4ReadsItsOwnEscapeWrong : ChangeSpec := { name := "fnHex4ReadsItsOwnEscape", fn := fun _ => fun
  | [d1, d2, d3] => { results := [.lit (.bool false)], args := [d1, d2, d3] }
  | _ => none }
def FnHex4ReadsItsOwnEscapeWrongFalsely : Prop := fnHex4ReadsItsOwnEscapeRow.holds Try.pinned (OpenSpec.ofChange fnHex4ReadsItsOwnEscapeWrong)

/-- 'zzlaws_mask_b1.FnYamlKeyMatchesSeparatorSpec': WHATEVER THE INPUT: true; the input reads as it did. -/
def fnYamlKeyMatchesSeparatorSpecSpec : ChangeSpec := { name := "fnYamlKeyMatchesSeparatorSpec", fn := fun _ => fun
  | [d] => { results := [.lit (.bool true)], args := [d] }
  | _ => none }
def fnYamlKeyMatchesSeparatorSpecRow : OpenClaim := { program := "qxb6605392a", sum := "bd2ee57210eab0ef83798963525521b2fe2a2c4ebbc2d32654699296cad95b5a", func := "example.com/act2/act2/zzlaws_mask_b1.FnYamlKeyMatchesSeparatorSpec", spec := "fnYamlKeyMatchesSeparatorSpec", inPlace := ["internal/bytealg.IndexByteString"], apart := false }
def FnYamlKeyMatchesSeparatorSpecSaid : Prop := fnYamlKeyMatchesSeparatorSpecRow.holds Try.pinned (OpenSpec.ofChange fnYamlKeyMatchesSeparatorSpecSpec)

/-- ITS FALSE NEIGHBOUR: 'it returns false'. Refute it at one input. -/
def fnYamlKeyMatchesSeparatorSpecWrong : ChangeSpec := { name := "fnYamlKeyMatchesSeparatorSpec", fn := fun _ => fun
  | [d] => { results := [.lit (.bool false)], args := [d] }
  | _ => none }
def FnYamlKeyMatchesSeparatorSpecWrongFalsely : Prop := fnYamlKeyMatchesSeparatorSpecRow.holds Try.pinned (OpenSpec.ofChange fnYamlKeyMatchesSeparatorSpecWrong)

/-- 'zzlaws_mask_b1.FnYamlKeyQuotedRoundTrip': WHATEVER THE INPUT: true; the input reads as it did. -/
def fnYamlKeyQuotedRoundTripSpec : ChangeSpec := { name := "fnYamlKeyQuotedRoundTrip", fn := fun _ => fun
  | [d1, d2, d3] => { results := [.lit (.bool true)], args := [d1, d2, d3] }
  | _ => none }
def fnYamlKeyQuotedRoundTripRow : OpenClaim := { program := "qxb6605392a", sum := "bd2ee57210eab0ef83798963525521b2fe2a2c4ebbc2d32654699296cad95b5a", func := "example.com/act2/act2/zzlaws_mask_b1.FnYamlKeyQuotedRoundTrip", spec := "fnYamlKeyQuotedRoundTrip", inPlace := ["internal/bytealg.IndexByteString"], apart := false }
def FnYamlKeyQuotedRoundTripSaid : Prop := fnYamlKeyQuotedRoundTripRow.holds Try.pinned (OpenSpec.ofChange fnYamlKeyQuotedRoundTripSpec)

/-- ITS FALSE NEIGHBOUR: 'it returns false'. Refute it at one input. -/
def fnYamlKeyQuotedRoundTripWrong : ChangeSpec := { name := "fnYamlKeyQuotedRoundTrip", fn := fun _ => fun
  | [d1, d2, d3] => { results := [.lit (.bool false)], args := [d1, d2, d3] }
  | _ => none }
def FnYamlKeyQuotedRoundTripWrongFalsely : Prop := fnYamlKeyQuotedRoundTripRow.holds Try.pinned (OpenSpec.ofChange fnYamlKeyQuotedRoundTripWrong)

end Rows
end Go.Proofs.Qxb6605392a
