/-
  No cell of these rows narrows 'for every input' (looked for: loops, veiled, ifaces, maps, wideKeys, modest, calm, conditions, laid).
  DERIVED. THE GIVEN ROWS OF THIS SEAT. 5 by the template 'for every input the law returns true; each argument reads behind the call as it read before'; 0 by the template 'total and deterministic' (their statements: Qxb6001245aTotals.lean).
  GIVEN WITH THE SEED: the statements are not yours to turn. If you find one false, say at which input.
  Laid BY PROGRAM, IN A SANDBOX (cutbox-rows.mjs): the forced cells as the released guide's own fill.sh prints them over the translation 0cdcb16e180ff247… (all of the seat's roots in one cut). By AI agents, Wed Nov 11 2026. No macro, syntax, notation, axiom, sorry.
-/
import Derived.Test.Qxb6001245aChecked
import GoSem.Claim
import GoSem.ClaimJoined
import GoSem.ClaimMapViews
import Derived.JoinedTies
import Derived.KernelRfl
namespace Go.Proofs.Qxb6001245a
/- THE CELL 'sum', in the pinned program and in every row, IS THE sha256 OF THE DUMP (.gsa) THAT Qxb6001245aProg.lean LOADS. Nothing in Lean hashes anything: it is a label: what it is worth is what the hold of that sum in a sandbox is worth. -/
noncomputable def Try.pinned : Pinned := { name := "qxb6001245a", sum := "0cdcb16e180ff2478f33368288e4868e4afd8e0b0b4ff3ab8673b26a2d7f29b0", checked := Try.checked }
namespace Rows
def none {H : Type} : Left H := { results := [], args := [] }

/-- 'zzlaws_internal_history_b1.FnLeadingIntegerReadsBackDecimal': WHATEVER THE INPUT: true; the input reads as it did. -/
def fnLeadingIntegerReadsBackDecimalSpec : ChangeSpec := { name := "fnLeadingIntegerReadsBackDecimal", fn := fun _ => fun
  | [d1, d2, d3] => { results := [.lit (.bool true)], args := [d1, d2, d3] }
  | _ => none }
def fnLeadingIntegerReadsBackDecimalRow : OpenClaim := { program := "qxb6001245a", sum := "0cdcb16e180ff2478f33368288e4868e4afd8e0b0b4ff3ab8673b26a2d7f29b0", func := "example.com/sightlock/sightlock/zzlaws_internal_history_b1.FnLeadingIntegerReadsBackDecimal", spec := "fnLeadingIntegerReadsBackDecimal", apart := false }
def FnLeadingIntegerReadsBackDecimalSaid : Prop := fnLeadingIntegerReadsBackDecimalRow.holds Try.pinned (OpenSpec.ofChange fnLeadingIntegerReadsBackDecimalSpec)

/-- ITS FALSE NEIGHBOUR: 'it returns false'. Refute it at one input. -/
def fnLeadingIntegerReadsBackDecimalWrong : ChangeSpec := { name := "fnLeadingIntegerReadsBackDecimal", fn := fun _ => fun
  | [d1, d2, d3] => { results := [.lit (.bool false)], args := [d1, d2, d3] }
  | _ => none }
def FnLeadingIntegerReadsBackDecimalWrongFalsely : Prop := fnLeadingIntegerReadsBackDecimalRow.holds Try.pinned (OpenSpec.ofChange fnLeadingIntegerReadsBackDecimalWrong)

/-- 'zzlaws_internal_history_b1.FnLeadingIntegerAcceptsOnlyCanonicalTokens': WHATEVER THE INPUT: true; the input reads as it did. -/
def fnLeadingIntegerAcceptsOnlyCanonicalTokensSpec : ChangeSpec := { name := "fnLeadingIntegerAcceptsOnlyCanonicalTokens", fn := fun _ => fun
  | [d1, d2] => { results := [.lit (.bool true)], args := [d1, d2] }
  | _ => none }
def fnLeadingIntegerAcceptsOnlyCanonicalTokensRow : OpenClaim := { program := "qxb6001245a", sum := "0cdcb16e180ff2478f33368288e4868e4afd8e0b0b4ff3ab8673b26a2d7f29b0", func := "example.com/sightlock/sightlock/zzlaws_internal_history_b1.FnLeadingIntegerAcceptsOnlyCanonicalTokens", spec := "fnLeadingIntegerAcceptsOnlyCanonicalTokens", apart := false }
def FnLeadingIntegerAcceptsOnlyCanonicalTokensSaid : Prop := fnLeadingIntegerAcceptsOnlyCanonicalTokensRow.holds Try.pinned (OpenSpec.ofChange fnLeadingIntegerAcceptsOnlyCanonicalTokensSpec)

/-- ITS FALSE NEIGHBOUR: 'it returns false'. Refute it at one input. -/
def fnLeadingIntegerAcceptsOnlyCanonicalTokensWrong : ChangeSpec := { name := "fnLeadingIntegerAcceptsOnlyCanonicalTokens", fn := fun _ => fun
  | [d1, d2] => { results := [.lit (.bool false)], args := [d1, d2] }
  | _ => none }
def FnLeadingIntegerAcceptsOnlyCanonicalTokensWrongFalsely : Prop := fnLeadingIntegerAcceptsOnlyCanonicalTokensRow.holds Try.pinned (OpenSpec.ofChange fnLeadingIntegerAcceptsOnlyCanonicalTokensWrong)

/-- 'zzlaws_internal_history_b1.FnLeadingIntegerSeesOnlyItsToken': WHATEVER THE INPUT: true; the input reads as it did. -/
def fnLeadingIntegerSeesOnlyItsTokenSpec : ChangeSpec := { name := "fnLeadingIntegerSeesOnlyItsToken", fn := fun _ => fun
  | [d1, d2, d3] => { results := [.lit (.bool true)], args := [d1, d2, d3] }
  | _ => none }
def fnLeadingIntegerSeesOnlyItsTokenRow : OpenClaim := { program := "qxb6001245a", sum := "0cdcb16e180ff2478f33368288e4868e4afd8e0b0b4ff3ab8673b26a2d7f29b0", func := "example.com/sightlock/sightlock/zzlaws_internal_history_b1.FnLeadingIntegerSeesOnlyItsToken", spec := "fnLeadingIntegerSeesOnlyItsToken", apart := false }
def FnLeadingIntegerSeesOnlyItsTokenSaid : Prop := fnLeadingIntegerSeesOnlyItsTokenRow.holds Try.pinned (OpenSpec.ofChange fnLeadingIntegerSeesOnlyItsTokenSpec)

/-- ITS FALSE NEIGHBOUR: 'it returns false'. Refute it at one input. -/
def fnLeadingIntegerSeesOnlyItsTokenWrong : ChangeSpec := { name := "fnLeadingIntegerSeesOnlyItsToken", fn := fun _ => fun
  | [d1, d2, d3] => { results := [.lit (.bool false)], args := [d1, d2, d3] }
  | _ => none }
def FnLeadingIntegerSeesOnlyItsTokenWrongFalsely : Prop := fnLeadingIntegerSeesOnlyItsTokenRow.holds Try.pinned (OpenSpec.ofChange fnLeadingIntegerSeesOnlyItsTokenWrong)

/-- 'zzlaws_internal_history_b1.FnLeadingIntegersReadsBackRenderedList': WHATEVER THE INPUT: true; the input reads as it did. -/
def fnLeadingIntegersReadsBackRenderedListSpec : ChangeSpec := { name := "fnLeadingIntegersReadsBackRenderedList", fn := fun _ => fun
  | [d1, d2, d3, d4] => { results := [.lit (.bool true)], args := [d1, d2, d3, d4] }
  | _ => none }
def fnLeadingIntegersReadsBackRenderedListRow : OpenClaim := { program := "qxb6001245a", sum := "0cdcb16e180ff2478f33368288e4868e4afd8e0b0b4ff3ab8673b26a2d7f29b0", func := "example.com/sightlock/sightlock/zzlaws_internal_history_b1.FnLeadingIntegersReadsBackRenderedList", spec := "fnLeadingIntegersReadsBackRenderedList", inPlace := ["internal/bytealg.IndexByte", "internal/bytealg.Count", "internal/bytealg.Index"], named := ["internal/bytealg.MaxLen"], apart := false }
def FnLeadingIntegersReadsBackRenderedListSaid : Prop := fnLeadingIntegersReadsBackRenderedListRow.holds Try.pinned (OpenSpec.ofChange fnLeadingIntegersReadsBackRenderedListSpec)

/-- ITS FALSE NEIGHBOUR: 'it returns false'. Refute it at one input. -/
def fnLeadingIntegersReadsBackRenderedListWrong : ChangeSpec := { name := "fnLeadingIntegersReadsBackRenderedList", fn := fun _ => fun
  | [d1, d2, d3, d4] => { results := [.lit (.bool false)], args := [d1, d2, d3, d4] }
  | _ => none }
def FnLeadingIntegersReadsBackRenderedListWrongFalsely : Prop := fnLeadingIntegersReadsBackRenderedListRow.holds Try.pinned (OpenSpec.ofChange fnLeadingIntegersReadsBackRenderedListWrong)

/-- 'zzlaws_internal_history_b1.FnLeadingIntegersCutAgrees': WHATEVER THE INPUT: true; the input reads as it did. -/
def fnLeadingIntegersCutAgreesSpec : ChangeSpec := { name := "fnLeadingIntegersCutAgrees", fn := fun _ => fun
  | [d1, d2, d3] => { results := [.lit (.bool true)], args := [d1, d2, d3] }
  | _ => none }
def fnLeadingIntegersCutAgreesRow : OpenClaim := { program := "qxb6001245a", sum := "0cdcb16e180ff2478f33368288e4868e4afd8e0b0b4ff3ab8673b26a2d7f29b0", func := "example.com/sightlock/sightlock/zzlaws_internal_history_b1.FnLeadingIntegersCutAgrees", spec := "fnLeadingIntegersCutAgrees", inPlace := ["internal/bytealg.IndexByte", "internal/bytealg.Count", "internal/bytealg.Index"], named := ["internal/bytealg.MaxLen"], apart := false }
def FnLeadingIntegersCutAgreesSaid : Prop := fnLeadingIntegersCutAgreesRow.holds Try.pinned (OpenSpec.ofChange fnLeadingIntegersCutAgreesSpec)

/-- ITS FALSE NEIGHBOUR: 'it returns false'. Refute it at one input. -/
def fnLeadingIntegersCutAgreesWrong : ChangeSpec := { name := "fnLeadingIntegersCutAgrees", fn := fun _ => fun
  | [d1, d2, d3] => { results := [.lit (.bool false)], args := [d1, d2, d3] }
  | _ => none }
def FnLeadingIntegersCutAgreesWrongFalsely : Prop := fnLeadingIntegersCutAgreesRow.holds Try.pinned (OpenSpec.ofChange fnLeadingIntegersCutAgreesWrong)

end Rows
end Go.Proofs.Qxb6001245a
