/-
  No cell of these rows narrows 'for every input' (looked for: loops, veiled, ifaces, maps, wideKeys, modest, calm, conditions, laid).
  DERIVED. THE GIVEN ROWS OF THIS SEAT. 5 by the template 'for every input the law returns true; each argument reads behind the call as it read before'; 0 by the template 'total and deterministic' (their statements: Qxb6000823aTotals.lean).
  GIVEN WITH THE SEED: the statements are not yours to turn. If you find one false, say at which input.
  Laid BY PROGRAM, IN A SANDBOX (cutbox-rows.mjs): the forced cells as the released guide's own fill.sh prints them over the translation 1b76227e0591891a… (all of the seat's roots in one cut). By AI agents, Wed Nov 11 2026. No macro, syntax, notation, axiom, sorry.
-/
import Derived.Test.Qxb6000823aChecked
import GoSem.Claim
import GoSem.ClaimJoined
import GoSem.ClaimMapViews
import Derived.JoinedTies
import Derived.KernelRfl
namespace Go.Proofs.Qxb6000823a
/- THE CELL 'sum', in the pinned program and in every row, IS THE sha256 OF THE DUMP (.gsa) THAT Qxb6000823aProg.lean LOADS. Nothing in Lean hashes anything: it is a label: what it is worth is what the hold of that sum in a sandbox is worth. -/
noncomputable def Try.pinned : Pinned := { name := "qxb6000823a", sum := "1b76227e0591891a0b1efed8c88f4882e619d058b745b30b3617ed02c0487329", checked := Try.checked }
namespace Rows
def none {H : Type} : Left H := { results := [], args := [] }

/-- 'zzlaws_workflow_b1.FnPhaseErrorExactlyForUnknownCodes': WHATEVER THE INPUT: true; the input reads as it did. -/
def fnPhaseErrorExactlyForUnknownCodesSpec : ChangeSpec := { name := "fnPhaseErrorExactlyForUnknownCodes", fn := fun _ => fun
  | [d] => { results := [.lit (.bool true)], args := [d] }
  | _ => none }
def fnPhaseErrorExactlyForUnknownCodesRow : OpenClaim := { program := "qxb6000823a", sum := "1b76227e0591891a0b1efed8c88f4882e619d058b745b30b3617ed02c0487329", func := "example.com/orrery/orrery/zzlaws_workflow_b1.FnPhaseErrorExactlyForUnknownCodes", spec := "fnPhaseErrorExactlyForUnknownCodes", apart := false }
def FnPhaseErrorExactlyForUnknownCodesSaid : Prop := fnPhaseErrorExactlyForUnknownCodesRow.holds Try.pinned (OpenSpec.ofChange fnPhaseErrorExactlyForUnknownCodesSpec)

/-- ITS FALSE NEIGHBOUR: 'it returns false'. Refute it at one input. -/
def fnPhaseErrorExactlyForUnknownCodesWrong : ChangeSpec := { name := "fnPhaseErrorExactlyForUnknownCodes", fn := fun _ => fun
  | [d] => { results := [.lit (.bool false)], args := [d] }
  | _ => none }
def FnPhaseErrorExactlyForUnknownCodesWrongFalsely : Prop := fnPhaseErrorExactlyForUnknownCodesRow.holds Try.pinned (OpenSpec.ofChange fnPhaseErrorExactlyForUnknownCodesWrong)

/-- 'zzlaws_workflow_b1.FnPhaseDistinguishesKnownCodes': WHATEVER THE INPUT: true; the input reads as it did. -/
def fnPhaseDistinguishesKnownCodesSpec : ChangeSpec := { name := "fnPhaseDistinguishesKnownCodes", fn := fun _ => fun
  | [d1, d2] => { results := [.lit (.bool true)], args := [d1, d2] }
  | _ => none }
def fnPhaseDistinguishesKnownCodesRow : OpenClaim := { program := "qxb6000823a", sum := "1b76227e0591891a0b1efed8c88f4882e619d058b745b30b3617ed02c0487329", func := "example.com/orrery/orrery/zzlaws_workflow_b1.FnPhaseDistinguishesKnownCodes", spec := "fnPhaseDistinguishesKnownCodes", apart := false }
def FnPhaseDistinguishesKnownCodesSaid : Prop := fnPhaseDistinguishesKnownCodesRow.holds Try.pinned (OpenSpec.ofChange fnPhaseDistinguishesKnownCodesSpec)

/-- ITS FALSE NEIGHBOUR: 'it returns false'. Refute it at one input. -/
def fnPhaseDistinguishesKnownCodesWrong : ChangeSpec := { name := "fnPhaseDistinguishesKnownCodes", fn := fun _ => fun
  | [d1, d2] => { results := [.lit (.bool false)], args := [d1, d2] }
  | _ => none }
def FnPhaseDistinguishesKnownCodesWrongFalsely : Prop := fnPhaseDistinguishesKnownCodesRow.holds Try.pinned (OpenSpec.ofChange fnPhaseDistinguishesKnownCodesWrong)

/-- 'zzlaws_workflow_b1.FnReadRenderRoundTrip': WHATEVER THE INPUT: true; the input reads as it did. -/
def fnReadRenderRoundTripSpec : ChangeSpec := { name := "fnReadRenderRoundTrip", fn := fun _ => fun
  | [d1, d2, d3] => { results := [.lit (.bool true)], args := [d1, d2, d3] }
  | _ => none }
def fnReadRenderRoundTripRow : OpenClaim := { program := "qxb6000823a", sum := "1b76227e0591891a0b1efed8c88f4882e619d058b745b30b3617ed02c0487329", func := "example.com/orrery/orrery/zzlaws_workflow_b1.FnReadRenderRoundTrip", spec := "fnReadRenderRoundTrip", inPlace := ["internal/bytealg.IndexByteString", "internal/bytealg.IndexString"], named := ["internal/bytealg.MaxLen"], apart := false }
def FnReadRenderRoundTripSaid : Prop := fnReadRenderRoundTripRow.holds Try.pinned (OpenSpec.ofChange fnReadRenderRoundTripSpec)

/-- ITS FALSE NEIGHBOUR: 'it returns false'. Refute it at one input. -/
def fnReadRenderRoundTripWrong : ChangeSpec := { name := "fnReadRenderRoundTrip", fn := fun _ => fun
  | [d1, d2, d3] => { results := [.lit (.bool false)], args := [d1, d2, d3] }
  | _ => none }
def FnReadRenderRoundTripWrongFalsely : Prop := fnReadRenderRoundTripRow.holds Try.pinned (OpenSpec.ofChange fnReadRenderRoundTripWrong)

/-- 'zzlaws_workflow_b1.FnReadAcceptsOnlyRenderings': WHATEVER THE INPUT: true; the input reads as it did. -/
def fnReadAcceptsOnlyRenderingsSpec : ChangeSpec := { name := "fnReadAcceptsOnlyRenderings", fn := fun _ => fun
  | [d1, d2] => { results := [.lit (.bool true)], args := [d1, d2] }
  | _ => none }
def fnReadAcceptsOnlyRenderingsRow : OpenClaim := { program := "qxb6000823a", sum := "1b76227e0591891a0b1efed8c88f4882e619d058b745b30b3617ed02c0487329", func := "example.com/orrery/orrery/zzlaws_workflow_b1.FnReadAcceptsOnlyRenderings", spec := "fnReadAcceptsOnlyRenderings", inPlace := ["internal/bytealg.IndexByteString", "internal/bytealg.IndexString"], named := ["internal/bytealg.MaxLen"], apart := false }
def FnReadAcceptsOnlyRenderingsSaid : Prop := fnReadAcceptsOnlyRenderingsRow.holds Try.pinned (OpenSpec.ofChange fnReadAcceptsOnlyRenderingsSpec)

/-- ITS FALSE NEIGHBOUR: 'it returns false'. Refute it at one input. -/
def fnReadAcceptsOnlyRenderingsWrong : ChangeSpec := { name := "fnReadAcceptsOnlyRenderings", fn := fun _ => fun
  | [d1, d2] => { results := [.lit (.bool false)], args := [d1, d2] }
  | _ => none }
def FnReadAcceptsOnlyRenderingsWrongFalsely : Prop := fnReadAcceptsOnlyRenderingsRow.holds Try.pinned (OpenSpec.ofChange fnReadAcceptsOnlyRenderingsWrong)

/-- 'zzlaws_workflow_b1.FnReadAliasAgrees': WHATEVER THE INPUT: true; the input reads as it did. -/
def fnReadAliasAgreesSpec : ChangeSpec := { name := "fnReadAliasAgrees", fn := fun _ => fun
  | [d1, d2] => { results := [.lit (.bool true)], args := [d1, d2] }
  | _ => none }
def fnReadAliasAgreesRow : OpenClaim := { program := "qxb6000823a", sum := "1b76227e0591891a0b1efed8c88f4882e619d058b745b30b3617ed02c0487329", func := "example.com/orrery/orrery/zzlaws_workflow_b1.FnReadAliasAgrees", spec := "fnReadAliasAgrees", inPlace := ["internal/bytealg.IndexByteString", "internal/bytealg.IndexString"], named := ["internal/bytealg.MaxLen"], apart := false }
def FnReadAliasAgreesSaid : Prop := fnReadAliasAgreesRow.holds Try.pinned (OpenSpec.ofChange fnReadAliasAgreesSpec)

/-- ITS FALSE NEIGHBOUR: 'it returns false'. Refute it at one input. -/
def fnReadAliasAgreesWrong : ChangeSpec := { name := "fnReadAliasAgrees", fn := fun _ => fun
  | [d1, d2] => { results := [.lit (.bool false)], args := [d1, d2] }
  | _ => none }
def FnReadAliasAgreesWrongFalsely : Prop := fnReadAliasAgreesRow.holds Try.pinned (OpenSpec.ofChange fnReadAliasAgreesWrong)

end Rows
end Go.Proofs.Qxb6000823a
