/-
  No cell of these rows narrows 'for every input' (looked for: loops, veiled, ifaces, maps, wideKeys, modest, calm, conditions, laid).
  DERIVED. THE GIVEN ROWS OF THIS SEAT. 5 by the template 'for every input the law returns true; each argument reads behind the call as it read before'; 0 by the template 'total and deterministic' (their statements: Qxb6003368aTotals.lean).
  GIVEN WITH THE SEED: the statements are not yours to turn. If you find one false, say at which input.
  Laid BY PROGRAM, IN A SANDBOX (cutbox-rows.mjs): the forced cells as the released guide's own fill.sh prints them over the translation 4c92a24adc0f4822… (all of the seat's roots in one cut). By AI agents, Wed Nov 11 2026. No macro, syntax, notation, axiom, sorry.
-/
import Derived.Test.Qxb6003368aChecked
import GoSem.Claim
import GoSem.ClaimJoined
import GoSem.ClaimMapViews
import Derived.JoinedTies
import Derived.KernelRfl
namespace Go.Proofs.Qxb6003368a
/- THE CELL 'sum', in the pinned program and in every row, IS THE sha256 OF THE DUMP (.gsa) THAT Qxb6003368aProg.lean LOADS. Nothing in Lean hashes anything: it is a label: what it is worth is what the hold of that sum in a sandbox is worth. -/
noncomputable def Try.pinned : Pinned := { name := "qxb6003368a", sum := "4c92a24adc0f482295034518137a3829f9341162c1fa4412f5806f828d6dd52d", checked := Try.checked }
namespace Rows
def none {H : Type} : Left H := { results := [], args := [] }

/-- 'zzlaws_root_g1.FnParseExponentSaturates': WHATEVER THE INPUT: true; the input reads as it did. -/
def fnParseExponentSaturatesSpec : ChangeSpec := { name := "fnParseExponentSaturates", fn := fun _ => fun
  | [d1, d2, d3, d4, d5] => { results := [.lit (.bool true)], args := [d1, d2, d3, d4, d5] }
  | _ => none }
def fnParseExponentSaturatesRow : OpenClaim := { program := "qxb6003368a", sum := "4c92a24adc0f482295034518137a3829f9341162c1fa4412f5806f828d6dd52d", func := "example.com/fieldsieve/fieldsieve/zzlaws_root_g1.FnParseExponentSaturates", spec := "fnParseExponentSaturates", apart := false }
def FnParseExponentSaturatesSaid : Prop := fnParseExponentSaturatesRow.holds Try.pinned (OpenSpec.ofChange fnParseExponentSaturatesSpec)

/-- ITS FALSE NEIGHBOUR: 'it returns false'. Refute it at one input. -/
def fnParseExponentSaturatesWrong : ChangeSpec := { name := "fnParseExponentSaturates", fn := fun _ => fun
  | [d1, d2, d3, d4, d5] => { results := [.lit (.bool false)], args := [d1, d2, d3, d4, d5] }
  | _ => none }
def FnParseExponentSaturatesWrongFalsely : Prop := fnParseExponentSaturatesRow.holds Try.pinned (OpenSpec.ofChange fnParseExponentSaturatesWrong)

/-- 'zzlaws_root_g1.FnOtherSpellingRoundTrips': WHATEVER THE INPUT: true; the input reads as it did. -/
def fnOtherSpellingRoundTripsSpec : ChangeSpec := { name := "fnOtherSpellingRoundTrips", fn := fun _ => fun
  | [d1, d2] => { results := [.lit (.bool true)], args := [d1, d2] }
  | _ => none }
def fnOtherSpellingRoundTripsRow : OpenClaim := { program := "qxb6003368a", sum := "4c92a24adc0f482295034518137a3829f9341162c1fa4412f5806f828d6dd52d", func := "example.com/fieldsieve/fieldsieve/zzlaws_root_g1.FnOtherSpellingRoundTrips", spec := "fnOtherSpellingRoundTrips", inPlace := ["internal/bytealg.IndexByteString", "internal/bytealg.IndexString"], named := ["internal/bytealg.MaxLen"], apart := false }
def FnOtherSpellingRoundTripsSaid : Prop := fnOtherSpellingRoundTripsRow.holds Try.pinned (OpenSpec.ofChange fnOtherSpellingRoundTripsSpec)

/-- ITS FALSE NEIGHBOUR: 'it returns false'. Refute it at one input. -/
def fnOtherSpellingRoundTripsWrong : ChangeSpec := { name := "fnOtherSpellingRoundTrips", fn := fun _ => fun
  | [d1, d2] => { results := [.lit (.bool false)], args := [d1, d2] }
  | _ => none }
def FnOtherSpellingRoundTripsWrongFalsely : Prop := fnOtherSpellingRoundTripsRow.holds Try.pinned (OpenSpec.ofChange fnOtherSpellingRoundTripsWrong)

/-- 'zzlaws_root_g1.FnWildcardAgreesWithSearch': WHATEVER THE INPUT: true; the input reads as it did. -/
def fnWildcardAgreesWithSearchSpec : ChangeSpec := { name := "fnWildcardAgreesWithSearch", fn := fun _ => fun
  | [d1, d2] => { results := [.lit (.bool true)], args := [d1, d2] }
  | _ => none }
def fnWildcardAgreesWithSearchRow : OpenClaim := { program := "qxb6003368a", sum := "4c92a24adc0f482295034518137a3829f9341162c1fa4412f5806f828d6dd52d", func := "example.com/fieldsieve/fieldsieve/zzlaws_root_g1.FnWildcardAgreesWithSearch", spec := "fnWildcardAgreesWithSearch", inPlace := ["internal/bytealg.IndexByteString", "internal/bytealg.IndexString"], recurses := true, named := ["internal/bytealg.MaxLen"], apart := false }
def FnWildcardAgreesWithSearchSaid : Prop := fnWildcardAgreesWithSearchRow.holds Try.pinned (OpenSpec.ofChange fnWildcardAgreesWithSearchSpec)

/-- ITS FALSE NEIGHBOUR: 'it returns false'. Refute it at one input. -/
def fnWildcardAgreesWithSearchWrong : ChangeSpec := { name := "fnWildcardAgreesWithSearch", fn := fun _ => fun
  | [d1, d2] => { results := [.lit (.bool false)], args := [d1, d2] }
  | _ => none }
def FnWildcardAgreesWithSearchWrongFalsely : Prop := fnWildcardAgreesWithSearchRow.holds Try.pinned (OpenSpec.ofChange fnWildcardAgreesWithSearchWrong)

/-- 'zzlaws_root_g1.FnParseOffsetRoundTrip': WHATEVER THE INPUT: true; the input reads as it did. -/
def fnParseOffsetRoundTripSpec : ChangeSpec := { name := "fnParseOffsetRoundTrip", fn := fun _ => fun
  | [d1, d2, d3] => { results := [.lit (.bool true)], args := [d1, d2, d3] }
  | _ => none }
def fnParseOffsetRoundTripRow : OpenClaim := { program := "qxb6003368a", sum := "4c92a24adc0f482295034518137a3829f9341162c1fa4412f5806f828d6dd52d", func := "example.com/fieldsieve/fieldsieve/zzlaws_root_g1.FnParseOffsetRoundTrip", spec := "fnParseOffsetRoundTrip", apart := false }
def FnParseOffsetRoundTripSaid : Prop := fnParseOffsetRoundTripRow.holds Try.pinned (OpenSpec.ofChange fnParseOffsetRoundTripSpec)

/-- ITS FALSE NEIGHBOUR: 'it returns false'. Refute it at one input. -/
def fnParseOffsetRoundTripWrong : ChangeSpec := { name := "fnParseOffsetRoundTrip", fn := fun _ => fun
  | [d1, d2, d3] => { results := [.lit (.bool false)], args := [d1, d2, d3] }
  | _ => none }
def FnParseOffsetRoundTripWrongFalsely : Prop := fnParseOffsetRoundTripRow.holds Try.pinned (OpenSpec.ofChange fnParseOffsetRoundTripWrong)

/-- 'zzlaws_root_g1.FnParseOffsetAcceptsOnlyCanonical': WHATEVER THE INPUT: true; the input reads as it did. -/
def fnParseOffsetAcceptsOnlyCanonicalSpec : ChangeSpec := { name := "fnParseOffsetAcceptsOnlyCanonical", fn := fun _ => fun
  | [d] => { results := [.lit (.bool true)], args := [d] }
  | _ => none }
def fnParseOffsetAcceptsOnlyCanonicalRow : OpenClaim := { program := "qxb6003368a", sum := "4c92a24adc0f482295034518137a3829f9341162c1fa4412f5806f828d6dd52d", func := "example.com/fieldsieve/fieldsieve/zzlaws_root_g1.FnParseOffsetAcceptsOnlyCanonical", spec := "fnParseOffsetAcceptsOnlyCanonical", apart := false }
def FnParseOffsetAcceptsOnlyCanonicalSaid : Prop := fnParseOffsetAcceptsOnlyCanonicalRow.holds Try.pinned (OpenSpec.ofChange fnParseOffsetAcceptsOnlyCanonicalSpec)

/-- ITS FALSE NEIGHBOUR: 'it returns false'. Refute it at one input. -/
def fnParseOffsetAcceptsOnlyCanonicalWrong : ChangeSpec := { name := "fnParseOffsetAcceptsOnlyCanonical", fn := fun _ => fun
  | [d] => { results := [.lit (.bool false)], args := [d] }
  | _ => none }
def FnParseOffsetAcceptsOnlyCanonicalWrongFalsely : Prop := fnParseOffsetAcceptsOnlyCanonicalRow.holds Try.pinned (OpenSpec.ofChange fnParseOffsetAcceptsOnlyCanonicalWrong)

end Rows
end Go.Proofs.Qxb6003368a
