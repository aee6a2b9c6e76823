/-
  No cell of these rows narrows 'for every input' (looked for: loops, veiled, ifaces, maps, wideKeys, modest, calm, conditions, laid).
  DERIVED. THE GIVEN ROWS OF THIS SEAT. 6 by the template 'for every input the law returns true; each argument reads behind the call as it read before'; 0 by the template 'total and deterministic' (their statements: Qxb6600102aTotals.lean).
  GIVEN WITH THE SEED: the statements are not yours to turn. If you find one false, say at which input.
  Laid BY PROGRAM, IN A SANDBOX (cutbox-rows.mjs): the forced cells as the released guide's own fill.sh prints them over the translation 704865c11ea3cfd6… (all of the seat's roots in one cut). By AI agents, Wed Nov 11 2026. No macro, syntax, notation, axiom, sorry.
-/
import Derived.Test.Qxb6600102aChecked
import GoSem.Claim
import GoSem.ClaimJoined
import GoSem.ClaimMapViews
import Derived.JoinedTies
import Derived.KernelRfl
namespace Go.Proofs.Qxb6600102a
/- THE CELL 'sum', in the pinned program and in every row, IS THE sha256 OF THE DUMP (.gsa) THAT Qxb6600102aProg.lean LOADS. Nothing in Lean hashes anything: it is a label: what it is worth is what the hold of that sum in a sandbox is worth. -/
noncomputable def Try.pinned : Pinned := { name := "qxb6600102a", sum := "704865c11ea3cfd6ae14cd239a2f80b76154ec8f9b76e658f511516a2b116df8", checked := Try.checked }
namespace Rows
def none {H : Type} : Left H := { results := [], args := [] }

/-- 'zzlaws_wire_b1.FnValidNickOneByteSpec': WHATEVER THE INPUT: true; the input reads as it did. -/
def fnValidNickOneByteSpecSpec : ChangeSpec := { name := "fnValidNickOneByteSpec", fn := fun _ => fun
  | [d] => { results := [.lit (.bool true)], args := [d] }
  | _ => none }
def fnValidNickOneByteSpecRow : OpenClaim := { program := "qxb6600102a", sum := "704865c11ea3cfd6ae14cd239a2f80b76154ec8f9b76e658f511516a2b116df8", func := "example.com/tapedeck/tapedeck/zzlaws_wire_b1.FnValidNickOneByteSpec", spec := "fnValidNickOneByteSpec", inPlace := ["internal/bytealg.IndexByteString"], apart := false }
def FnValidNickOneByteSpecSaid : Prop := fnValidNickOneByteSpecRow.holds Try.pinned (OpenSpec.ofChange fnValidNickOneByteSpecSpec)

/-- ITS FALSE NEIGHBOUR: 'it returns false'. Refute it at one input. -/
def fnValidNickOneByteSpecWrong : ChangeSpec := { name := "fnValidNickOneByteSpec", fn := fun _ => fun
  | [d] => { results := [.lit (.bool false)], args := [d] }
  | _ => none }
def FnValidNickOneByteSpecWrongFalsely : Prop := fnValidNickOneByteSpecRow.holds Try.pinned (OpenSpec.ofChange fnValidNickOneByteSpecWrong)

/-- 'zzlaws_wire_b1.FnValidNickConcat': WHATEVER THE INPUT: true; the input reads as it did. -/
def fnValidNickConcatSpec : ChangeSpec := { name := "fnValidNickConcat", fn := fun _ => fun
  | [d1, d2] => { results := [.lit (.bool true)], args := [d1, d2] }
  | _ => none }
def fnValidNickConcatRow : OpenClaim := { program := "qxb6600102a", sum := "704865c11ea3cfd6ae14cd239a2f80b76154ec8f9b76e658f511516a2b116df8", func := "example.com/tapedeck/tapedeck/zzlaws_wire_b1.FnValidNickConcat", spec := "fnValidNickConcat", inPlace := ["internal/bytealg.IndexByteString"], apart := false }
def FnValidNickConcatSaid : Prop := fnValidNickConcatRow.holds Try.pinned (OpenSpec.ofChange fnValidNickConcatSpec)

/-- ITS FALSE NEIGHBOUR: 'it returns false'. Refute it at one input. -/
def fnValidNickConcatWrong : ChangeSpec := { name := "fnValidNickConcat", fn := fun _ => fun
  | [d1, d2] => { results := [.lit (.bool false)], args := [d1, d2] }
  | _ => none }
def FnValidNickConcatWrongFalsely : Prop := fnValidNickConcatRow.holds Try.pinned (OpenSpec.ofChange fnValidNickConcatWrong)

/-- 'zzlaws_wire_b1.FnValidNickIsValidChannel': WHATEVER THE INPUT: true; the input reads as it did. -/
def fnValidNickIsValidChannelSpec : ChangeSpec := { name := "fnValidNickIsValidChannel", fn := fun _ => fun
  | [d] => { results := [.lit (.bool true)], args := [d] }
  | _ => none }
def fnValidNickIsValidChannelRow : OpenClaim := { program := "qxb6600102a", sum := "704865c11ea3cfd6ae14cd239a2f80b76154ec8f9b76e658f511516a2b116df8", func := "example.com/tapedeck/tapedeck/zzlaws_wire_b1.FnValidNickIsValidChannel", spec := "fnValidNickIsValidChannel", inPlace := ["internal/bytealg.IndexByteString"], apart := false }
def FnValidNickIsValidChannelSaid : Prop := fnValidNickIsValidChannelRow.holds Try.pinned (OpenSpec.ofChange fnValidNickIsValidChannelSpec)

/-- ITS FALSE NEIGHBOUR: 'it returns false'. Refute it at one input. -/
def fnValidNickIsValidChannelWrong : ChangeSpec := { name := "fnValidNickIsValidChannel", fn := fun _ => fun
  | [d] => { results := [.lit (.bool false)], args := [d] }
  | _ => none }
def FnValidNickIsValidChannelWrongFalsely : Prop := fnValidNickIsValidChannelRow.holds Try.pinned (OpenSpec.ofChange fnValidNickIsValidChannelWrong)

/-- 'zzlaws_wire_b1.FnValidNickNeverOnAddresses': WHATEVER THE INPUT: true; the input reads as it did. -/
def fnValidNickNeverOnAddressesSpec : ChangeSpec := { name := "fnValidNickNeverOnAddresses", fn := fun _ => fun
  | [d] => { results := [.lit (.bool true)], args := [d] }
  | _ => none }
def fnValidNickNeverOnAddressesRow : OpenClaim := { program := "qxb6600102a", sum := "704865c11ea3cfd6ae14cd239a2f80b76154ec8f9b76e658f511516a2b116df8", func := "example.com/tapedeck/tapedeck/zzlaws_wire_b1.FnValidNickNeverOnAddresses", spec := "fnValidNickNeverOnAddresses", inPlace := ["internal/bytealg.IndexByteString", "internal/bytealg.IndexString"], named := ["internal/bytealg.MaxLen"], apart := false }
def FnValidNickNeverOnAddressesSaid : Prop := fnValidNickNeverOnAddressesRow.holds Try.pinned (OpenSpec.ofChange fnValidNickNeverOnAddressesSpec)

/-- ITS FALSE NEIGHBOUR: 'it returns false'. Refute it at one input. -/
def fnValidNickNeverOnAddressesWrong : ChangeSpec := { name := "fnValidNickNeverOnAddresses", fn := fun _ => fun
  | [d] => { results := [.lit (.bool false)], args := [d] }
  | _ => none }
def FnValidNickNeverOnAddressesWrongFalsely : Prop := fnValidNickNeverOnAddressesRow.holds Try.pinned (OpenSpec.ofChange fnValidNickNeverOnAddressesWrong)

/-- 'zzlaws_wire_b1.FnValidChannelOneByteSpec': WHATEVER THE INPUT: true; the input reads as it did. -/
def fnValidChannelOneByteSpecSpec : ChangeSpec := { name := "fnValidChannelOneByteSpec", fn := fun _ => fun
  | [d] => { results := [.lit (.bool true)], args := [d] }
  | _ => none }
def fnValidChannelOneByteSpecRow : OpenClaim := { program := "qxb6600102a", sum := "704865c11ea3cfd6ae14cd239a2f80b76154ec8f9b76e658f511516a2b116df8", func := "example.com/tapedeck/tapedeck/zzlaws_wire_b1.FnValidChannelOneByteSpec", spec := "fnValidChannelOneByteSpec", apart := false }
def FnValidChannelOneByteSpecSaid : Prop := fnValidChannelOneByteSpecRow.holds Try.pinned (OpenSpec.ofChange fnValidChannelOneByteSpecSpec)

/-- ITS FALSE NEIGHBOUR: 'it returns false'. Refute it at one input. -/
def fnValidChannelOneByteSpecWrong : ChangeSpec := { name := "fnValidChannelOneByteSpec", fn := fun _ => fun
  | [d] => { results := [.lit (.bool false)], args := [d] }
  | _ => none }
def FnValidChannelOneByteSpecWrongFalsely : Prop := fnValidChannelOneByteSpecRow.holds Try.pinned (OpenSpec.ofChange fnValidChannelOneByteSpecWrong)

/-- 'zzlaws_wire_b1.FnValidChannelConcat': WHATEVER THE INPUT: true; the input reads as it did. -/
def fnValidChannelConcatSpec : ChangeSpec := { name := "fnValidChannelConcat", fn := fun _ => fun
  | [d1, d2] => { results := [.lit (.bool true)], args := [d1, d2] }
  | _ => none }
def fnValidChannelConcatRow : OpenClaim := { program := "qxb6600102a", sum := "704865c11ea3cfd6ae14cd239a2f80b76154ec8f9b76e658f511516a2b116df8", func := "example.com/tapedeck/tapedeck/zzlaws_wire_b1.FnValidChannelConcat", spec := "fnValidChannelConcat", apart := false }
def FnValidChannelConcatSaid : Prop := fnValidChannelConcatRow.holds Try.pinned (OpenSpec.ofChange fnValidChannelConcatSpec)

/-- ITS FALSE NEIGHBOUR: 'it returns false'. Refute it at one input. -/
def fnValidChannelConcatWrong : ChangeSpec := { name := "fnValidChannelConcat", fn := fun _ => fun
  | [d1, d2] => { results := [.lit (.bool false)], args := [d1, d2] }
  | _ => none }
def FnValidChannelConcatWrongFalsely : Prop := fnValidChannelConcatRow.holds Try.pinned (OpenSpec.ofChange fnValidChannelConcatWrong)

end Rows
end Go.Proofs.Qxb6600102a
