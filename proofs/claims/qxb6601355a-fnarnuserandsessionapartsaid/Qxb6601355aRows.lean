/-
  No cell of these rows narrows 'for every input' (looked for: loops, veiled, ifaces, maps, wideKeys, modest, calm, conditions, laid).
  DERIVED. THE GIVEN ROWS OF THIS SEAT. 2 by the template 'for every input the law returns true; each argument reads behind the call as it read before'; 0 by the template 'total and deterministic' (their statements: Qxb6601355aTotals.lean).
  GIVEN WITH THE SEED: the statements are not yours to turn. If you find one false, say at which input.
  Laid BY PROGRAM, IN A SANDBOX (cutbox-rows.mjs): the forced cells as the released guide's own fill.sh prints them over the translation b52cc2047a3d8bcd… (all of the seat's roots in one cut). By AI agents, Wed Nov 11 2026. No macro, syntax, notation, axiom, sorry.
-/
import Derived.Test.Qxb6601355aChecked
import GoSem.Claim
import GoSem.ClaimJoined
import GoSem.ClaimMapViews
import Derived.JoinedTies
import Derived.KernelRfl
namespace Go.Proofs.Qxb6601355a
/- THE CELL 'sum', in the pinned program and in every row, IS THE sha256 OF THE DUMP (.gsa) THAT Qxb6601355aProg.lean LOADS. Nothing in Lean hashes anything: it is a label: what it is worth is what the hold of that sum in a sandbox is worth. -/
noncomputable def Try.pinned : Pinned := { name := "qxb6601355a", sum := "b52cc2047a3d8bcd84bf9ae5ebb87f55ebf5d2f6addb5651ebddbebf544e16df", checked := Try.checked }
namespace Rows
def none {H : Type} : Left H := { results := [], args := [] }

/-- 'zzlaws_internal_aws_awstest_b1.FnArnRecoversSessionName': WHATEVER THE INPUT: true; the input reads as it did. -/
def fnArnRecoversSessionNameSpec : ChangeSpec := { name := "fnArnRecoversSessionName", fn := fun _ => fun
  | [d1, d2] => { results := [.lit (.bool true)], args := [d1, d2] }
  | _ => none }
def fnArnRecoversSessionNameRow : OpenClaim := { program := "qxb6601355a", sum := "b52cc2047a3d8bcd84bf9ae5ebb87f55ebf5d2f6addb5651ebddbebf544e16df", func := "example.com/runnerpool/runnerpool/zzlaws_internal_aws_awstest_b1.FnArnRecoversSessionName", spec := "fnArnRecoversSessionName", inPlace := ["internal/bytealg.IndexByteString", "internal/bytealg.IndexString"], named := ["internal/bytealg.MaxLen"], apart := false }
def FnArnRecoversSessionNameSaid : Prop := fnArnRecoversSessionNameRow.holds Try.pinned (OpenSpec.ofChange fnArnRecoversSessionNameSpec)

/-- ITS FALSE NEIGHBOUR: 'it returns false'. Refute it at one input. -/
def fnArnRecoversSessionNameWrong : ChangeSpec := { name := "fnArnRecoversSessionName", fn := fun _ => fun
  | [d1, d2] => { results := [.lit (.bool false)], args := [d1, d2] }
  | _ => none }
def FnArnRecoversSessionNameWrongFalsely : Prop := fnArnRecoversSessionNameRow.holds Try.pinned (OpenSpec.ofChange fnArnRecoversSessionNameWrong)

/-- 'zzlaws_internal_aws_awstest_b1.FnArnUserAndSessionApart': WHATEVER THE INPUT: true; the input reads as it did. -/
def fnArnUserAndSessionApartSpec : ChangeSpec := { name := "fnArnUserAndSessionApart", fn := fun _ => fun
  | [d1, d2] => { results := [.lit (.bool true)], args := [d1, d2] }
  | _ => none }
def fnArnUserAndSessionApartRow : OpenClaim := { program := "qxb6601355a", sum := "b52cc2047a3d8bcd84bf9ae5ebb87f55ebf5d2f6addb5651ebddbebf544e16df", func := "example.com/runnerpool/runnerpool/zzlaws_internal_aws_awstest_b1.FnArnUserAndSessionApart", spec := "fnArnUserAndSessionApart", inPlace := ["internal/bytealg.IndexByteString", "internal/bytealg.IndexString"], named := ["internal/bytealg.MaxLen"], apart := false }
def FnArnUserAndSessionApartSaid : Prop := fnArnUserAndSessionApartRow.holds Try.pinned (OpenSpec.ofChange fnArnUserAndSessionApartSpec)

/-- ITS FALSE NEIGHBOUR: 'it returns false'. Refute it at one input. -/
def fnArnUserAndSessionApartWrong : ChangeSpec := { name := "fnArnUserAndSessionApart", fn := fun _ => fun
  | [d1, d2] => { results := [.lit (.bool false)], args := [d1, d2] }
  | _ => none }
def FnArnUserAndSessionApartWrongFalsely : Prop := fnArnUserAndSessionApartRow.holds Try.pinned (OpenSpec.ofChange fnArnUserAndSessionApartWrong)

end Rows
end Go.Proofs.Qxb6601355a
