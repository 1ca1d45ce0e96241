/-
  No cell of these rows narrows 'for every input' (looked for: loops, veiled, ifaces, maps, wideKeys, modest, calm, conditions, laid).
  DERIVED. THE GIVEN ROWS OF THIS SEAT. 2 by the template 'for every input the law returns true; each argument reads behind the call as it read before'; 0 by the template 'total and deterministic' (their statements: Qxb6614029aTotals.lean).
  GIVEN WITH THE SEED: the statements are not yours to turn. If you find one false, say at which input.
  Laid BY PROGRAM, IN A SANDBOX (cutbox-rows.mjs): the forced cells as the released guide's own fill.sh prints them over the translation 5ecc3e45b52bc745… (all of the seat's roots in one cut). By AI agents, Wed Nov 11 2026. No macro, syntax, notation, axiom, sorry.
-/
import Derived.Test.Qxb6614029aChecked
import GoSem.Claim
import GoSem.ClaimJoined
import GoSem.ClaimMapViews
import Derived.JoinedTies
import Derived.KernelRfl
namespace Go.Proofs.Qxb6614029a
/- THE CELL 'sum', in the pinned program and in every row, IS THE sha256 OF THE DUMP (.gsa) THAT Qxb6614029aProg.lean LOADS. Nothing in Lean hashes anything: it is a label: what it is worth is what the hold of that sum in a sandbox is worth. -/
noncomputable def Try.pinned : Pinned := { name := "qxb6614029a", sum := "5ecc3e45b52bc745a0f4d73693047733db1bd5d4afcfb8824ef5418237d132f1", checked := Try.checked }
namespace Rows
def none {H : Type} : Left H := { results := [], args := [] }

/-- 'zzlaws_dnssec_b1.FnRRSIGEncodeIsHeaderSignerThenAnyCutOfSignature': WHATEVER THE INPUT: true; the input reads as it did. -/
def fnRRSIGEncodeIsHeaderSignerThenAnyCutOfSignatureSpec : ChangeSpec := { name := "fnRRSIGEncodeIsHeaderSignerThenAnyCutOfSignature", fn := fun _ => fun
  | [d1, d2, d3, d4, d5, d6, d7, d8, d9, d10] => { results := [.lit (.bool true)], args := [d1, d2, d3, d4, d5, d6, d7, d8, d9, d10] }
  | _ => none }
def fnRRSIGEncodeIsHeaderSignerThenAnyCutOfSignatureRow : OpenClaim := { program := "qxb6614029a", sum := "5ecc3e45b52bc745a0f4d73693047733db1bd5d4afcfb8824ef5418237d132f1", func := "example.com/zonewright/zonewright/zzlaws_dnssec_b1.FnRRSIGEncodeIsHeaderSignerThenAnyCutOfSignature", spec := "fnRRSIGEncodeIsHeaderSignerThenAnyCutOfSignature", named := ["encoding/binary.BigEndian"], apart := false }
def FnRRSIGEncodeIsHeaderSignerThenAnyCutOfSignatureSaid : Prop := fnRRSIGEncodeIsHeaderSignerThenAnyCutOfSignatureRow.holds Try.pinned (OpenSpec.ofChange fnRRSIGEncodeIsHeaderSignerThenAnyCutOfSignatureSpec)

/-- ITS FALSE NEIGHBOUR: 'it returns false'. Refute it at one input. -/
def fnRRSIGEncodeIsHeaderSignerThenAnyCutOfSignatureWrong : ChangeSpec := { name := "fnRRSIGEncodeIsHeaderSignerThenAnyCutOfSignature", fn := fun _ => fun
  | [d1, d2, d3, d4, d5, d6, d7, d8, d9, d10] => { results := [.lit (.bool false)], args := [d1, d2, d3, d4, d5, d6, d7, d8, d9, d10] }
  | _ => none }
def FnRRSIGEncodeIsHeaderSignerThenAnyCutOfSignatureWrongFalsely : Prop := fnRRSIGEncodeIsHeaderSignerThenAnyCutOfSignatureRow.holds Try.pinned (OpenSpec.ofChange fnRRSIGEncodeIsHeaderSignerThenAnyCutOfSignatureWrong)

/-- 'zzlaws_dnssec_b1.FnRRSIGEncodeTellsSignersAndSignaturesApart': WHATEVER THE INPUT: true; the input reads as it did. -/
def fnRRSIGEncodeTellsSignersAndSignaturesApartSpec : ChangeSpec := { name := "fnRRSIGEncodeTellsSignersAndSignaturesApart", fn := fun _ => fun
  | [d1, d2, d3, d4, d5, d6, d7, d8, d9, d10, d11] => { results := [.lit (.bool true)], args := [d1, d2, d3, d4, d5, d6, d7, d8, d9, d10, d11] }
  | _ => none }
def fnRRSIGEncodeTellsSignersAndSignaturesApartRow : OpenClaim := { program := "qxb6614029a", sum := "5ecc3e45b52bc745a0f4d73693047733db1bd5d4afcfb8824ef5418237d132f1", func := "example.com/zonewright/zonewright/zzlaws_dnssec_b1.FnRRSIGEncodeTellsSignersAndSignaturesApart", spec := "fnRRSIGEncodeTellsSignersAndSignaturesApart", named := ["encoding/binary.BigEndian"], apart := false }
def FnRRSIGEncodeTellsSignersAndSignaturesApartSaid : Prop := fnRRSIGEncodeTellsSignersAndSignaturesApartRow.holds Try.pinned (OpenSpec.ofChange fnRRSIGEncodeTellsSignersAndSignaturesApartSpec)

/-- ITS FALSE NEIGHBOUR: 'it returns false'. Refute it at one input. -/
def fnRRSIGEncodeTellsSignersAndSignaturesApartWrong : ChangeSpec := { name := "fnRRSIGEncodeTellsSignersAndSignaturesApart", fn := fun _ => fun
  | [d1, d2, d3, d4, d5, d6, d7, d8, d9, d10, d11] => { results := [.lit (.bool false)], args := [d1, d2, d3, d4, d5, d6, d7, d8, d9, d10, d11] }
  | _ => none }
def FnRRSIGEncodeTellsSignersAndSignaturesApartWrongFalsely : Prop := fnRRSIGEncodeTellsSignersAndSignaturesApartRow.holds Try.pinned (OpenSpec.ofChange fnRRSIGEncodeTellsSignersAndSignaturesApartWrong)

end Rows
end Go.Proofs.Qxb6614029a
