/-
  No cell of these rows narrows 'for every input' (looked for: loops, veiled, ifaces, maps, wideKeys, modest, calm, conditions, laid).
  DERIVED. THE GIVEN ROWS OF THIS SEAT. 1 by the template 'for every input the law returns true; each argument reads behind the call as it read before'; 0 by the template 'total and deterministic' (their statements: Qxb6614050aTotals.lean).
  GIVEN WITH THE SEED: the statements are not yours to turn. If you find one false, say at which input.
  Laid BY PROGRAM, IN A SANDBOX (cutbox-rows.mjs): the forced cells as the released guide's own fill.sh prints them over the translation 41db65ef2fa62fc2… (all of the seat's roots in one cut). By AI agents, Wed Nov 11 2026. No macro, syntax, notation, axiom, sorry.
-/
import Derived.Test.Qxb6614050aChecked
import GoSem.Claim
import GoSem.ClaimJoined
import GoSem.ClaimMapViews
import Derived.JoinedTies
import Derived.KernelRfl
namespace Go.Proofs.Qxb6614050a
/- THE CELL 'sum', in the pinned program and in every row, IS THE sha256 OF THE DUMP (.gsa) THAT Qxb6614050aProg.lean LOADS. Nothing in Lean hashes anything: it is a label: what it is worth is what the hold of that sum in a sandbox is worth. -/
noncomputable def Try.pinned : Pinned := { name := "qxb6614050a", sum := "41db65ef2fa62fc2355dc35eb61d890a789a7dd091c8101419ab91744b3349ed", checked := Try.checked }
namespace Rows
def none {H : Type} : Left H := { results := [], args := [] }

/-- 'zzlaws_root_b1.FnDamagedFreshEachCall': WHATEVER THE INPUT: true; the input reads as it did. -/
def fnDamagedFreshEachCallSpec : ChangeSpec := { name := "fnDamagedFreshEachCall", fn := fun _ => fun
  | [d1, d2, d3] => { results := [.lit (.bool true)], args := [d1, d2, d3] }
  | _ => none }
def fnDamagedFreshEachCallRow : OpenClaim := { program := "qxb6614050a", sum := "41db65ef2fa62fc2355dc35eb61d890a789a7dd091c8101419ab91744b3349ed", func := "example.com/serialis/serialis/zzlaws_root_b1.FnDamagedFreshEachCall", spec := "fnDamagedFreshEachCall", apart := false }
def FnDamagedFreshEachCallSaid : Prop := fnDamagedFreshEachCallRow.holds Try.pinned (OpenSpec.ofChange fnDamagedFreshEachCallSpec)

/-- ITS FALSE NEIGHBOUR: 'it returns false'. Refute it at one input. -/
def fnDamagedFreshEachCallWrong : ChangeSpec := { name := "fnDamagedFreshEachCall", fn := fun _ => fun
  | [d1, d2, d3] => { results := [.lit (.bool false)], args := [d1, d2, d3] }
  | _ => none }
def FnDamagedFreshEachCallWrongFalsely : Prop := fnDamagedFreshEachCallRow.holds Try.pinned (OpenSpec.ofChange fnDamagedFreshEachCallWrong)

end Rows
end Go.Proofs.Qxb6614050a
