/-
  No cell of these rows narrows 'for every input' (looked for: loops, veiled, ifaces, maps, wideKeys, modest, calm, conditions, laid).
  DERIVED. THE GIVEN ROWS OF THIS SEAT. 2 by the template 'for every input the law returns true; each argument reads behind the call as it read before'; 0 by the template 'total and deterministic' (their statements: Qxb6613217aTotals.lean).
  GIVEN WITH THE SEED: the statements are not yours to turn. If you find one false, say at which input.
  Laid BY PROGRAM, IN A SANDBOX (cutbox-rows.mjs): the forced cells as the released guide's own fill.sh prints them over the translation a1415639e98c7792… (all of the seat's roots in one cut). By AI agents, Wed Nov 11 2026. No macro, syntax, notation, axiom, sorry.
-/
import Derived.Test.Qxb6613217aChecked
import GoSem.Claim
import GoSem.ClaimJoined
import GoSem.ClaimMapViews
import Derived.JoinedTies
import Derived.KernelRfl
namespace Go.Proofs.Qxb6613217a
/- THE CELL 'sum', in the pinned program and in every row, IS THE sha256 OF THE DUMP (.gsa) THAT Qxb6613217aProg.lean LOADS. Nothing in Lean hashes anything: it is a label: what it is worth is what the hold of that sum in a sandbox is worth. -/
noncomputable def Try.pinned : Pinned := { name := "qxb6613217a", sum := "a1415639e98c7792a6c976e49bd5b401dc3d56cde664594988ec10e12dece70d", checked := Try.checked }
namespace Rows
def none {H : Type} : Left H := { results := [], args := [] }

/-- 'zzlaws_root_b1.FnAddFieldReadsBackEachField': WHATEVER THE INPUT: true; the input reads as it did. -/
def fnAddFieldReadsBackEachFieldSpec : ChangeSpec := { name := "fnAddFieldReadsBackEachField", fn := fun _ => fun
  | [d1, d2, d3] => { results := [.lit (.bool true)], args := [d1, d2, d3] }
  | _ => none }
def fnAddFieldReadsBackEachFieldRow : OpenClaim := { program := "qxb6613217a", sum := "a1415639e98c7792a6c976e49bd5b401dc3d56cde664594988ec10e12dece70d", func := "example.com/rungs/rungs/zzlaws_root_b1.FnAddFieldReadsBackEachField", spec := "fnAddFieldReadsBackEachField", apart := false }
def FnAddFieldReadsBackEachFieldSaid : Prop := fnAddFieldReadsBackEachFieldRow.holds Try.pinned (OpenSpec.ofChange fnAddFieldReadsBackEachFieldSpec)

/-- ITS FALSE NEIGHBOUR: 'it returns false'. Refute it at one input. -/
def fnAddFieldReadsBackEachFieldWrong : ChangeSpec := { name := "fnAddFieldReadsBackEachField", fn := fun _ => fun
  | [d1, d2, d3] => { results := [.lit (.bool false)], args := [d1, d2, d3] }
  | _ => none }
def FnAddFieldReadsBackEachFieldWrongFalsely : Prop := fnAddFieldReadsBackEachFieldRow.holds Try.pinned (OpenSpec.ofChange fnAddFieldReadsBackEachFieldWrong)

/-- 'zzlaws_root_b1.FnAddFieldJoinedEqualsCut': WHATEVER THE INPUT: true; the input reads as it did. -/
def fnAddFieldJoinedEqualsCutSpec : ChangeSpec := { name := "fnAddFieldJoinedEqualsCut", fn := fun _ => fun
  | [d1, d2, d3, d4] => { results := [.lit (.bool true)], args := [d1, d2, d3, d4] }
  | _ => none }
def fnAddFieldJoinedEqualsCutRow : OpenClaim := { program := "qxb6613217a", sum := "a1415639e98c7792a6c976e49bd5b401dc3d56cde664594988ec10e12dece70d", func := "example.com/rungs/rungs/zzlaws_root_b1.FnAddFieldJoinedEqualsCut", spec := "fnAddFieldJoinedEqualsCut", apart := false }
def FnAddFieldJoinedEqualsCutSaid : Prop := fnAddFieldJoinedEqualsCutRow.holds Try.pinned (OpenSpec.ofChange fnAddFieldJoinedEqualsCutSpec)

/-- ITS FALSE NEIGHBOUR: 'it returns false'. Refute it at one input. -/
def fnAddFieldJoinedEqualsCutWrong : ChangeSpec := { name := "fnAddFieldJoinedEqualsCut", fn := fun _ => fun
  | [d1, d2, d3, d4] => { results := [.lit (.bool false)], args := [d1, d2, d3, d4] }
  | _ => none }
def FnAddFieldJoinedEqualsCutWrongFalsely : Prop := fnAddFieldJoinedEqualsCutRow.holds Try.pinned (OpenSpec.ofChange fnAddFieldJoinedEqualsCutWrong)

end Rows
end Go.Proofs.Qxb6613217a
