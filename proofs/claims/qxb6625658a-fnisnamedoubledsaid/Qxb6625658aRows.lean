/-
  No cell of these rows narrows 'for every input' (looked for: loops, veiled, ifaces, maps, wideKeys, modest, calm, conditions, laid).
  DERIVED. THE GIVEN ROWS OF THIS SEAT. 2 by the template 'for every input the law returns true; each argument reads behind the call as it read before'; 0 by the template 'total and deterministic' (their statements: Qxb6625658aTotals.lean).
  GIVEN WITH THE SEED: the statements are not yours to turn. If you find one false, say at which input.
  Laid BY PROGRAM, IN A SANDBOX (cutbox-rows.mjs): the forced cells as the released guide's own fill.sh prints them over the translation 1ad3b699f62e7117… (all of the seat's roots in one cut). By AI agents, Wed Nov 11 2026. No macro, syntax, notation, axiom, sorry.
-/
import Derived.Test.Qxb6625658aChecked
import GoSem.Claim
import GoSem.ClaimJoined
import GoSem.ClaimMapViews
import Derived.JoinedTies
import Derived.KernelRfl
namespace Go.Proofs.Qxb6625658a
/- THE CELL 'sum', in the pinned program and in every row, IS THE sha256 OF THE DUMP (.gsa) THAT Qxb6625658aProg.lean LOADS. Nothing in Lean hashes anything: it is a label: what it is worth is what the hold of that sum in a sandbox is worth. -/
noncomputable def Try.pinned : Pinned := { name := "qxb6625658a", sum := "1ad3b699f62e71173f5d58eaa3b7209666c7879ae8543b25168cb1342ba08243", checked := Try.checked }
namespace Rows
def none {H : Type} : Left H := { results := [], args := [] }

/-- 'zzlaws_root_b1.FnIsNameCutAgreesWithParts': WHATEVER THE INPUT: true; the input reads as it did. -/
def fnIsNameCutAgreesWithPartsSpec : ChangeSpec := { name := "fnIsNameCutAgreesWithParts", fn := fun _ => fun
  | [d1, d2] => { results := [.lit (.bool true)], args := [d1, d2] }
  | _ => none }
def fnIsNameCutAgreesWithPartsRow : OpenClaim := { program := "qxb6625658a", sum := "1ad3b699f62e71173f5d58eaa3b7209666c7879ae8543b25168cb1342ba08243", func := "example.com/bonded-tally/bonded-tally/zzlaws_root_b1.FnIsNameCutAgreesWithParts", spec := "fnIsNameCutAgreesWithParts", apart := false }
def FnIsNameCutAgreesWithPartsSaid : Prop := fnIsNameCutAgreesWithPartsRow.holds Try.pinned (OpenSpec.ofChange fnIsNameCutAgreesWithPartsSpec)

/-- ITS FALSE NEIGHBOUR: 'it returns false'. Refute it at one input. -/
def fnIsNameCutAgreesWithPartsWrong : ChangeSpec := { name := "fnIsNameCutAgreesWithParts", fn := fun _ => fun
  | [d1, d2] => { results := [.lit (.bool false)], args := [d1, d2] }
  | _ => none }
def FnIsNameCutAgreesWithPartsWrongFalsely : Prop := fnIsNameCutAgreesWithPartsRow.holds Try.pinned (OpenSpec.ofChange fnIsNameCutAgreesWithPartsWrong)

/-- 'zzlaws_root_b1.FnIsNameDoubled': WHATEVER THE INPUT: true; the input reads as it did. -/
def fnIsNameDoubledSpec : ChangeSpec := { name := "fnIsNameDoubled", fn := fun _ => fun
  | [d] => { results := [.lit (.bool true)], args := [d] }
  | _ => none }
def fnIsNameDoubledRow : OpenClaim := { program := "qxb6625658a", sum := "1ad3b699f62e71173f5d58eaa3b7209666c7879ae8543b25168cb1342ba08243", func := "example.com/bonded-tally/bonded-tally/zzlaws_root_b1.FnIsNameDoubled", spec := "fnIsNameDoubled", apart := false }
def FnIsNameDoubledSaid : Prop := fnIsNameDoubledRow.holds Try.pinned (OpenSpec.ofChange fnIsNameDoubledSpec)

/-- ITS FALSE NEIGHBOUR: 'it returns false'. Refute it at one input. -/
def fnIsNameDoubledWrong : ChangeSpec := { name := "fnIsNameDoubled", fn := fun _ => fun
  | [d] => { results := [.lit (.bool false)], args := [d] }
  | _ => none }
def FnIsNameDoubledWrongFalsely : Prop := fnIsNameDoubledRow.holds Try.pinned (OpenSpec.ofChange fnIsNameDoubledWrong)

end Rows
end Go.Proofs.Qxb6625658a
