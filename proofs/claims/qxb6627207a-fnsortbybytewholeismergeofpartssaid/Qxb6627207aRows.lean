/-
  No cell of these rows narrows 'for every input' (looked for: loops, veiled, ifaces, maps, wideKeys, modest, calm, conditions, laid).
  DERIVED. THE GIVEN ROWS OF THIS SEAT. 2 by the template 'for every input the law returns true; each argument reads behind the call as it read before'; 0 by the template 'total and deterministic' (their statements: Qxb6627207aTotals.lean).
  GIVEN WITH THE SEED: the statements are not yours to turn. If you find one false, say at which input.
  Laid BY PROGRAM, IN A SANDBOX (cutbox-rows.mjs): the forced cells as the released guide's own fill.sh prints them over the translation bad5f6d818a9d7d7… (all of the seat's roots in one cut). By AI agents, Wed Nov 11 2026. No macro, syntax, notation, axiom, sorry.
-/
import Derived.Test.Qxb6627207aChecked
import GoSem.Claim
import GoSem.ClaimJoined
import GoSem.ClaimMapViews
import Derived.JoinedTies
import Derived.KernelRfl
namespace Go.Proofs.Qxb6627207a
/- THE CELL 'sum', in the pinned program and in every row, IS THE sha256 OF THE DUMP (.gsa) THAT Qxb6627207aProg.lean LOADS. Nothing in Lean hashes anything: it is a label: what it is worth is what the hold of that sum in a sandbox is worth. -/
noncomputable def Try.pinned : Pinned := { name := "qxb6627207a", sum := "bad5f6d818a9d7d70b8cb91ae0e21fbc429eb6b51ed63e1c3d5d67b27261773a", checked := Try.checked }
namespace Rows
def none {H : Type} : Left H := { results := [], args := [] }

/-- 'zzlaws_policy_b1.FnSortByByteIsStableSortByBefore': WHATEVER THE INPUT: true; the input reads as it did. -/
def fnSortByByteIsStableSortByBeforeSpec : ChangeSpec := { name := "fnSortByByteIsStableSortByBefore", fn := fun _ => fun
  | [d1, d2] => { results := [.lit (.bool true)], args := [d1, d2] }
  | _ => none }
def fnSortByByteIsStableSortByBeforeRow : OpenClaim := { program := "qxb6627207a", sum := "bad5f6d818a9d7d70b8cb91ae0e21fbc429eb6b51ed63e1c3d5d67b27261773a", func := "example.com/remediation/remediation/zzlaws_policy_b1.FnSortByByteIsStableSortByBefore", spec := "fnSortByByteIsStableSortByBefore", apart := false }
def FnSortByByteIsStableSortByBeforeSaid : Prop := fnSortByByteIsStableSortByBeforeRow.holds Try.pinned (OpenSpec.ofChange fnSortByByteIsStableSortByBeforeSpec)

/-- ITS FALSE NEIGHBOUR: 'it returns false'. Refute it at one input. -/
def fnSortByByteIsStableSortByBeforeWrong : ChangeSpec := { name := "fnSortByByteIsStableSortByBefore", fn := fun _ => fun
  | [d1, d2] => { results := [.lit (.bool false)], args := [d1, d2] }
  | _ => none }
def FnSortByByteIsStableSortByBeforeWrongFalsely : Prop := fnSortByByteIsStableSortByBeforeRow.holds Try.pinned (OpenSpec.ofChange fnSortByByteIsStableSortByBeforeWrong)

/-- 'zzlaws_policy_b1.FnSortByByteWholeIsMergeOfParts': WHATEVER THE INPUT: true; the input reads as it did. -/
def fnSortByByteWholeIsMergeOfPartsSpec : ChangeSpec := { name := "fnSortByByteWholeIsMergeOfParts", fn := fun _ => fun
  | [d1, d2, d3] => { results := [.lit (.bool true)], args := [d1, d2, d3] }
  | _ => none }
def fnSortByByteWholeIsMergeOfPartsRow : OpenClaim := { program := "qxb6627207a", sum := "bad5f6d818a9d7d70b8cb91ae0e21fbc429eb6b51ed63e1c3d5d67b27261773a", func := "example.com/remediation/remediation/zzlaws_policy_b1.FnSortByByteWholeIsMergeOfParts", spec := "fnSortByByteWholeIsMergeOfParts", apart := false }
def FnSortByByteWholeIsMergeOfPartsSaid : Prop := fnSortByByteWholeIsMergeOfPartsRow.holds Try.pinned (OpenSpec.ofChange fnSortByByteWholeIsMergeOfPartsSpec)

/-- ITS FALSE NEIGHBOUR: 'it returns false'. Refute it at one input. -/
def fnSortByByteWholeIsMergeOfPartsWrong : ChangeSpec := { name := "fnSortByByteWholeIsMergeOfParts", fn := fun _ => fun
  | [d1, d2, d3] => { results := [.lit (.bool false)], args := [d1, d2, d3] }
  | _ => none }
def FnSortByByteWholeIsMergeOfPartsWrongFalsely : Prop := fnSortByByteWholeIsMergeOfPartsRow.holds Try.pinned (OpenSpec.ofChange fnSortByByteWholeIsMergeOfPartsWrong)

end Rows
end Go.Proofs.Qxb6627207a
