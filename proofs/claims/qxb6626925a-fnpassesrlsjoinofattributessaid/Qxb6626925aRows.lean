/-
  No cell of these rows narrows 'for every input' (looked for: loops, veiled, ifaces, maps, wideKeys, modest, calm, conditions, laid).
  DERIVED. THE GIVEN ROWS OF THIS SEAT. 2 by the template 'for every input the law returns true; each argument reads behind the call as it read before'; 0 by the template 'total and deterministic' (their statements: Qxb6626925aTotals.lean).
  GIVEN WITH THE SEED: the statements are not yours to turn. If you find one false, say at which input.
  Laid BY PROGRAM, IN A SANDBOX (cutbox-rows.mjs): the forced cells as the released guide's own fill.sh prints them over the translation 3c1ef52fad96d50f… (all of the seat's roots in one cut). By AI agents, Wed Nov 11 2026. No macro, syntax, notation, axiom, sorry.
-/
import Derived.Test.Qxb6626925aChecked
import GoSem.Claim
import GoSem.ClaimJoined
import GoSem.ClaimMapViews
import Derived.JoinedTies
import Derived.KernelRfl
namespace Go.Proofs.Qxb6626925a
/- THE CELL 'sum', in the pinned program and in every row, IS THE sha256 OF THE DUMP (.gsa) THAT Qxb6626925aProg.lean LOADS. Nothing in Lean hashes anything: it is a label: what it is worth is what the hold of that sum in a sandbox is worth. -/
noncomputable def Try.pinned : Pinned := { name := "qxb6626925a", sum := "3c1ef52fad96d50f003362d9717c33224da70ee50da70d19655157bcf972d2b8", checked := Try.checked }
namespace Rows
def none {H : Type} : Left H := { results := [], args := [] }

/-- 'zzlaws_internal_catalog_b1.FnPassesRLSJoinOfAttributes': WHATEVER THE INPUT: true; the input reads as it did. -/
def fnPassesRLSJoinOfAttributesSpec : ChangeSpec := { name := "fnPassesRLSJoinOfAttributes", fn := fun _ => fun
  | [d1, d2, d3, d4, d5, d6, d7, d8] => { results := [.lit (.bool true)], args := [d1, d2, d3, d4, d5, d6, d7, d8] }
  | _ => none }
def fnPassesRLSJoinOfAttributesRow : OpenClaim := { program := "qxb6626925a", sum := "3c1ef52fad96d50f003362d9717c33224da70ee50da70d19655157bcf972d2b8", func := "example.com/sociable-weaver/sociable-weaver/zzlaws_internal_catalog_b1.FnPassesRLSJoinOfAttributes", spec := "fnPassesRLSJoinOfAttributes", apart := false }
def FnPassesRLSJoinOfAttributesSaid : Prop := fnPassesRLSJoinOfAttributesRow.holds Try.pinned (OpenSpec.ofChange fnPassesRLSJoinOfAttributesSpec)

/-- ITS FALSE NEIGHBOUR: 'it returns false'. Refute it at one input. -/
def fnPassesRLSJoinOfAttributesWrong : ChangeSpec := { name := "fnPassesRLSJoinOfAttributes", fn := fun _ => fun
  | [d1, d2, d3, d4, d5, d6, d7, d8] => { results := [.lit (.bool false)], args := [d1, d2, d3, d4, d5, d6, d7, d8] }
  | _ => none }
def FnPassesRLSJoinOfAttributesWrongFalsely : Prop := fnPassesRLSJoinOfAttributesRow.holds Try.pinned (OpenSpec.ofChange fnPassesRLSJoinOfAttributesWrong)

/-- 'zzlaws_internal_catalog_b1.FnPassesRLSOnlyPrivilegesCount': WHATEVER THE INPUT: true; the input reads as it did. -/
def fnPassesRLSOnlyPrivilegesCountSpec : ChangeSpec := { name := "fnPassesRLSOnlyPrivilegesCount", fn := fun _ => fun
  | [d1, d2, d3, d4, d5, d6] => { results := [.lit (.bool true)], args := [d1, d2, d3, d4, d5, d6] }
  | _ => none }
def fnPassesRLSOnlyPrivilegesCountRow : OpenClaim := { program := "qxb6626925a", sum := "3c1ef52fad96d50f003362d9717c33224da70ee50da70d19655157bcf972d2b8", func := "example.com/sociable-weaver/sociable-weaver/zzlaws_internal_catalog_b1.FnPassesRLSOnlyPrivilegesCount", spec := "fnPassesRLSOnlyPrivilegesCount", apart := false }
def FnPassesRLSOnlyPrivilegesCountSaid : Prop := fnPassesRLSOnlyPrivilegesCountRow.holds Try.pinned (OpenSpec.ofChange fnPassesRLSOnlyPrivilegesCountSpec)

/-- ITS FALSE NEIGHBOUR: 'it returns false'. Refute it at one input. -/
def fnPassesRLSOnlyPrivilegesCountWrong : ChangeSpec := { name := "fnPassesRLSOnlyPrivilegesCount", fn := fun _ => fun
  | [d1, d2, d3, d4, d5, d6] => { results := [.lit (.bool false)], args := [d1, d2, d3, d4, d5, d6] }
  | _ => none }
def FnPassesRLSOnlyPrivilegesCountWrongFalsely : Prop := fnPassesRLSOnlyPrivilegesCountRow.holds Try.pinned (OpenSpec.ofChange fnPassesRLSOnlyPrivilegesCountWrong)

end Rows
end Go.Proofs.Qxb6626925a
