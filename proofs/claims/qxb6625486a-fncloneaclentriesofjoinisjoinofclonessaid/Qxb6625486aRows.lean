/-
  No cell of these rows narrows 'for every input' (looked for: loops, veiled, ifaces, maps, wideKeys, modest, calm, conditions, laid).
  DERIVED. THE GIVEN ROWS OF THIS SEAT. 2 by the template 'for every input the law returns true; each argument reads behind the call as it read before'; 0 by the template 'total and deterministic' (their statements: Qxb6625486aTotals.lean).
  GIVEN WITH THE SEED: the statements are not yours to turn. If you find one false, say at which input.
  Laid BY PROGRAM, IN A SANDBOX (cutbox-rows.mjs): the forced cells as the released guide's own fill.sh prints them over the translation 065dda62b71a2915… (all of the seat's roots in one cut). By AI agents, Wed Nov 11 2026. No macro, syntax, notation, axiom, sorry.
-/
import Derived.Test.Qxb6625486aChecked
import GoSem.Claim
import GoSem.ClaimJoined
import GoSem.ClaimMapViews
import Derived.JoinedTies
import Derived.KernelRfl
namespace Go.Proofs.Qxb6625486a
/- THE CELL 'sum', in the pinned program and in every row, IS THE sha256 OF THE DUMP (.gsa) THAT Qxb6625486aProg.lean LOADS. Nothing in Lean hashes anything: it is a label: what it is worth is what the hold of that sum in a sandbox is worth. -/
noncomputable def Try.pinned : Pinned := { name := "qxb6625486a", sum := "065dda62b71a2915693a08bb58ff8b46e463c355f25b10acb9fcc149d852f72c", checked := Try.checked }
namespace Rows
def none {H : Type} : Left H := { results := [], args := [] }

/-- 'zzlaws_root_b1.FnCloneACLEntriesTwiceGivesSeparateEqualCopies': WHATEVER THE INPUT: true; the input reads as it did. -/
def fnCloneACLEntriesTwiceGivesSeparateEqualCopiesSpec : ChangeSpec := { name := "fnCloneACLEntriesTwiceGivesSeparateEqualCopies", fn := fun _ => fun
  | [d] => { results := [.lit (.bool true)], args := [d] }
  | _ => none }
def fnCloneACLEntriesTwiceGivesSeparateEqualCopiesRow : OpenClaim := { program := "qxb6625486a", sum := "065dda62b71a2915693a08bb58ff8b46e463c355f25b10acb9fcc149d852f72c", func := "example.com/farewell/farewell/zzlaws_root_b1.FnCloneACLEntriesTwiceGivesSeparateEqualCopies", spec := "fnCloneACLEntriesTwiceGivesSeparateEqualCopies", apart := false }
def FnCloneACLEntriesTwiceGivesSeparateEqualCopiesSaid : Prop := fnCloneACLEntriesTwiceGivesSeparateEqualCopiesRow.holds Try.pinned (OpenSpec.ofChange fnCloneACLEntriesTwiceGivesSeparateEqualCopiesSpec)

/-- ITS FALSE NEIGHBOUR: 'it returns false'. Refute it at one input. -/
def fnCloneACLEntriesTwiceGivesSeparateEqualCopiesWrong : ChangeSpec := { name := "fnCloneACLEntriesTwiceGivesSeparateEqualCopies", fn := fun _ => fun
  | [d] => { results := [.lit (.bool false)], args := [d] }
  | _ => none }
def FnCloneACLEntriesTwiceGivesSeparateEqualCopiesWrongFalsely : Prop := fnCloneACLEntriesTwiceGivesSeparateEqualCopiesRow.holds Try.pinned (OpenSpec.ofChange fnCloneACLEntriesTwiceGivesSeparateEqualCopiesWrong)

/-- 'zzlaws_root_b1.FnCloneACLEntriesOfJoinIsJoinOfClones': WHATEVER THE INPUT: true; the input reads as it did. -/
def fnCloneACLEntriesOfJoinIsJoinOfClonesSpec : ChangeSpec := { name := "fnCloneACLEntriesOfJoinIsJoinOfClones", fn := fun _ => fun
  | [d1, d2] => { results := [.lit (.bool true)], args := [d1, d2] }
  | _ => none }
def fnCloneACLEntriesOfJoinIsJoinOfClonesRow : OpenClaim := { program := "qxb6625486a", sum := "065dda62b71a2915693a08bb58ff8b46e463c355f25b10acb9fcc149d852f72c", func := "example.com/farewell/farewell/zzlaws_root_b1.FnCloneACLEntriesOfJoinIsJoinOfClones", spec := "fnCloneACLEntriesOfJoinIsJoinOfClones", apart := false }
def FnCloneACLEntriesOfJoinIsJoinOfClonesSaid : Prop := fnCloneACLEntriesOfJoinIsJoinOfClonesRow.holds Try.pinned (OpenSpec.ofChange fnCloneACLEntriesOfJoinIsJoinOfClonesSpec)

/-- ITS FALSE NEIGHBOUR: 'it returns false'. Refute it at one input. -/
def fnCloneACLEntriesOfJoinIsJoinOfClonesWrong : ChangeSpec := { name := "fnCloneACLEntriesOfJoinIsJoinOfClones", fn := fun _ => fun
  | [d1, d2] => { results := [.lit (.bool false)], args := [d1, d2] }
  | _ => none }
def FnCloneACLEntriesOfJoinIsJoinOfClonesWrongFalsely : Prop := fnCloneACLEntriesOfJoinIsJoinOfClonesRow.holds Try.pinned (OpenSpec.ofChange fnCloneACLEntriesOfJoinIsJoinOfClonesWrong)

end Rows
end Go.Proofs.Qxb6625486a
