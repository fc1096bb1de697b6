/-
  No cell of these rows narrows 'for every input' (looked for: loops, veiled, ifaces, maps, wideKeys, modest, calm, conditions, laid).
  DERIVED. THE GIVEN ROWS OF THIS SEAT. 2 by the template 'for every input the law returns true; each argument reads behind the call as it read before'; 0 by the template 'total and deterministic' (their statements: Qxb6616484aTotals.lean).
  GIVEN WITH THE SEED: the statements are not yours to turn. If you find one false, say at which input.
  Laid BY PROGRAM, IN A SANDBOX (cutbox-rows.mjs): the forced cells as the released guide's own fill.sh prints them over the translation 962cc7f08d760b1a… (all of the seat's roots in one cut). By AI agents, Wed Nov 11 2026. No macro, syntax, notation, axiom, sorry.
-/
import Derived.Test.Qxb6616484aChecked
import GoSem.Claim
import GoSem.ClaimJoined
import GoSem.ClaimMapViews
import Derived.JoinedTies
import Derived.KernelRfl
namespace Go.Proofs.Qxb6616484a
/- THE CELL 'sum', in the pinned program and in every row, IS THE sha256 OF THE DUMP (.gsa) THAT Qxb6616484aProg.lean LOADS. Nothing in Lean hashes anything: it is a label: what it is worth is what the hold of that sum in a sandbox is worth. -/
noncomputable def Try.pinned : Pinned := { name := "qxb6616484a", sum := "962cc7f08d760b1aa20929a7c75b501d31634763bd28652bbb97453f7babce82", checked := Try.checked }
namespace Rows
def none {H : Type} : Left H := { results := [], args := [] }

/-- 'zzlaws_root_b1.FnFailedErrorTextCutsAtMessage': WHATEVER THE INPUT: true; the input reads as it did. -/
def fnFailedErrorTextCutsAtMessageSpec : ChangeSpec := { name := "fnFailedErrorTextCutsAtMessage", fn := fun _ => fun
  | [d1, d2, d3, d4] => { results := [.lit (.bool true)], args := [d1, d2, d3, d4] }
  | _ => none }
def fnFailedErrorTextCutsAtMessageRow : OpenClaim := { program := "qxb6616484a", sum := "962cc7f08d760b1aa20929a7c75b501d31634763bd28652bbb97453f7babce82", func := "example.com/onceward/onceward/zzlaws_root_b1.FnFailedErrorTextCutsAtMessage", spec := "fnFailedErrorTextCutsAtMessage", unfollowed := true, recurses := true, apart := false }
def FnFailedErrorTextCutsAtMessageSaid : Prop := fnFailedErrorTextCutsAtMessageRow.holds Try.pinned (OpenSpec.ofChange fnFailedErrorTextCutsAtMessageSpec)

/-- ITS FALSE NEIGHBOUR: 'it returns false'. Refute it at one input. -/
def fnFailedErrorTextCutsAtMessageWrong : ChangeSpec := { name := "fnFailedErrorTextCutsAtMessage", fn := fun _ => fun
  | [d1, d2, d3, d4] => { results := [.lit (.bool false)], args := [d1, d2, d3, d4] }
  | _ => none }
def FnFailedErrorTextCutsAtMessageWrongFalsely : Prop := fnFailedErrorTextCutsAtMessageRow.holds Try.pinned (OpenSpec.ofChange fnFailedErrorTextCutsAtMessageWrong)

/-- 'zzlaws_root_b1.FnFailedErrorTextSeesThroughMarks': WHATEVER THE INPUT: true; the input reads as it did. -/
def fnFailedErrorTextSeesThroughMarksSpec : ChangeSpec := { name := "fnFailedErrorTextSeesThroughMarks", fn := fun _ => fun
  | [d1, d2, d3] => { results := [.lit (.bool true)], args := [d1, d2, d3] }
  | _ => none }
def fnFailedErrorTextSeesThroughMarksRow : OpenClaim := { program := "qxb6616484a", sum := "962cc7f08d760b1aa20929a7c75b501d31634763bd28652bbb97453f7babce82", func := "example.com/onceward/onceward/zzlaws_root_b1.FnFailedErrorTextSeesThroughMarks", spec := "fnFailedErrorTextSeesThroughMarks", unfollowed := true, recurses := true, apart := false }
def FnFailedErrorTextSeesThroughMarksSaid : Prop := fnFailedErrorTextSeesThroughMarksRow.holds Try.pinned (OpenSpec.ofChange fnFailedErrorTextSeesThroughMarksSpec)

/-- ITS FALSE NEIGHBOUR: 'it returns false'. Refute it at one input. -/
def fnFailedErrorTextSeesThroughMarksWrong : ChangeSpec := { name := "fnFailedErrorTextSeesThroughMarks", fn := fun _ => fun
  | [d1, d2, d3] => { results := [.lit (.bool false)], args := [d1, d2, d3] }
  | _ => none }
def FnFailedErrorTextSeesThroughMarksWrongFalsely : Prop := fnFailedErrorTextSeesThroughMarksRow.holds Try.pinned (OpenSpec.ofChange fnFailedErrorTextSeesThroughMarksWrong)

end Rows
end Go.Proofs.Qxb6616484a
