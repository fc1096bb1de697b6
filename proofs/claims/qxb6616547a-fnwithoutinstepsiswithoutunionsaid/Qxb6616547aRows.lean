/-
  No cell of these rows narrows 'for every input' (looked for: loops, veiled, ifaces, maps, wideKeys, modest, calm, conditions, laid).
  DERIVED. THE GIVEN ROWS OF THIS SEAT. 3 by the template 'for every input the law returns true; each argument reads behind the call as it read before'; 0 by the template 'total and deterministic' (their statements: Qxb6616547aTotals.lean).
  GIVEN WITH THE SEED: the statements are not yours to turn. If you find one false, say at which input.
  Laid BY PROGRAM, IN A SANDBOX (cutbox-rows.mjs): the forced cells as the released guide's own fill.sh prints them over the translation 5729f1d486396b3d… (all of the seat's roots in one cut). By AI agents, Wed Nov 11 2026. No macro, syntax, notation, axiom, sorry.
-/
import Derived.Test.Qxb6616547aChecked
import GoSem.Claim
import GoSem.ClaimJoined
import GoSem.ClaimMapViews
import Derived.JoinedTies
import Derived.KernelRfl
namespace Go.Proofs.Qxb6616547a
/- THE CELL 'sum', in the pinned program and in every row, IS THE sha256 OF THE DUMP (.gsa) THAT Qxb6616547aProg.lean LOADS. Nothing in Lean hashes anything: it is a label: what it is worth is what the hold of that sum in a sandbox is worth. -/
noncomputable def Try.pinned : Pinned := { name := "qxb6616547a", sum := "5729f1d486396b3da57870281c51b195d5f82c32d835440d233be6ee6f0e1278", checked := Try.checked }
namespace Rows
def none {H : Type} : Left H := { results := [], args := [] }

/-- 'zzlaws_scheduler_b1.FnWithoutTwiceIsIntersection': WHATEVER THE INPUT: true; the input reads as it did. -/
def fnWithoutTwiceIsIntersectionSpec : ChangeSpec := { name := "fnWithoutTwiceIsIntersection", fn := fun _ => fun
  | [d1, d2, d3, d4] => { results := [.lit (.bool true)], args := [d1, d2, d3, d4] }
  | _ => none }
def fnWithoutTwiceIsIntersectionRow : OpenClaim := { program := "qxb6616547a", sum := "5729f1d486396b3da57870281c51b195d5f82c32d835440d233be6ee6f0e1278", func := "example.com/corral/corral/zzlaws_scheduler_b1.FnWithoutTwiceIsIntersection", spec := "fnWithoutTwiceIsIntersection", apart := false }
def FnWithoutTwiceIsIntersectionSaid : Prop := fnWithoutTwiceIsIntersectionRow.holds Try.pinned (OpenSpec.ofChange fnWithoutTwiceIsIntersectionSpec)

/-- ITS FALSE NEIGHBOUR: 'it returns false'. Refute it at one input. -/
def fnWithoutTwiceIsIntersectionWrong : ChangeSpec := { name := "fnWithoutTwiceIsIntersection", fn := fun _ => fun
  | [d1, d2, d3, d4] => { results := [.lit (.bool false)], args := [d1, d2, d3, d4] }
  | _ => none }
def FnWithoutTwiceIsIntersectionWrongFalsely : Prop := fnWithoutTwiceIsIntersectionRow.holds Try.pinned (OpenSpec.ofChange fnWithoutTwiceIsIntersectionWrong)

/-- 'zzlaws_scheduler_b1.FnWithoutInStepsIsWithoutUnion': WHATEVER THE INPUT: true; the input reads as it did. -/
def fnWithoutInStepsIsWithoutUnionSpec : ChangeSpec := { name := "fnWithoutInStepsIsWithoutUnion", fn := fun _ => fun
  | [d1, d2, d3, d4, d5, d6] => { results := [.lit (.bool true)], args := [d1, d2, d3, d4, d5, d6] }
  | _ => none }
def fnWithoutInStepsIsWithoutUnionRow : OpenClaim := { program := "qxb6616547a", sum := "5729f1d486396b3da57870281c51b195d5f82c32d835440d233be6ee6f0e1278", func := "example.com/corral/corral/zzlaws_scheduler_b1.FnWithoutInStepsIsWithoutUnion", spec := "fnWithoutInStepsIsWithoutUnion", apart := false }
def FnWithoutInStepsIsWithoutUnionSaid : Prop := fnWithoutInStepsIsWithoutUnionRow.holds Try.pinned (OpenSpec.ofChange fnWithoutInStepsIsWithoutUnionSpec)

/-- ITS FALSE NEIGHBOUR: 'it returns false'. Refute it at one input. -/
def fnWithoutInStepsIsWithoutUnionWrong : ChangeSpec := { name := "fnWithoutInStepsIsWithoutUnion", fn := fun _ => fun
  | [d1, d2, d3, d4, d5, d6] => { results := [.lit (.bool false)], args := [d1, d2, d3, d4, d5, d6] }
  | _ => none }
def FnWithoutInStepsIsWithoutUnionWrongFalsely : Prop := fnWithoutInStepsIsWithoutUnionRow.holds Try.pinned (OpenSpec.ofChange fnWithoutInStepsIsWithoutUnionWrong)

/-- 'zzlaws_scheduler_b1.FnLacksCoreThresholdIsMin': WHATEVER THE INPUT: true; the input reads as it did. -/
def fnLacksCoreThresholdIsMinSpec : ChangeSpec := { name := "fnLacksCoreThresholdIsMin", fn := fun _ => fun
  | [d1, d2, d3, d4, d5, d6, d7, d8, d9, d10] => { results := [.lit (.bool true)], args := [d1, d2, d3, d4, d5, d6, d7, d8, d9, d10] }
  | _ => none }
def fnLacksCoreThresholdIsMinRow : OpenClaim := { program := "qxb6616547a", sum := "5729f1d486396b3da57870281c51b195d5f82c32d835440d233be6ee6f0e1278", func := "example.com/corral/corral/zzlaws_scheduler_b1.FnLacksCoreThresholdIsMin", spec := "fnLacksCoreThresholdIsMin", apart := false }
def FnLacksCoreThresholdIsMinSaid : Prop := fnLacksCoreThresholdIsMinRow.holds Try.pinned (OpenSpec.ofChange fnLacksCoreThresholdIsMinSpec)

/-- ITS FALSE NEIGHBOUR: 'it returns false'. Refute it at one input. -/
def fnLacksCoreThresholdIsMinWrong : ChangeSpec := { name := "fnLacksCoreThresholdIsMin", fn := fun _ => fun
  | [d1, d2, d3, d4, d5, d6, d7, d8, d9, d10] => { results := [.lit (.bool false)], args := [d1, d2, d3, d4, d5, d6, d7, d8, d9, d10] }
  | _ => none }
def FnLacksCoreThresholdIsMinWrongFalsely : Prop := fnLacksCoreThresholdIsMinRow.holds Try.pinned (OpenSpec.ofChange fnLacksCoreThresholdIsMinWrong)

end Rows
end Go.Proofs.Qxb6616547a
