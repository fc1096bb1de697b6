/-
  No cell of these rows narrows 'for every input' (looked for: loops, veiled, ifaces, maps, wideKeys, modest, calm, conditions, laid).
  DERIVED. THE GIVEN ROWS OF THIS SEAT. 1 by the template 'for every input the law returns true; each argument reads behind the call as it read before'; 0 by the template 'total and deterministic' (their statements: Qxb6618977aTotals.lean).
  GIVEN WITH THE SEED: the statements are not yours to turn. If you find one false, say at which input.
  Laid BY PROGRAM, IN A SANDBOX (cutbox-rows.mjs): the forced cells as the released guide's own fill.sh prints them over the translation 265aec855603d686… (all of the seat's roots in one cut). By AI agents, Wed Nov 11 2026. No macro, syntax, notation, axiom, sorry.
-/
import Derived.Test.Qxb6618977aChecked
import GoSem.Claim
import GoSem.ClaimJoined
import GoSem.ClaimMapViews
import Derived.JoinedTies
import Derived.KernelRfl
namespace Go.Proofs.Qxb6618977a
/- THE CELL 'sum', in the pinned program and in every row, IS THE sha256 OF THE DUMP (.gsa) THAT Qxb6618977aProg.lean LOADS. Nothing in Lean hashes anything: it is a label: what it is worth is what the hold of that sum in a sandbox is worth. -/
noncomputable def Try.pinned : Pinned := { name := "qxb6618977a", sum := "265aec855603d6863ae8062ab6bbe15382ffa52109e9d6ff2665e7b7681fecad", checked := Try.checked }
namespace Rows
def none {H : Type} : Left H := { results := [], args := [] }

/-- 'zzlaws_internal_limits_b1.FnSelectsByClosedPeriodAnyCutAnyPlace': WHATEVER THE INPUT: true; the input reads as it did. -/
def fnSelectsByClosedPeriodAnyCutAnyPlaceSpec : ChangeSpec := { name := "fnSelectsByClosedPeriodAnyCutAnyPlace", fn := fun _ => fun
  | [d1, d2, d3, d4, d5] => { results := [.lit (.bool true)], args := [d1, d2, d3, d4, d5] }
  | _ => none }
def fnSelectsByClosedPeriodAnyCutAnyPlaceRow : OpenClaim := { program := "qxb6618977a", sum := "265aec855603d6863ae8062ab6bbe15382ffa52109e9d6ff2665e7b7681fecad", func := "example.com/fundwarden/fundwarden/zzlaws_internal_limits_b1.FnSelectsByClosedPeriodAnyCutAnyPlace", spec := "fnSelectsByClosedPeriodAnyCutAnyPlace", unfollowed := true, recurses := true, apart := false }
def FnSelectsByClosedPeriodAnyCutAnyPlaceSaid : Prop := fnSelectsByClosedPeriodAnyCutAnyPlaceRow.holds Try.pinned (OpenSpec.ofChange fnSelectsByClosedPeriodAnyCutAnyPlaceSpec)

/-- ITS FALSE NEIGHBOUR: 'it returns false'. Refute it at one input. -/
def fnSelectsByClosedPeriodAnyCutAnyPlaceWrong : ChangeSpec := { name := "fnSelectsByClosedPeriodAnyCutAnyPlace", fn := fun _ => fun
  | [d1, d2, d3, d4, d5] => { results := [.lit (.bool false)], args := [d1, d2, d3, d4, d5] }
  | _ => none }
def FnSelectsByClosedPeriodAnyCutAnyPlaceWrongFalsely : Prop := fnSelectsByClosedPeriodAnyCutAnyPlaceRow.holds Try.pinned (OpenSpec.ofChange fnSelectsByClosedPeriodAnyCutAnyPlaceWrong)

end Rows
end Go.Proofs.Qxb6618977a
