/-
  THE PROOF OF 'Rows.FnFailedErrorTextSeesThroughMarksSaid' (seat b6616484a): the guide's shell, its hole filled.
-/
import Derived.Test.Qxb6616484aRows
import Derived.WalkKit
import Derived.ProofKit
import Derived.OpenShut
import Derived.ShutString
import Derived.Test.Qxb6616484aSees
namespace Go.Proofs.Qxb6616484a.fnFailedErrorTextSeesThroughMarks
open Go.ChangeShapes Go.WideShapes Go.ChangeAt Go.RowKit
open Go.ChangeMaps (open_string shut_string)
set_option linter.unusedVariables false

theorem own : ownKnob Try.prog.godebug = none := by kernel_rfl

/-! ### STEP 1: THE WALK: the Go text returns true. 'Grown w w'': the world has at most new blocks (Derived/RowKit3.lean). Part the cases AHEAD of 'go_enter' where a test parts the walk; take each callee by a contract of your own. -/
theorem early (p r : Bool) (a : ByteArray) (w : World) (ha : a.size ≤ maxLen) (h : 1048576 < a.size) :
    Calls Try.prog 4 #[.bool p, .bool r, .string a] w fun e w' => e = .returned (.bool true) ∧ w = w' := by
  have c10 := bytes10 p r a w ha
  clear ha
  go_enter Try.func4, Try.ntmps4
  go_wp2_with fail
  refine c10.mono ?_
  rintro e w' ⟨⟨q, rfl⟩, hw⟩
  obtain rfl := hw
  cases q <;> (go_wp2; go_ret; exact ⟨rfl, rfl⟩)

theorem walk (a0 : Bool) (a1 : Bool) (a2 : ByteArray) (w2 : a2.size ≤ maxLen) (w : World) :
    Calls Try.prog 4 #[.bool a0, .bool a1, .string a2] w fun e w' => e = .returned (.bool true) ∧ Grown w w' := by
  by_cases h : 1048576 < a2.size
  · exact (early a0 a1 a2 w w2 h).mono fun e w' ⟨he, hw⟩ => ⟨he, hw ▸ Grown.refl _⟩
  · have hs := head_size a0 a1
    have hc : colB.size = 2 := rfl
    refine marks_core a0 a1 a2 (headOf a0 a1 ++ a2) w (by omega) (fun W => bytes10 a0 a1 a2 W w2) (fun W => text6 a0 a1 a2 W (by omega)) (fun W => text11 a0 a1 a2 W (by omega)) (fun W => text12 a0 a1 a2 W (by omega)) (fun W => text13 a0 a1 a2 W (by omega))
      (by rw [ByteArray.size_append]; omega) (fun W => suffix_yes _ _ W (by rw [ByteArray.size_append, ByteArray.size_append]; omega) (by rw [ByteArray.size_append]; omega) ?_)
    rw [head_split, ← app_assoc]
    exact end_app _ _

/-! ### THE ROW's STEP: WRITTEN OUT: LEAVE IT -/
set_option maxRecDepth 100000 in
theorem lifted (os : Os) (started : os.Started) (H : Type) (enc : TypeId × Value → H) :
    ReturnsInHanded {} Try.checked os 4 .any (Rows.fnFailedErrorTextSeesThroughMarksSpec.pre6 enc Try.prog Try.f4 Rows.fnFailedErrorTextSeesThroughMarksRow.domain false) (Rows.fnFailedErrorTextSeesThroughMarksSpec.post enc Try.prog Try.f4 false true false false) := by
  refine returnsInHanded_of_change (C := Try.checked) own started (by kernel_rfl) Try.func4
    (ChangeSpec.witness6 (enc := enc) (C := Try.checked) false ⟨#[], #[.bool false, .bool false, .string ByteArray.empty], []⟩ 8 (by kernel_rfl) (by kernel_rfl) (by kernel_rfl) (by kernel_rfl)) ?_
  intro W base args ds gs before hval0 hW hcnd _
  have hval : ∀ (j : Nat) t v, Try.f4.params[j]? = some t → args[j]? = some v → Value.okWide Try.prog W .any base t v := hval0
  have hW' := hW
  obtain ⟨p, q, hA0, hV, rfl, hfz, hnd⟩ := hW
  have hA : DataW.TrodAll enc Try.prog W 0 (fun _ => true) true Try.f4.params.toList args.toList ds p := hA0
  rw [Try.params4] at hA hval
  obtain ⟨v0, vs0, d0, ds0, p0, q0, hargs, rfl, rfl, h0, r0⟩ := trodAll_cons hA
  obtain ⟨v1, vs1, d1, ds1, p1, q1, rfl, rfl, rfl, h1, r1⟩ := trodAll_cons r0
  obtain ⟨v2, vs2, d2, ds2, p2, q2, rfl, rfl, rfl, h2, r2⟩ := trodAll_cons r1
  obtain ⟨rfl, rfl, rfl⟩ := trodAll_nil r2
  obtain rfl : args = #[v0, v1, v2] := by cases args; simp_all
  obtain ⟨rfl, rfl⟩ := trodVars_none hV
  obtain ⟨a0, rfl, rfl, rfl⟩ := open_bool Try.underlying4 (hval 0 4 v0 rfl rfl) h0
  obtain ⟨a1, rfl, rfl, rfl⟩ := open_bool Try.underlying4 (hval 1 4 v1 rfl rfl) h1
  obtain ⟨a2, rfl, rfl, rfl, w2⟩ := open_string Try.underlying9 (hval 2 9 v2 rfl rfl) h2
  clear hA0 hval0
  simp only [List.append_nil] at hW'
  refine (walk a0 a1 a2 w2 W).mono fun e W' ⟨he, hg⟩ => ?_
  subst he
  exact ⟨_, rfl, post_of_same (pa := []) (pv := []) hW' (fun _ _ _ => (trodAll_cons_mk (shut_bool Try.underlying4 _) trodAll_mk0)) (fun sp _ => (trodAll_cons_mk (shut_bool Try.underlying4 _) (trodAll_cons_mk (shut_bool Try.underlying4 _) (trodAll_cons_mk (shut_string Try.underlying9 w2) trodAll_mk0)))) (fun _ _ => rfl) rfl
    (hg.frame _) hg.2.1 (ok_one (by kernel_rfl) rfl (okWide_bool_mk Try.underlying4 _))⟩

theorem over : Rows.fnFailedErrorTextSeesThroughMarksRow.holds Try.pinned (OpenSpec.ofChange Rows.fnFailedErrorTextSeesThroughMarksSpec) :=
  OpenClaim.holds_of_wide 4 Try.f4 rfl rfl rfl rfl rfl rfl rfl ⟨rfl, rfl, rfl, rfl, rfl⟩ rfl rfl rfl rfl rfl (by kernel_rfl) Try.func4 (by kernel_rfl)
    (of_decide_eq_true (by kernel_rfl)) (by unfold Func.isWrapper; first | (rw [if_pos (by decide +kernel)]; kernel_rfl) | (rw [if_neg (by decide +kernel)]; exact ⟨rfl, rfl⟩))
    (fun os started H enc _ => lifted os started H enc)

/-- THE STATEMENT. -/
theorem proved : Rows.FnFailedErrorTextSeesThroughMarksSaid :=
  over
#print axioms proved
end Go.Proofs.Qxb6616484a.fnFailedErrorTextSeesThroughMarks
