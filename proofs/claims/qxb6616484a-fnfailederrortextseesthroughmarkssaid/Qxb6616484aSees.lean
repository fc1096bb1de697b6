/-
  Seat b6616484a: the walk of FnFailedErrorTextSeesThroughMarks (4).
-/
import Derived.Test.Qxb6616484aHeads
import Derived.Test.Qxb6616484aMarks
namespace Go.Proofs.Qxb6616484a
open Go.RowKit

theorem grown_then {a b c : World} (h : Grown a b) (k : Grown b c) : Grown a c :=
  ⟨World.keptBut_trans h.1 k.1, fun x => (k.2.1 x).trans (h.2.1 x), Nat.le_trans h.2.2 k.2.2⟩

set_option maxHeartbeats 2000000 in
theorem marks_core (p r : Bool) (a PT : ByteArray) (w : World) (ha : a.size ≤ 1048576)
    (c10 : ∀ W, Calls Try.prog 10 #[.bool p, .bool r, .string a] W fun e w' => (∃ q : Bool, e = .returned (.bool q)) ∧ W = w')
    (c6 : ∀ W, Calls Try.prog 6 #[.bool p, .bool r, .string a] W fun e w' => e = .returned (.string PT) ∧ Grown W w')
    (c11 : ∀ W, Calls Try.prog 11 #[.bool p, .bool r, .string a] W fun e w' => e = .returned (.string PT) ∧ Grown W w')
    (c12 : ∀ W, Calls Try.prog 12 #[.bool p, .bool r, .string a] W fun e w' => e = .returned (.string PT) ∧ Grown W w')
    (c13 : ∀ W, Calls Try.prog 13 #[.bool p, .bool r, .string a] W fun e w' => e = .returned (.string PT) ∧ Grown W w')
    (s2 : a.size < PT.size)
    (c8 : ∀ W, Calls Try.prog 8 #[.string PT, .string (colB ++ a)] W fun e w' => e = .returned (.bool true) ∧ W = w') :
    Calls Try.prog 4 #[.bool p, .bool r, .string a] w fun e w' => e = .returned (.bool true) ∧ Grown w w' := by
  unfold colB at c8
  have e0 : (PT.toList == PT.toList) = true := by simp
  have s2' : (a.size : Int) < (PT.size : Int) := by omega
  go_enter Try.func4, Try.ntmps4
  go_wp2_with fail
  refine (c10 w).mono ?_
  rintro e w' ⟨⟨q, rfl⟩, hw⟩
  obtain rfl := hw
  cases q with
  | false => go_wp2; go_ret; exact ⟨rfl, Grown.refl _⟩
  | true =>
    go_wp2_with fail
    refine (c6 _).mono ?_
    rintro e w1 ⟨rfl, g1⟩
    go_wp2_with fail
    refine (c11 _).mono ?_
    rintro e w2 ⟨rfl, g2⟩
    go_wp2_with fail
    refine (c12 _).mono ?_
    rintro e w3 ⟨rfl, g3⟩
    go_wp2_with fail
    refine (c13 _).mono ?_
    rintro e w4 ⟨rfl, g4⟩
    have HG : Hid (Grown w w4) := grown_then (grown_then (grown_then g1 g2) g3) g4
    clear g1 g2 g3 g4 c6 c11 c12 c13 c10
    go_wp2_with fail
    refine (c8 _).mono ?_
    rintro e w5 ⟨rfl, rfl⟩
    go_wp2
    go_ret
    exact ⟨rfl, HG.out⟩

end Go.Proofs.Qxb6616484a
