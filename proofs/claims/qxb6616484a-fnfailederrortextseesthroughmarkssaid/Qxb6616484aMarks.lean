/-
  Seat b6616484a: the sisters of ZZfailedErrorText: marked Retryable (11), marked Permanent (12), refused (13).
-/
import Derived.Test.Qxb6616484aText
namespace Go.Proofs.Qxb6616484a
open Go.RowKit

set_option maxHeartbeats 1000000 in
theorem text11 (p r : Bool) (msg : ByteArray) (w : World) (hm : msg.size ≤ 2097152) :
    Calls Try.prog 11 #[.bool p, .bool r, .string msg] w fun e w' => e = .returned (.string (headOf p r ++ msg)) ∧ Grown w w' := by
  have h37 := m37
  have h40 := m40
  cases r with
  | true =>
    go_enter Try.func11, Try.ntmps11
    go_wp2
    go_ret
    exact ⟨rfl, (((Grown.refl _).alloc _ _).alloc _ _).alloc _ _⟩
  | false =>
    cases p with
    | true =>
      go_enter Try.func11, Try.ntmps11
      go_wp2
      go_ret
      exact ⟨rfl, (((Grown.refl _).alloc _ _).alloc _ _).alloc _ _⟩
    | false =>
      go_enter Try.func11, Try.ntmps11
      go_wp2
      go_ret
      exact ⟨rfl, (((Grown.refl _).alloc _ _).alloc _ _).alloc _ _⟩

set_option maxHeartbeats 1000000 in
theorem text12 (p r : Bool) (msg : ByteArray) (w : World) (hm : msg.size ≤ 2097152) :
    Calls Try.prog 12 #[.bool p, .bool r, .string msg] w fun e w' => e = .returned (.string (headOf p r ++ msg)) ∧ Grown w w' := by
  have h37 := m37
  have h40 := m40
  cases r with
  | true =>
    go_enter Try.func12, Try.ntmps12
    go_wp2
    go_ret
    exact ⟨rfl, (((Grown.refl _).alloc _ _).alloc _ _).alloc _ _⟩
  | false =>
    cases p with
    | true =>
      go_enter Try.func12, Try.ntmps12
      go_wp2
      go_ret
      exact ⟨rfl, (((Grown.refl _).alloc _ _).alloc _ _).alloc _ _⟩
    | false =>
      go_enter Try.func12, Try.ntmps12
      go_wp2
      go_ret
      exact ⟨rfl, (((Grown.refl _).alloc _ _).alloc _ _).alloc _ _⟩

set_option maxHeartbeats 1000000 in
theorem text13 (p r : Bool) (msg : ByteArray) (w : World) (hm : msg.size ≤ 2097152) :
    Calls Try.prog 13 #[.bool p, .bool r, .string msg] w fun e w' => e = .returned (.string (headOf p r ++ msg)) ∧ Grown w w' := by
  have h37 := m37
  have h34 := m34
  cases r with
  | true =>
    go_enter Try.func13, Try.ntmps13
    go_wp2
    go_ret
    exact ⟨rfl, (((Grown.refl _).alloc _ _).alloc _ _).alloc _ _⟩
  | false =>
    cases p with
    | true =>
      go_enter Try.func13, Try.ntmps13
      go_wp2
      go_ret
      exact ⟨rfl, (((Grown.refl _).alloc _ _).alloc _ _).alloc _ _⟩
    | false =>
      go_enter Try.func13, Try.ntmps13
      go_wp2
      go_ret
      exact ⟨rfl, (((Grown.refl _).alloc _ _).alloc _ _).alloc _ _⟩

end Go.Proofs.Qxb6616484a
