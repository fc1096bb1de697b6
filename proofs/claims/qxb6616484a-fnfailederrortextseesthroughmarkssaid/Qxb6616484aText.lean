/-
  Seat b6616484a: the texts: ZZfailedErrorText (6) and its sisters (11, 12, 13).
-/
import Derived.Test.Qxb6616484aRows
import Derived.WalkKit
import Derived.WalkSpells
import Derived.WalkLawsBesides
namespace Go.Proofs.Qxb6616484a
open Go.RowKit

/-- The head of the text: of a recorded failure, of a permanent one, of another. -/
def headOf : Bool → Bool → ByteArray
  | _, true => ⟨#[111, 110, 99, 101, 119, 97, 114, 100, 58, 32, 104, 97, 110, 100, 108, 101, 114, 32, 102, 97, 105, 108, 101, 100, 32, 112, 101, 114, 109, 97, 110, 101, 110, 116, 108, 121, 32, 111, 110, 32, 97, 110, 32, 101, 97, 114, 108, 105, 101, 114, 32, 100, 101, 108, 105, 118, 101, 114, 121, 58, 32]⟩
  | true, false => ⟨#[111, 110, 99, 101, 119, 97, 114, 100, 58, 32, 104, 97, 110, 100, 108, 101, 114, 32, 102, 97, 105, 108, 101, 100, 32, 112, 101, 114, 109, 97, 110, 101, 110, 116, 108, 121, 58, 32]⟩
  | false, false => ⟨#[111, 110, 99, 101, 119, 97, 114, 100, 58, 32, 104, 97, 110, 100, 108, 101, 114, 32, 102, 97, 105, 108, 101, 100, 58, 32]⟩

theorem m37 (a : Addr) (w : World) : (method 159 37 (.pointer (some a)) "Error").run Try.prog w = .ok (34, .pointer (some a)) w := by kernel_rfl
theorem m40 (a : Addr) (w : World) : (method 159 40 (.pointer (some a)) "Error").run Try.prog w = .ok (35, .pointer (some a)) w := by kernel_rfl
theorem m34 (a : Addr) (w : World) : (method 159 34 (.pointer (some a)) "Error").run Try.prog w = .ok (33, .pointer (some a)) w := by kernel_rfl

set_option maxHeartbeats 1000000 in
theorem text6 (p r : Bool) (msg : ByteArray) (w : World) (hm : msg.size ≤ 2097152) :
    Calls Try.prog 6 #[.bool p, .bool r, .string msg] w fun e w' => e = .returned (.string (headOf p r ++ msg)) ∧ Grown w w' := by
  have h37 := m37
  cases r with
  | true =>
    go_enter Try.func6, Try.ntmps6
    go_wp2
    go_ret
    exact ⟨rfl, ((Grown.refl _).alloc _ _).alloc _ _⟩
  | false =>
    cases p with
    | true =>
      go_enter Try.func6, Try.ntmps6
      go_wp2
      go_ret
      exact ⟨rfl, ((Grown.refl _).alloc _ _).alloc _ _⟩
    | false =>
      go_enter Try.func6, Try.ntmps6
      go_wp2
      go_ret
      exact ⟨rfl, ((Grown.refl _).alloc _ _).alloc _ _⟩

end Go.Proofs.Qxb6616484a
