/-
  Seat b6616547a: groupSet.without (10), ZZwithout (6).
-/
import Derived.Test.Qxb6616547aRows
import Derived.WalkKit
import Derived.WalkSpells
import Derived.WalkLawsBesides
namespace Go.Proofs.Qxb6616547a
open Go.RowKit

theorem grown_trans {a b c : World} (h : Grown a b) (k : Grown b c) : Grown a c :=
  ⟨World.keptBut_trans h.1 k.1, fun x => (k.2.1 x).trans (h.2.1 x), Nat.le_trans h.2.2 k.2.2⟩

set_option maxHeartbeats 1000000 in
theorem without_any (a b c d : Int) (w : World) :
    Calls Try.prog 10 #[.agg #[.int .u64 a, .int .u64 b], .agg #[.int .u64 c, .int .u64 d]] w fun e w' => e = .returned (.agg #[.int .u64 (bits .andNot .u64 a c), .int .u64 (bits .andNot .u64 b d)]) ∧ Grown w w' := by
  go_enter Try.func10, Try.ntmps10
  go_wp2
  refine bodyPost_ret (v := .agg #[.int .u64 (bits .andNot .u64 a c), .int .u64 (bits .andNot .u64 b d)]) (by simp [results, Try.results10, go_sem]) rfl ⟨rfl, ?_⟩
  repeat (first | exact Grown.refl _ | apply Grown.drew | apply Grown.alloc)

set_option maxHeartbeats 1000000 in
theorem zzwithout_any (a b c d : Int) (w : World) :
    Calls Try.prog 6 #[.int .u64 a, .int .u64 b, .int .u64 c, .int .u64 d] w fun e w' => e = .returned (.tuple #[.int .u64 (bits .andNot .u64 a c), .int .u64 (bits .andNot .u64 b d)]) ∧ Grown w w' := by
  go_enter Try.func6, Try.ntmps6
  go_wp2_with (go_at_call 10; refine (without_any _ _ _ _ _).mono ?_; rintro e w1 ⟨rfl, g1⟩)
  go_region
  all_goals (try go_wp2)
  all_goals go_ret2
  all_goals exact ⟨rfl, (g1.alloc _ _).drew⟩

end Go.Proofs.Qxb6616547a
