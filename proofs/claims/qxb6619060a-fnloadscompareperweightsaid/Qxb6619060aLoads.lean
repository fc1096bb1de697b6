/-
  Seat b6619060a: zzBytes (5), loads (11), ZZRequestsLoads (6).
-/
import Derived.Test.Qxb6619060aFrac
import Derived.WalkSmall
import Derived.Lib.SliceRun
namespace Go.Proofs.Qxb6619060a
open Go.RowKit

theorem bytes_any (a0 : Option Addr) (n0 c0 : Nat) (x1 x2 x3 x4 : Int) (w : World) (h0 : n0 ≤ maxLen) :
    Calls Try.prog 5 #[.slice a0 n0 c0, .int .i64 x1, .int .i64 x2, .int .u64 x3, .int .u64 x4] w fun e w' => (∃ r : Bool, e = .returned (.bool r)) ∧ w = w' := by
  unfold maxLen at h0
  go_enter Try.func5, Try.ntmps5
  go_wp2
  all_goals (go_ret; exact ⟨⟨_, rfl⟩, rfl⟩)

set_option maxHeartbeats 1000000 in
theorem loads_any (P g off n c i j : Nat) (x y wi wj : Int) (w : World) (hi : i < n) (hj : j < n) (hP : w.cell? ⟨P, 0, none⟩ = some (.slice (some ⟨g, off, none⟩) n c))
    (cx : w.cell? ⟨g, off + i, none⟩ = some (.int .i64 x)) (cy : w.cell? ⟨g, off + j, none⟩ = some (.int .i64 y))
    (w1 : 1 ≤ wi) (w2 : wi ≤ 9223372036854775807) (w3 : 1 ≤ wj) (w4 : wj ≤ 9223372036854775807) (m1 : 0 ≤ x * wj) (m2 : x * wj ≤ 9223372036854775807) (m3 : 0 ≤ y * wi) (m4 : y * wi ≤ 9223372036854775807) :
    Calls Try.prog 11 #[.pointer (some ⟨P, 0, none⟩), .int .i64 i, .int .i64 j, .int .u64 wi, .int .u64 wj] w fun e w' => e = .returned (.tuple #[.int .i64 (x * wj), .int .i64 (y * wi)]) ∧ ∃ k, w' = w.drewN k := by
  have hi' : (i : Int) < (n : Int) := by omega
  have hj' : (j : Int) < (n : Int) := by omega
  have hi0 : (0 : Int) ≤ (i : Int) := by omega
  have hj0 : (0 : Int) ≤ (j : Int) := by omega
  go_enter Try.func11, Try.ntmps11
  go_wp2
  go_quiet (fail)
  go_wp2
  go_ret2
  exact ⟨rfl, _, rfl⟩

set_option maxHeartbeats 1000000 in
theorem zzloads_any (g off n c i j : Nat) (x y wi wj : Int) (w : World) (hi : i < n) (hj : j < n)
    (cx : w.cell? ⟨g, off + i, none⟩ = some (.int .i64 x)) (cy : w.cell? ⟨g, off + j, none⟩ = some (.int .i64 y))
    (w1 : 1 ≤ wi) (w2 : wi ≤ 9223372036854775807) (w3 : 1 ≤ wj) (w4 : wj ≤ 9223372036854775807) (m1 : 0 ≤ x * wj) (m2 : x * wj ≤ 9223372036854775807) (m3 : 0 ≤ y * wi) (m4 : y * wi ≤ 9223372036854775807) :
    Calls Try.prog 6 #[.slice (some ⟨g, off, none⟩) n c, .int .i64 i, .int .i64 j, .int .u64 wi, .int .u64 wj] w fun e w' => e = .returned (.tuple #[.int .i64 (x * wj), .int .i64 (y * wi)]) ∧ Below w.heap.size w w' := by
  have hcall := loads_any w.heap.size g off n c i j x y wi wj (w.alloc (.cells #[.slice (some ⟨g, off, none⟩) n c] 34)) hi hj (by simp) (Lib.cell?_alloc_some _ cx) (Lib.cell?_alloc_some _ cy) w1 w2 w3 w4 m1 m2 m3 m4
  generalize x * wj = X at hcall ⊢
  generalize y * wi = Y at hcall ⊢
  clear m1 m2 m3 m4 cx cy
  go_enter Try.func6, Try.ntmps6
  go_wp2_with (go_at_call 11; refine hcall.mono ?_; rintro e w' ⟨rfl, k, rfl⟩)
  go_ret2
  exact ⟨rfl, below_drewN ((Below.refl _ w).alloc (Nat.le_refl _) _) k⟩

end Go.Proofs.Qxb6619060a
