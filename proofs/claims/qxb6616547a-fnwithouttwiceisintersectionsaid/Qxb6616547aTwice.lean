/-
  Seat b6616547a: the walk of FnWithoutTwiceIsIntersection (3).
-/
import Derived.Test.Qxb6616547aWithout
import Derived.Test.Qxb6616547aBits
namespace Go.Proofs.Qxb6616547a
open Go.RowKit

set_option maxHeartbeats 2000000 in
theorem twice_walk (s t o q : Int) (w : World) (hs : Word s) (ht : Word t) (ho : Word o) (hq : Word q) :
    Calls Try.prog 3 #[.int .u64 s, .int .u64 t, .int .u64 o, .int .u64 q] w fun e w' => e = .returned (.bool true) ∧ Grown w w' := by
  have f1 : (bits .andNot .u64 s (bits .andNot .u64 s o) == bits .and .u64 s o) = true := by rw [twice_and hs ho]; simp
  have f2 : (bits .andNot .u64 t (bits .andNot .u64 t q) == bits .and .u64 t q) = true := by rw [twice_and ht hq]; simp
  have f3 : (bits .andNot .u64 (bits .andNot .u64 s o) o == bits .andNot .u64 s o) = true := by rw [again hs ho]; simp
  have f4 : (bits .andNot .u64 (bits .andNot .u64 t q) q == bits .andNot .u64 t q) = true := by rw [again ht hq]; simp
  have f5 : (bits .or .u64 (bits .andNot .u64 s o) s == s) = true := by rw [within hs ho]; simp
  have f6 : (bits .or .u64 (bits .andNot .u64 t q) t == t) = true := by rw [within ht hq]; simp
  clear hs ht ho hq
  go_enter Try.func3, Try.ntmps3
  go_wp2_with fail
  refine (zzwithout_any _ _ _ _ _).mono ?_
  rintro e w1 ⟨rfl, g1⟩
  go_wp2_with fail
  refine (zzwithout_any _ _ _ _ _).mono ?_
  rintro e w2 ⟨rfl, g2⟩
  go_wp2_with fail
  refine (zzwithout_any _ _ _ _ _).mono ?_
  rintro e w3 ⟨rfl, g3⟩
  have HG : Hid (Grown w w3) := grown_trans (grown_trans g1 g2) g3
  clear g1 g2 g3
  go_wp2
  go_ret
  exact ⟨rfl, HG.out⟩

end Go.Proofs.Qxb6616547a
