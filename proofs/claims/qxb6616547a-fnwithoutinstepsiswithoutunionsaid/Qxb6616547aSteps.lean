/-
  Seat b6616547a: the walk of FnWithoutInStepsIsWithoutUnion (4).
-/
import Derived.Test.Qxb6616547aWithout
import Derived.Test.Qxb6616547aBits
namespace Go.Proofs.Qxb6616547a
open Go.RowKit

set_option maxHeartbeats 2000000 in
theorem steps_walk (s t a c b d : Int) (w : World) (hs : Word s) (ht : Word t) (ha : Word a) (hc : Word c) (hb : Word b) (hd : Word d) :
    Calls Try.prog 4 #[.int .u64 s, .int .u64 t, .int .u64 a, .int .u64 c, .int .u64 b, .int .u64 d] w fun e w' => e = .returned (.bool true) ∧ Grown w w' := by
  have f1 : (bits .andNot .u64 (bits .andNot .u64 s a) b == bits .andNot .u64 s (bits .or .u64 a b)) = true := by rw [steps_ab hs ha hb]; simp
  have f2 : (bits .andNot .u64 (bits .andNot .u64 t c) d == bits .andNot .u64 t (bits .or .u64 c d)) = true := by rw [steps_ab ht hc hd]; simp
  have f3 : (bits .andNot .u64 (bits .andNot .u64 s b) a == bits .andNot .u64 s (bits .or .u64 a b)) = true := by rw [steps_ba hs ha hb]; simp
  have f4 : (bits .andNot .u64 (bits .andNot .u64 t d) c == bits .andNot .u64 t (bits .or .u64 c d)) = true := by rw [steps_ba ht hc hd]; simp
  have f5 : (bits .and .u64 (bits .andNot .u64 s (bits .or .u64 a b)) (bits .or .u64 a b) == 0) = true := by rw [apart_u hs ha hb]; simp
  have f6 : (bits .and .u64 (bits .andNot .u64 t (bits .or .u64 c d)) (bits .or .u64 c d) == 0) = true := by rw [apart_u ht hc hd]; simp
  have f7 : (bits .or .u64 (bits .andNot .u64 s (bits .or .u64 a b)) (bits .and .u64 s (bits .or .u64 a b)) == s) = true := by rw [joined_u hs ha hb]; simp
  have f8 : (bits .or .u64 (bits .andNot .u64 t (bits .or .u64 c d)) (bits .and .u64 t (bits .or .u64 c d)) == t) = true := by rw [joined_u ht hc hd]; simp
  clear hs ht ha hc hb hd
  go_enter Try.func4, Try.ntmps4
  go_wp2_with fail
  refine (zzwithout_any _ _ _ _ _).mono ?_
  rintro e w1 ⟨rfl, g1⟩
  go_wp2_with fail
  refine (zzwithout_any _ _ _ _ _).mono ?_
  rintro e w2 ⟨rfl, g2⟩
  go_wp2_with fail
  refine (zzwithout_any _ _ _ _ _).mono ?_
  rintro e w3 ⟨rfl, g3⟩
  go_wp2_with fail
  refine (zzwithout_any _ _ _ _ _).mono ?_
  rintro e w4 ⟨rfl, g4⟩
  go_wp2_with fail
  refine (zzwithout_any _ _ _ _ _).mono ?_
  rintro e w5 ⟨rfl, g5⟩
  have HG : Hid (Grown w w5) := grown_trans (grown_trans (grown_trans (grown_trans g1 g2) g3) g4) g5
  clear g1 g2 g3 g4 g5
  go_wp2
  go_ret
  exact ⟨rfl, HG.out⟩

end Go.Proofs.Qxb6616547a
