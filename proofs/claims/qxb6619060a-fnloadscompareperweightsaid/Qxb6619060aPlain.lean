/-
  Seat b6619060a: the plain law of the comparison by continued fractions: no Go in sight.
-/
import Derived.WalkKit
namespace Go.Proofs.Qxb6619060a

/-- 1, 0 or -1: how a stands to b. -/
def sgn (a b : Int) : Int := if b < a then 1 else if a < b then -1 else 0

theorem sgn_gt {a b : Int} (h : b < a) : sgn a b = 1 := by simp [sgn, h]
theorem sgn_lt {a b : Int} (h : a < b) : sgn a b = -1 := by
  have : ¬ b < a := by omega
  simp [sgn, h, this]
theorem sgn_eq {a b : Int} (h : a = b) : sgn a b = 0 := by subst h; simp [sgn]

theorem sgn_congr {a b c d : Int} (h : a - b = c - d) : sgn a b = sgn c d := by
  unfold sgn
  have h1 : (b < a) = (d < c) := by apply propext; omega
  have h2 : (a < b) = (c < d) := by apply propext; omega
  simp only [h1, h2]

/-- x/p against y/q, crosswise. -/
def cmpF (x p y q : Int) : Int := sgn (x * q) (y * p)

theorem split (x p : Int) : x = p * (x / p) + x % p := (Int.mul_ediv_add_emod x p).symm

theorem cmp_gt (x p y q : Int) (hp : 1 ≤ p) (hq : 1 ≤ q) (h : y / q < x / p) : cmpF x p y q = 1 := by
  refine sgn_gt ?_
  have h1 : p * (y / q + 1) ≤ x := by
    have ha : p * (y / q + 1) ≤ p * (x / p) := Int.mul_le_mul_of_nonneg_left (by omega) (by omega)
    have hb : p * (x / p) ≤ x := Int.mul_ediv_self_le (by omega)
    omega
  have h2 : y < q * (y / q + 1) := by
    have := Int.emod_lt_of_pos y (show 0 < q by omega)
    have e := split y q
    rw [Int.mul_add, Int.mul_one]; omega
  calc y * p < q * (y / q + 1) * p := Int.mul_lt_mul_of_pos_right h2 (by omega)
    _ = p * (y / q + 1) * q := by rw [Int.mul_comm (q * (y / q + 1)) p, ← Int.mul_assoc, Int.mul_right_comm p q]
    _ ≤ x * q := Int.mul_le_mul_of_nonneg_right h1 (by omega)

theorem cmp_lt (x p y q : Int) (hp : 1 ≤ p) (hq : 1 ≤ q) (h : x / p < y / q) : cmpF x p y q = -1 := by
  refine sgn_lt ?_
  have h1 : q * (x / p + 1) ≤ y := by
    have ha : q * (x / p + 1) ≤ q * (y / q) := Int.mul_le_mul_of_nonneg_left (by omega) (by omega)
    have hb : q * (y / q) ≤ y := Int.mul_ediv_self_le (by omega)
    omega
  have h2 : x < p * (x / p + 1) := by
    have := Int.emod_lt_of_pos x (show 0 < p by omega)
    have e := split x p
    rw [Int.mul_add, Int.mul_one]; omega
  calc x * q < p * (x / p + 1) * q := Int.mul_lt_mul_of_pos_right h2 (by omega)
    _ = q * (x / p + 1) * p := by rw [Int.mul_comm (p * (x / p + 1)) q, ← Int.mul_assoc, Int.mul_right_comm q p]
    _ ≤ y * p := Int.mul_le_mul_of_nonneg_right h1 (by omega)

/-- Where the whole parts are one, the rests decide. -/
theorem cmp_rest (x p y q : Int) (h : x / p = y / q) : cmpF x p y q = sgn (x % p * q) (y % q * p) := by
  refine sgn_congr ?_
  have ex := split x p
  have ey := split y q
  generalize x / p = k at *
  generalize y / q = l at *
  subst h
  generalize x % p = r at *
  generalize y % q = s at *
  subst ex ey
  rw [Int.add_mul, Int.add_mul, Int.mul_right_comm q k p, Int.mul_right_comm p k q, Int.mul_comm q p]
  omega

theorem cmp_zero (x p y q : Int) (h : x / p = y / q) (hx : x % p = 0) (hy : y % q = 0) : cmpF x p y q = 0 := by
  rw [cmp_rest x p y q h, hx, hy]; simp [sgn]

theorem cmp_left (x p y q : Int) (hp : 1 ≤ p) (h : x / p = y / q) (hx : x % p = 0) (hy : 0 < y % q) : cmpF x p y q = -1 := by
  rw [cmp_rest x p y q h, hx]
  refine sgn_lt ?_
  rw [Int.zero_mul]
  exact Int.mul_pos hy (by omega)

theorem cmp_right (x p y q : Int) (hq : 1 ≤ q) (h : x / p = y / q) (hx : 0 < x % p) (hy : y % q = 0) : cmpF x p y q = 1 := by
  rw [cmp_rest x p y q h, hy]
  refine sgn_gt ?_
  rw [Int.zero_mul]
  exact Int.mul_pos hx (by omega)

/-- The turn: ra/p against rb/q is q/rb against p/ra. -/
theorem cmp_turn (x p y q : Int) (h : x / p = y / q) : cmpF q (y % q) p (x % p) = cmpF x p y q := by
  rw [cmp_rest x p y q h]
  unfold cmpF
  rw [Int.mul_comm q, Int.mul_comm p]

end Go.Proofs.Qxb6619060a
