/-
  Seat b6619060a: zzCmpFrac (7), zzBytes (5), loads (11), ZZRequestsLoads (6).
-/
import Derived.Test.Qxb6619060aRows
import Derived.Test.Qxb6619060aPlain
import Derived.WalkKit
import Derived.WalkSpells
import Derived.WalkLawsBesides
import Derived.Deep.LoopGhost
import Derived.Deep.QuietTactic
import Derived.BigQuiet
namespace Go.Proofs.Qxb6619060a
open Go.RowKit

theorem ret_i64 {a b : Int} (h : a = b) : Ending.returned (.int .i64 a) = .returned (.int .i64 b) := by rw [h]

set_option maxHeartbeats 1000000 in
theorem cmpFrac_any (x p y q : Int) (w : World) (hx : 0 ≤ x) (hx' : x ≤ 18446744073709551615) (hp : 1 ≤ p) (hp' : p ≤ 18446744073709551615) (hy : 0 ≤ y) (hy' : y ≤ 18446744073709551615) (hq : 1 ≤ q) (hq' : q ≤ 18446744073709551615) :
    Calls Try.prog 7 #[.int .u64 x, .int .u64 p, .int .u64 y, .int .u64 q] w fun e w' => e = .returned (.int .i64 (cmpF x p y q)) ∧ w' = w := by
  go_enter Try.func7, Try.ntmps7
  go_wp2
  go_loopg [0, 1, 2, 3] (p + q).toNat (fun gg s0 s1 s2 s3 wr => ∃ x1 p1 y1 q1 : Int, s0 = .int .u64 x1 ∧ s1 = .int .u64 p1 ∧ s2 = .int .u64 y1 ∧ s3 = .int .u64 q1 ∧ 0 ≤ x1 ∧ x1 ≤ 18446744073709551615 ∧ 1 ≤ p1 ∧ p1 ≤ 18446744073709551615 ∧ 0 ≤ y1 ∧ y1 ≤ 18446744073709551615 ∧ 1 ≤ q1 ∧ q1 ≤ 18446744073709551615 ∧
    p1 + q1 ≤ gg ∧ Hid (cmpF x1 p1 y1 q1 = cmpF x p y q) ∧ Hid (wr = w))
  case atStart => exact ⟨x, p, y, q, rfl, rfl, rfl, rfl, hx, hx', hp, hp', hy, hy', hq, hq', by omega, rfl, rfl⟩
  case round =>
    obtain ⟨x1, p1, y1, q1, rfl, rfl, rfl, rfl, k1, k2, k3, k4, k5, k6, k7, k8, hg, HC, HW⟩ := hrel
    have r1 : 0 ≤ x1 % p1 := Int.emod_nonneg _ (by omega)
    have r2 : x1 % p1 < p1 := Int.emod_lt_of_pos _ (by omega)
    have r3 : 0 ≤ y1 % q1 := Int.emod_nonneg _ (by omega)
    have r4 : y1 % q1 < q1 := Int.emod_lt_of_pos _ (by omega)
    have t1 : 0 ≤ x1 / p1 := Int.ediv_nonneg k1 (by omega)
    have t2 : x1 / p1 ≤ x1 := Int.ediv_le_self _ k1
    have t3 : 0 ≤ y1 / q1 := Int.ediv_nonneg k5 (by omega)
    have t4 : y1 / q1 ≤ y1 := Int.ediv_le_self _ k5
    rcases Int.lt_trichotomy (x1 / p1) (y1 / q1) with h | h | h
    · have hne : (x1 / p1 == y1 / q1) = false := by simp; omega
      have hng : ¬ y1 / q1 < x1 / p1 := by omega
      have hc := cmp_lt x1 p1 y1 q1 k3 k7 h
      have HR : Hid (cmpF x p y q = -1) := by show cmpF x p y q = -1; rw [← HC.out, hc]
      clear hc HC
      go_wp2
      go_ret
      exact ⟨by rw [HR.out]; rfl, HW.out⟩
    · have hz := cmp_zero x1 p1 y1 q1 h
      have hl := cmp_left x1 p1 y1 q1 k3 h
      have hr := cmp_right x1 p1 y1 q1 k7 h
      have ht := cmp_turn x1 p1 y1 q1 h
      have heq : (x1 / p1 == y1 / q1) = true := by simpa using h
      by_cases ha : x1 % p1 = 0
      · have ha' : (x1 % p1 == 0) = true := by simpa using ha
        by_cases hb : y1 % q1 = 0
        · have hb' : (y1 % q1 == 0) = true := by simpa using hb
          have HR : Hid (cmpF x p y q = 0) := by show cmpF x p y q = 0; rw [← HC.out, hz ha hb]
          clear hz hl hr ht HC h ha hb
          go_wp2
          go_ret
          exact ⟨by rw [HR.out]; rfl, HW.out⟩
        · have hb' : (y1 % q1 == 0) = false := by simpa using hb
          have HR : Hid (cmpF x p y q = -1) := by show cmpF x p y q = -1; rw [← HC.out, hl ha (by omega)]
          clear hz hl hr ht HC h ha hb
          go_wp2
          go_ret
          exact ⟨by rw [HR.out]; rfl, HW.out⟩
      · have ha' : (x1 % p1 == 0) = false := by simpa using ha
        by_cases hb : y1 % q1 = 0
        · have hb' : (y1 % q1 == 0) = true := by simpa using hb
          have HR : Hid (cmpF x p y q = 1) := by show cmpF x p y q = 1; rw [← HC.out, hr (by omega) hb]
          clear hz hl hr ht HC h ha hb
          go_wp2
          go_ret
          exact ⟨by rw [HR.out]; rfl, HW.out⟩
        · have hb' : (y1 % q1 == 0) = false := by simpa using hb
          have HR : Hid (cmpF q1 (y1 % q1) p1 (x1 % p1) = cmpF x p y q) := by show cmpF q1 (y1 % q1) p1 (x1 % p1) = cmpF x p y q; rw [ht]; exact HC.out
          have pa : 1 ≤ x1 % p1 := by omega
          have pb : 1 ≤ y1 % q1 := by omega
          clear hz hl hr ht HC h ha hb
          go_wp2
          go_roundg (x1 % p1 + y1 % q1).toNat
          case measure => omega
          case rel => exact ⟨q1, y1 % q1, p1, x1 % p1, rfl, rfl, rfl, rfl, by omega, by omega, pb, by omega, by omega, by omega, pa, by omega, by omega, HR, HW⟩
    · have hne : (x1 / p1 == y1 / q1) = false := by simp; omega
      have hc := cmp_gt x1 p1 y1 q1 k3 k7 h
      have HR : Hid (cmpF x p y q = 1) := by show cmpF x p y q = 1; rw [← HC.out, hc]
      clear hc HC
      go_wp2
      go_ret
      exact ⟨by rw [HR.out]; rfl, HW.out⟩

end Go.Proofs.Qxb6619060a
