/-
  Seat b6618977a: the ways on which the law returns at once.
-/
import Derived.Test.Qxb6618977aSels
namespace Go.Proofs.Qxb6618977a
open Go.RowKit

set_option maxHeartbeats 1000000 in
theorem main_early (a0 a1 a2 a3 : Option Addr) (n0 c0 n1 c1 n2 c2 n3 c3 : Nat) (cut : Int) (w : World)
    (m0 : n0 ≤ maxLen) (m1 : n1 ≤ maxLen) (m2 : n2 ≤ maxLen) (m3 : n3 ≤ maxLen)
    (h : 32768 < n0 ∨ 32768 < n1 ∨ 32768 < n2 ∨ 32768 < n3 ∨ cut < 0 ∨ (n0 : Int) < cut) :
    Calls Try.prog 3 #[.slice a0 n0 c0, .slice a1 n1 c1, .slice a2 n2 c2, .slice a3 n3 c3, .int .i64 cut] w fun e w' => e = .returned (.bool true) ∧ w = w' := by
  have hbytes := bytes_any a0 a1 a2 a3 n0 n1 n2 n3 c0 c1 c2 c3 cut w m0 m1 m2 m3
  clear m0 m1 m2 m3
  by_cases h0 : 32768 < n0
  · have h0' : decide ((32768 : Int) < (n0 : Int)) = true := by simp; omega
    clear h
    go_enter Try.func3, Try.ntmps3
    go_wp2_with fail
    refine hbytes.mono ?_
    rintro e w' ⟨⟨r, rfl⟩, hw⟩
    obtain rfl := hw.symm
    cases r <;> (go_wp2; go_ret; exact ⟨rfl, rfl⟩)
  by_cases h1 : 32768 < n1
  · clear h
    go_enter Try.func3, Try.ntmps3
    go_wp2_with fail
    refine hbytes.mono ?_
    rintro e w' ⟨⟨r, rfl⟩, hw⟩
    obtain rfl := hw.symm
    cases r <;> (go_wp2; go_ret; exact ⟨rfl, rfl⟩)
  by_cases h2 : 32768 < n2
  · clear h
    go_enter Try.func3, Try.ntmps3
    go_wp2_with fail
    refine hbytes.mono ?_
    rintro e w' ⟨⟨r, rfl⟩, hw⟩
    obtain rfl := hw.symm
    cases r <;> (go_wp2; go_ret; exact ⟨rfl, rfl⟩)
  by_cases h3 : 32768 < n3
  · clear h
    go_enter Try.func3, Try.ntmps3
    go_wp2_with fail
    refine hbytes.mono ?_
    rintro e w' ⟨⟨r, rfl⟩, hw⟩
    obtain rfl := hw.symm
    cases r <;> (go_wp2; go_ret; exact ⟨rfl, rfl⟩)
  by_cases h4 : cut < 0
  · clear h
    go_enter Try.func3, Try.ntmps3
    go_wp2_with fail
    refine hbytes.mono ?_
    rintro e w' ⟨⟨r, rfl⟩, hw⟩
    obtain rfl := hw.symm
    cases r <;> (go_wp2; go_ret; exact ⟨rfl, rfl⟩)
  · have h5 : (n0 : Int) < cut := by omega
    clear h
    go_enter Try.func3, Try.ntmps3
    go_wp2_with fail
    refine hbytes.mono ?_
    rintro e w' ⟨⟨r, rfl⟩, hw⟩
    obtain rfl := hw.symm
    cases r <;> (go_wp2; go_ret; exact ⟨rfl, rfl⟩)

end Go.Proofs.Qxb6618977a
