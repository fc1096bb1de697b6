/-
  Seat b6619060a: the ways on which the law returns at once.
-/
import Derived.Test.Qxb6619060aLoads
namespace Go.Proofs.Qxb6619060a
open Go.RowKit

set_option maxHeartbeats 2000000 in
theorem main_early (a0 : Option Addr) (n c : Nat) (i j wi wj : Int) (w : World) (m0 : n ≤ maxLen) (z1 : 0 ≤ wi) (z2 : 0 ≤ wj)
    (h : 131072 < n ∨ i < 0 ∨ (n : Int) ≤ i ∨ j < 0 ∨ (n : Int) ≤ j ∨ wi = 0 ∨ wj = 0 ∨ 9223372036854775807 < wi ∨ 9223372036854775807 < wj) :
    Calls Try.prog 3 #[.slice a0 n c, .int .i64 i, .int .i64 j, .int .u64 wi, .int .u64 wj] w fun e w' => e = .returned (.bool true) ∧ w = w' := by
  have hbytes := bytes_any a0 n c i j wi wj w m0
  clear m0
  by_cases h1 : 131072 < n
  · clear h
    go_enter Try.func3, Try.ntmps3
    go_wp2_with fail
    refine hbytes.mono ?_
    rintro e w' ⟨⟨r, rfl⟩, hw⟩
    obtain rfl := hw
    cases r <;> (go_wp2; go_ret; exact ⟨rfl, rfl⟩)
  by_cases h2 : i < 0
  · clear h
    go_enter Try.func3, Try.ntmps3
    go_wp2_with fail
    refine hbytes.mono ?_
    rintro e w' ⟨⟨r, rfl⟩, hw⟩
    obtain rfl := hw
    cases r <;> (go_wp2; go_ret; exact ⟨rfl, rfl⟩)
  by_cases h3 : (n : Int) ≤ i
  · clear h
    go_enter Try.func3, Try.ntmps3
    go_wp2_with fail
    refine hbytes.mono ?_
    rintro e w' ⟨⟨r, rfl⟩, hw⟩
    obtain rfl := hw
    cases r <;> (go_wp2; go_ret; exact ⟨rfl, rfl⟩)
  by_cases h4 : j < 0
  · clear h
    go_enter Try.func3, Try.ntmps3
    go_wp2_with fail
    refine hbytes.mono ?_
    rintro e w' ⟨⟨r, rfl⟩, hw⟩
    obtain rfl := hw
    cases r <;> (go_wp2; go_ret; exact ⟨rfl, rfl⟩)
  by_cases h5 : (n : Int) ≤ j
  · clear h
    go_enter Try.func3, Try.ntmps3
    go_wp2_with fail
    refine hbytes.mono ?_
    rintro e w' ⟨⟨r, rfl⟩, hw⟩
    obtain rfl := hw
    cases r <;> (go_wp2; go_ret; exact ⟨rfl, rfl⟩)
  by_cases h6 : wi = 0
  · clear h
    subst h6
    go_enter Try.func3, Try.ntmps3
    go_wp2_with fail
    refine hbytes.mono ?_
    rintro e w' ⟨⟨r, rfl⟩, hw⟩
    obtain rfl := hw
    cases r <;> (go_wp2; go_ret; exact ⟨rfl, rfl⟩)
  have e6 : (wi == 0) = false := by simpa using h6
  by_cases h7 : wj = 0
  · clear h
    subst h7
    go_enter Try.func3, Try.ntmps3
    go_wp2_with fail
    refine hbytes.mono ?_
    rintro e w' ⟨⟨r, rfl⟩, hw⟩
    obtain rfl := hw
    cases r <;> (go_wp2; go_ret; exact ⟨rfl, rfl⟩)
  have e7 : (wj == 0) = false := by simpa using h7
  by_cases h8 : 9223372036854775807 < wi
  · clear h
    go_enter Try.func3, Try.ntmps3
    go_wp2_with fail
    refine hbytes.mono ?_
    rintro e w' ⟨⟨r, rfl⟩, hw⟩
    obtain rfl := hw
    cases r <;> (go_wp2; go_ret; exact ⟨rfl, rfl⟩)
  · have h9 : 9223372036854775807 < wj := by omega
    clear h
    go_enter Try.func3, Try.ntmps3
    go_wp2_with fail
    refine hbytes.mono ?_
    rintro e w' ⟨⟨r, rfl⟩, hw⟩
    obtain rfl := hw
    cases r <;> (go_wp2; go_ret; exact ⟨rfl, rfl⟩)

end Go.Proofs.Qxb6619060a
