/-
  Seat b6618977a: the leaves of the road: zzBytes (4), zzAnyTrue (9), zzValAt (10).
-/
import Derived.Test.Qxb6618977aRows
import Derived.WalkKit
import Derived.WalkSpells
import Derived.WalkLawsBesides
namespace Go.Proofs.Qxb6618977a
open Go.RowKit

/-- Some flag among the first n is set. -/
def anyB (B : Nat → Bool) : Nat → Bool
  | 0 => false
  | n + 1 => anyB B n || B n

theorem anyB_hit (B : Nat → Bool) (n k : Nat) (h : k < n) (hb : B k = true) : anyB B n = true := by
  induction n with
  | zero => omega
  | succ n ih =>
    by_cases e : k = n
    · subst e; simp [anyB, hb]
    · simp [anyB, ih (by omega)]

/-- What zzValAt answers: the number at i, 0 past the end. -/
def valAt (zs : List Int) (n i : Nat) : Int := if i < n then zs.getD i 0 else 0

/-- zzAnyTrue over a slice that has an element's address. -/
theorem anyTrue_some (b off n c : Nat) (B : Nat → Bool) (w : World) (hbig : n ≤ 1048576) (hc : ∀ i, i < n → w.cell? ⟨b, off + i, none⟩ = some (.bool (B i))) :
    Calls Try.prog 9 #[.slice (some ⟨b, off, none⟩) n c] w fun e w' => e = .returned (.bool (anyB B n)) ∧ w' = w := by
  go_enter Try.func9, Try.ntmps9
  go_wp2
  go_loop [3] (fun i => ∃ k : Nat, k ≤ n ∧ i = .int .i64 k ∧ Hid (anyB B k = false)) (fun i => n - (intOf i).toNat)
  case atStart => exact ⟨0, Nat.zero_le _, rfl, rfl⟩
  case round =>
    obtain ⟨k, hk, rfl, hnone⟩ := hrel
    by_cases hlt : k < n
    · have hcell := hc k hlt
      cases hB : B k with
      | true =>
        rw [hB] at hcell
        have hall := anyB_hit B n k hlt hB
        clear hc hB
        go_wp2
        go_ret
        exact ⟨rfl, rfl⟩
      | false =>
        rw [hB] at hcell
        have hn : Hid (anyB B (k + 1) = false) := by show anyB B (k + 1) = false; simp [anyB, hnone.out, hB]
        clear hc hB
        go_wp2
        go_round
        case rel => exact ⟨k + 1, by omega, by go_num, hn⟩
        case measure => simp [intOf]; omega
    · have : k = n := by omega
      subst this
      clear hc
      go_wp2
      go_ret
      exact ⟨by rw [hnone.out]; rfl, rfl⟩

/-- zzAnyTrue over a slice of no element. -/
theorem anyTrue_none (a : Option Addr) (c : Nat) (w : World) :
    Calls Try.prog 9 #[.slice a 0 c] w fun e w' => e = .returned (.bool false) ∧ w' = w := by
  go_enter Try.func9, Try.ntmps9
  go_wp2
  go_loop [3] (fun i => i = .int .i64 0) (fun _ => 0)
  case atStart => rfl
  case round =>
    subst hrel
    go_wp2
    go_ret
    exact ⟨rfl, rfl⟩

/-- zzValAt past the end. -/
theorem valAt_out (a : Option Addr) (n c i : Nat) (w : World) (h : n ≤ i) :
    Calls Try.prog 10 #[.slice a n c, .int .i64 i] w fun e w' => e = .returned (.int .i64 0) ∧ w' = w := by
  have h' : ¬ (i : Int) < (n : Int) := by omega
  go_enter Try.func10, Try.ntmps10
  go_wp2
  go_ret
  exact ⟨rfl, rfl⟩

/-- zzValAt within. -/
theorem valAt_in (b off n c i : Nat) (z : Int) (w : World) (h : i < n) (hc : w.cell? ⟨b, off + i, none⟩ = some (.int .i64 z)) :
    Calls Try.prog 10 #[.slice (some ⟨b, off, none⟩) n c, .int .i64 i] w fun e w' => e = .returned (.int .i64 z) ∧ w' = w := by
  have h' : (i : Int) < (n : Int) := by omega
  go_enter Try.func10, Try.ntmps10
  go_wp2
  go_ret
  exact ⟨rfl, rfl⟩

/-- zzBytes where the lengths are small: true; else some bool. -/
theorem bytes_any (a0 a1 a2 a3 : Option Addr) (n0 n1 n2 n3 c0 c1 c2 c3 : Nat) (x : Int) (w : World) (h0 : n0 ≤ maxLen) (h1 : n1 ≤ maxLen) (h2 : n2 ≤ maxLen) (h3 : n3 ≤ maxLen) :
    Calls Try.prog 4 #[.slice a0 n0 c0, .slice a1 n1 c1, .slice a2 n2 c2, .slice a3 n3 c3, .int .i64 x] w fun e w' => (∃ r : Bool, e = .returned (.bool r)) ∧ w' = w := by
  unfold maxLen at h0 h1 h2 h3
  go_enter Try.func4, Try.ntmps4
  go_wp2
  all_goals (go_ret; exact ⟨⟨_, rfl⟩, rfl⟩)

end Go.Proofs.Qxb6618977a
