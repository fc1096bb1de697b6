/-
  Seat b6616484a: the small string functions: zzHasPrefix (7), zzHasSuffix (8), zzContains (9), the two zzBytes (5, 10).
-/
import Derived.Test.Qxb6616484aRows
import Derived.WalkKit
import Derived.WalkSpells
import Derived.WalkLawsBesides
namespace Go.Proofs.Qxb6616484a
open Go.RowKit

theorem bytes5 (p r : Bool) (a b : ByteArray) (w : World) (ha : a.size ≤ maxLen) (hb : b.size ≤ maxLen) :
    Calls Try.prog 5 #[.bool p, .bool r, .string a, .string b] w fun e w' => (∃ q : Bool, e = .returned (.bool q)) ∧ w = w' := by
  unfold maxLen at ha hb
  go_enter Try.func5, Try.ntmps5
  go_wp2
  all_goals (go_ret; exact ⟨⟨_, rfl⟩, rfl⟩)

theorem bytes10 (p r : Bool) (a : ByteArray) (w : World) (ha : a.size ≤ maxLen) :
    Calls Try.prog 10 #[.bool p, .bool r, .string a] w fun e w' => (∃ q : Bool, e = .returned (.bool q)) ∧ w = w' := by
  unfold maxLen at ha
  go_enter Try.func10, Try.ntmps10
  go_wp2
  all_goals (go_ret; exact ⟨⟨_, rfl⟩, rfl⟩)

/-- zzHasPrefix where it holds. -/
theorem prefix_yes (s p : ByteArray) (w : World) (h : p.size ≤ s.size) (he : s.extract 0 p.size = p) :
    Calls Try.prog 7 #[.string s, .string p] w fun e w' => e = .returned (.bool true) ∧ w = w' := by
  have h' : (p.size : Int) ≤ (s.size : Int) := by omega
  have he' : ((s.extract 0 p.size).toList == p.toList) = true := by rw [he]; simp
  clear he
  go_enter Try.func7, Try.ntmps7
  go_wp2
  go_ret
  exact ⟨rfl, rfl⟩

/-- zzHasSuffix where it holds. -/
theorem suffix_yes (s p : ByteArray) (w : World) (h : p.size ≤ s.size) (hs : s.size ≤ 9223372036854775807) (he : s.extract (s.size - p.size) s.size = p) :
    Calls Try.prog 8 #[.string s, .string p] w fun e w' => e = .returned (.bool true) ∧ w = w' := by
  have h' : (p.size : Int) ≤ (s.size : Int) := by omega
  have he' : ((s.extract (s.size - p.size) s.size).toList == p.toList) = true := by rw [he]; simp
  clear he
  go_enter Try.func8, Try.ntmps8
  go_wp2
  go_ret
  exact ⟨rfl, rfl⟩

/-- p lies in s at place i. -/
def hitAt (s p : ByteArray) (i : Nat) : Bool := (s.extract i (i + p.size)).toList == p.toList

/-- p lies in s at a place below k. -/
def hitBelow (s p : ByteArray) : Nat → Bool
  | 0 => false
  | k + 1 => hitBelow s p k || hitAt s p k

theorem hitBelow_of (s p : ByteArray) (k n : Nat) (h : k < n) (hh : hitAt s p k = true) : hitBelow s p n = true := by
  induction n with
  | zero => omega
  | succ n ih =>
    by_cases e : k = n
    · subst e; simp [hitBelow, hh]
    · simp [hitBelow, ih (by omega)]

set_option maxHeartbeats 1000000 in
/-- zzContains: p lies somewhere in s. -/
theorem contains_any (s p : ByteArray) (w : World) (hs : s.size ≤ 4194304) (hp : p.size ≤ 4194304) :
    Calls Try.prog 9 #[.string s, .string p] w fun e w' => e = .returned (.bool (hitBelow s p (s.size + 1 - p.size))) ∧ w = w' := by
  obtain ⟨n, hn⟩ : ∃ n, n = s.size + 1 - p.size := ⟨_, rfl⟩
  have HN : Hid (n = s.size + 1 - p.size) := hn
  rw [← hn]
  clear hn
  go_enter Try.func9, Try.ntmps9
  go_wp2
  go_loop [5] (fun i => ∃ k : Nat, k ≤ n ∧ i = .int .i64 k ∧ Hid (hitBelow s p k = false)) (fun i => n - (intOf i).toNat)
  case atStart => exact ⟨0, Nat.zero_le _, rfl, rfl⟩
  case round =>
    obtain ⟨k, hk, rfl, hnone⟩ := hrel
    have hkb : k ≤ 4194305 := by have := HN.out; omega
    by_cases hlt : k + p.size ≤ s.size
    · have hlt' : (k : Int) + (p.size : Int) ≤ (s.size : Int) := by omega
      have hkn : k < n := by have := HN.out; omega
      cases hB : hitAt s p k with
      | true =>
        have hall : Hid (hitBelow s p n = true) := hitBelow_of s p k n hkn hB
        unfold hitAt at hB
        go_wp2
        go_ret
        exact ⟨by rw [hall.out]; rfl, rfl⟩
      | false =>
        have hnx : Hid (hitBelow s p (k + 1) = false) := by show hitBelow s p (k + 1) = false; simp [hitBelow, hnone.out, hB]
        unfold hitAt at hB
        go_wp2
        go_round
        case rel => exact ⟨k + 1, by omega, by go_num, hnx⟩
        case measure => simp [intOf]; omega
    · have hlt' : ¬ (k : Int) + (p.size : Int) ≤ (s.size : Int) := by omega
      have : k = n := by have := HN.out; omega
      subst this
      go_wp2
      go_ret
      exact ⟨by rw [hnone.out]; rfl, rfl⟩

end Go.Proofs.Qxb6616484a
