/-
  Seat b6618977a: (*Limit).SelectsByClosedPeriod.
-/
import Derived.Test.Qxb6618977aConcat
import Derived.Deep.RegionWith
namespace Go.Proofs.Qxb6618977a
open Go.RowKit

set_option maxHeartbeats 1000000 in
theorem selects_any (p : Nat) (v1 v2 : Value) (xs ys : List (Int × Bool)) (w : World) (h1 : Row w v1 xs) (h2 : Row w v2 ys) (hbig : xs.length + ys.length ≤ 1048576)
    (c1 : w.cell? ⟨p, 2, none⟩ = some v1) (c2 : w.cell? ⟨p, 4, none⟩ = some v2) :
    Calls Try.prog 8 #[.pointer (some ⟨p, 0, none⟩)] w fun e w' => e = .returned (.bool ((xs ++ ys).any (·.2))) ∧ Below w.heap.size w w' := by
  obtain ⟨a1, k1, rfl⟩ := row_slice h1
  obtain ⟨a2, k2, rfl⟩ := row_slice h2
  have hb : Below w.heap.size w (w.alloc (.cells #[.slice a1 xs.length k1, .slice a2 ys.length k2] 25)).drew := ((Below.refl _ w).alloc (Nat.le_refl _) _).drew
  have hC : Calls Try.prog 12 #[.slice (some ⟨w.heap.size, 0, none⟩) 2 2] (w.alloc (.cells #[.slice a1 xs.length k1, .slice a2 ys.length k2] 25)).drew fun e w' => ∃ v, e = .returned v ∧ Row w' v (xs ++ ys) ∧ Below w.heap.size w w' :=
    (concat_rows w.heap.size _ _ xs ys _ (h1.below hb) (h2.below hb) hbig (by simp) (by simp) (by simp)).mono fun e w' ⟨v, he, hr, hb'⟩ => ⟨v, he, hr, hb.trans (hb'.mono (by simp))⟩
  clear hb
  have hF : ∀ (v : Value) (W : World), Hid (Row W v (xs ++ ys)) → Calls Try.prog 11 #[v, .func (.func 13) #[] #[]] W fun e w' => e = .returned (.bool ((xs ++ ys).any (·.2))) ∧ Below W.heap.size W w' := fun v W h => containsFunc_row v _ W (by simpa using hbig) h.out
  clear h1 h2
  generalize (xs ++ ys).any (·.2) = r at hF ⊢
  obtain ⟨zs, hzs⟩ : ∃ zs, zs = xs ++ ys := ⟨_, rfl⟩
  rw [← hzs] at hC hF
  clear hzs
  go_enter Try.func8, Try.ntmps8
  go_wp2
  go_region_with (first
    | (go_at_call 12; refine hC.mono ?_; rintro e w1 ⟨v, rfl, hr, hb⟩; have HR : Hid (Row w1 v zs) := hr; have HB : Hid (Below w.heap.size w w1) := hb; clear hr hb)
    | (go_at_call 11; refine (hF _ _ (by assumption)).mono ?_; rintro e w2 ⟨rfl, hb2⟩))
  all_goals (go_wp2; go_ret; exact ⟨rfl, HB.out.trans (hb2.mono HB.out.size)⟩)

end Go.Proofs.Qxb6618977a
