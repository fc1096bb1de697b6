/-
  Seat b6618977a: slices.Concat of two rows.
-/
import Derived.Test.Qxb6618977aOwn
namespace Go.Proofs.Qxb6618977a
open Go.RowKit

/-- What has been put together behind k of the two rows. -/
def part (xs ys : List (Int × Bool)) : Nat → List (Int × Bool)
  | 0 => []
  | 1 => xs
  | _ => xs ++ ys

theorem row_slice {w : World} {v : Value} {zs : List (Int × Bool)} (h : Row w v zs) : ∃ a c, v = .slice a zs.length c := by
  rcases h with ⟨a, c, rfl, rfl, _⟩ | ⟨b, off, c, rfl, _⟩
  · exact ⟨a, c, rfl⟩
  · exact ⟨_, c, rfl⟩

/-- One append more: what is owned, and what lies below, behind it. -/
theorem below_append {B : Nat} {w0 w w' : World} {v : Value} {n : Nat} {cs : List Value} (hb : Below B w0 w) (hB : B ≤ w.heap.size) (ho : w.ownsRow B 47 5 v n cs) (hg : w.grownBy w' v.ownBlock) : Below B w0 w' :=
  hb.grown hg hB fun k hk => (ho.lt k hk).1

set_option maxHeartbeats 1000000 in
theorem concat_rows (B : Nat) (v1 v2 : Value) (xs ys : List (Int × Bool)) (w : World) (h1 : Row w v1 xs) (h2 : Row w v2 ys) (hbig : xs.length + ys.length ≤ 1048576) (hB : B < w.heap.size)
    (c1 : w.cell? ⟨B, 0, none⟩ = some v1) (c2 : w.cell? ⟨B, 1, none⟩ = some v2) :
    Calls Try.prog 12 #[.slice (some ⟨B, 0, none⟩) 2 2] w fun e w' => ∃ v, e = .returned v ∧ Row w' v (xs ++ ys) ∧ Below w.heap.size w w' := by
  obtain ⟨a1, k1, e1⟩ := row_slice h1
  obtain ⟨a2, k2, e2⟩ := row_slice h2
  have HR1 : Hid (Row w (.slice a1 xs.length k1) xs) := by rw [← e1]; exact h1
  have HR2 : Hid (Row w (.slice a2 ys.length k2) ys) := by rw [← e2]; exact h2
  rw [e1] at c1
  rw [e2] at c2
  clear h1 h2 e1 e2
  go_enter Try.func12, Try.ntmps12
  go_wp2
  go_loop [3, 5, 11] (fun s _ i => (i = .int .i64 0 ∧ s = .int .i64 0) ∨ (i = .int .i64 1 ∧ s = .int .i64 xs.length) ∨ (i = .int .i64 2 ∧ s = .int .i64 ((xs.length : Int) + ys.length))) (fun _ _ i => 2 - (intOf i).toNat)
  case atStart => exact .inl ⟨rfl, rfl⟩
  case round =>
    rcases hrel with ⟨rfl, rfl⟩ | ⟨rfl, rfl⟩ | ⟨rfl, rfl⟩
    · go_wp2
      go_round
      case rel => exact .inr (.inl ⟨by go_num, by go_num⟩)
      case measure => simp [intOf]
    · go_wp2
      go_round
      case rel => exact .inr (.inr ⟨by go_num, by go_num⟩)
      case measure => simp [intOf]
    · have hgrow := grow_any (xs.length + ys.length) w hbig
      rw [show ((xs.length + ys.length : Nat) : Int) = (xs.length : Int) + ys.length by omega] at hgrow
      go_wp2_with (go_at_call 15; refine hgrow.mono ?_; rintro e w1 ⟨v, rfl, hown, hb1⟩)
      have HO : Hid (w1.ownsRow w.heap.size 47 5 v ([] : List (Int × Bool)).length (cellsS [])) := hown
      have HB : Hid (Below w.heap.size w w1) := hb1
      clear hown hb1 hgrow
      go_loopg [6, 8, 27] 2 (fun gg v6 _ i wr => Hid (Below w.heap.size w wr) ∧ ((gg = 2 ∧ i = .int .i64 0 ∧ Hid (wr.ownsRow w.heap.size 47 5 v6 ([] : List (Int × Bool)).length (cellsS []))) ∨
        (gg = 1 ∧ i = .int .i64 1 ∧ Hid (wr.ownsRow w.heap.size 47 5 v6 xs.length (cellsS xs))) ∨ (gg = 0 ∧ i = .int .i64 2 ∧ Hid (wr.ownsRow w.heap.size 47 5 v6 (xs ++ ys).length (cellsS (xs ++ ys))))))
      case atStart => exact ⟨HB, .inl ⟨rfl, rfl, HO⟩⟩
      case round =>
        clear HO HB
        obtain ⟨HB, hrel⟩ := hrel
        have d1 := (HB.out.cell (p := ⟨B, 0, none⟩) hB).trans c1
        have d2 := (HB.out.cell (p := ⟨B, 1, none⟩) hB).trans c2
        clear c1 c2
        rcases hrel with ⟨rfl, rfl, HO⟩ | ⟨rfl, rfl, HO⟩ | ⟨rfl, rfl, HO⟩
        · go_wp2_with (at_builtin; refine wpList_append_rows _ rfl _ _ rfl w.heap.size _ [] (.slice a1 xs.length k1) xs rfl rfl HO.out (HR1.out.below HB.out) (by simp; omega) HB.out.size ?_; intro v' w2 ho hg)
          go_roundg 1
          case measure => omega
          case rel => exact ⟨below_append HB.out HB.out.size HO.out hg, .inr (.inl ⟨rfl, by go_num, ho⟩)⟩
        · go_wp2_with (at_builtin; refine wpList_append_rows _ rfl _ _ rfl w.heap.size _ xs (.slice a2 ys.length k2) ys rfl rfl HO.out (HR2.out.below HB.out) hbig HB.out.size ?_; intro v' w2 ho hg)
          go_roundg 0
          case measure => omega
          case rel => exact ⟨below_append HB.out HB.out.size HO.out hg, .inr (.inr ⟨rfl, by go_num, ho⟩)⟩
        · go_wp2
          go_ret
          exact ⟨_, rfl, row_of_owns HO.out, HB.out⟩

end Go.Proofs.Qxb6618977a
