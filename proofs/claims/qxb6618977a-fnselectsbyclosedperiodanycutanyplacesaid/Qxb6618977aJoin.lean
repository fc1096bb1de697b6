/-
  Seat b6618977a: zzConcatSelections.
-/
import Derived.Test.Qxb6618977aMade
namespace Go.Proofs.Qxb6618977a
open Go.RowKit

/-- One selection, in a block of its own: what 'append(out, a[i])' lays first. -/
theorem row_one (w : World) (x : Int × Bool) : Row (w.alloc (.cells #[.int .u8 1, .int .i64 0, .int .i64 x.1, .map none, .bool x.2] 47)) (.slice (some ⟨w.heap.size, 0, none⟩) 1 1) [x] := by
  refine .inr ⟨w.heap.size, 0, 1, rfl, by simp, by simp, by simp, fun j hj => ?_⟩
  obtain rfl : j = 0 := by simpa using hj
  simp

theorem row_get {w : World} {a : Option Addr} {c : Nat} {zs : List (Int × Bool)} (h : Row w (.slice a zs.length c) zs) (k : Nat) (hk : k < zs.length) :
    ∃ b off, a = some ⟨b, off, none⟩ ∧ b < w.heap.size ∧ w.cell? ⟨b, off + k * 5, none⟩ = some (.int .u8 1) ∧ w.cell? ⟨b, off + k * 5 + 1, none⟩ = some (.int .i64 0) ∧ w.cell? ⟨b, off + k * 5 + 2, none⟩ = some (.int .i64 zs[k]!.1) ∧
      w.cell? ⟨b, off + k * 5 + 3, none⟩ = some (.map none) ∧ w.cell? ⟨b, off + k * 5 + 4, none⟩ = some (.bool zs[k]!.2) := by
  rcases h with ⟨_, _, _, rfl, _⟩ | ⟨b, off, c', hv, _, _, hlt, hc⟩
  · simp at hk
  · simp only [Value.slice.injEq] at hv
    exact ⟨b, off, hv.1, hlt, hc k hk⟩

theorem take_step (zs : List (Int × Bool)) (k : Nat) (hk : k < zs.length) (x : Int × Bool) (hx : zs[k]! = x) : zs.take (k + 1) = zs.take k ++ [x] := by
  rw [List.take_succ_eq_append_getElem hk, ← hx, getElem!_pos zs k hk]

set_option maxHeartbeats 2000000 in
theorem join_rows (v1 v2 : Value) (xs ys : List (Int × Bool)) (w : World) (h1 : Row w v1 xs) (h2 : Row w v2 ys) (hbig : xs.length + ys.length ≤ 1048576) :
    Calls Try.prog 7 #[v1, v2] w fun e w' => ∃ v, e = .returned v ∧ Row w' v (xs ++ ys) ∧ Below w.heap.size w w' := by
  obtain ⟨a1, k1, rfl⟩ := row_slice h1
  obtain ⟨a2, k2, rfl⟩ := row_slice h2
  have G1 : Hid (∀ k, k < xs.length → ∃ b off, a1 = some ⟨b, off, none⟩ ∧ b < w.heap.size ∧ w.cell? ⟨b, off + k * 5, none⟩ = some (.int .u8 1) ∧ w.cell? ⟨b, off + k * 5 + 1, none⟩ = some (.int .i64 0) ∧ w.cell? ⟨b, off + k * 5 + 2, none⟩ = some (.int .i64 xs[k]!.1) ∧
      w.cell? ⟨b, off + k * 5 + 3, none⟩ = some (.map none) ∧ w.cell? ⟨b, off + k * 5 + 4, none⟩ = some (.bool xs[k]!.2)) := row_get h1
  have G2 : Hid (∀ k, k < ys.length → ∃ b off, a2 = some ⟨b, off, none⟩ ∧ b < w.heap.size ∧ w.cell? ⟨b, off + k * 5, none⟩ = some (.int .u8 1) ∧ w.cell? ⟨b, off + k * 5 + 1, none⟩ = some (.int .i64 0) ∧ w.cell? ⟨b, off + k * 5 + 2, none⟩ = some (.int .i64 ys[k]!.1) ∧
      w.cell? ⟨b, off + k * 5 + 3, none⟩ = some (.map none) ∧ w.cell? ⟨b, off + k * 5 + 4, none⟩ = some (.bool ys[k]!.2)) := row_get h2
  clear h1 h2
  obtain ⟨i0, hi, hz0, hz1, hz2⟩ := info_parts info47
  have hb2 : i0.bytes * (xs.length + ys.length) ≤ 281474976710656 := by rw [hz2]; omega
  go_enter Try.func7, Try.ntmps7
  go_wp2_with (at_make; refine wpList_make_own _ rfl _ _ 25 rfl w.heap.size 47 i0 zeroSel 5 Try.underlying25 hi hz0 hz1 _ _ _ (xs.length + ys.length) rfl rfl (by omega) hb2 (by unfold maxLen; omega) (Nat.le_refl _) ?_; intro w1 ho hg)
  have HB : Hid (Below w.heap.size w w1) := (Below.refl _ w).grown hg (Nat.le_refl _) (fun k hk => by cases hk)
  have HO : Hid (w1.ownsRow w.heap.size 47 5 (.slice (some ⟨w.heap.size, 0, none⟩) 0 (xs.length + ys.length)) (xs.take 0).length (cellsS (xs.take 0))) := ho
  clear ho hg hi hz0 hz1 hz2 hb2
  obtain ⟨n, hn⟩ : ∃ n, n = xs.length := ⟨_, rfl⟩
  have HN : Hid (n = xs.length) := hn
  obtain ⟨m, hm⟩ : ∃ m, m = ys.length := ⟨_, rfl⟩
  have HMm : Hid (m = ys.length) := hm
  rw [← hn, ← hm] at hbig HO ⊢
  clear hn hm
  go_loopg [5, 6] n (fun gg v5 i wr => ∃ k : Nat, k ≤ n ∧ n - k ≤ gg ∧ i = .int .i64 k ∧ Hid (wr.ownsRow w.heap.size 47 5 v5 (xs.take k).length (cellsS (xs.take k))) ∧ Hid (Below w.heap.size w wr))
  case atStart => exact ⟨0, Nat.zero_le _, by omega, rfl, HO, HB⟩
  case round =>
    clear HO HB
    obtain ⟨k, hk, hg, rfl, HO, HB⟩ := hrel
    by_cases hlt : k < n
    · have hltz : (k : Int) < (n : Int) := by omega
      obtain ⟨b, off, rfl, hb, c0, c1, c2, c3, c4⟩ := G1.out k (by rw [← HN.out]; omega)
      have d0 := (HB.out.cell (p := ⟨b, off + k * 5, none⟩) hb).trans c0
      have d1 := (HB.out.cell (p := ⟨b, off + k * 5 + 1, none⟩) hb).trans c1
      have d2 := (HB.out.cell (p := ⟨b, off + k * 5 + 2, none⟩) hb).trans c2
      have d3 := (HB.out.cell (p := ⟨b, off + k * 5 + 3, none⟩) hb).trans c3
      have d4 := (HB.out.cell (p := ⟨b, off + k * 5 + 4, none⟩) hb).trans c4
      generalize hy : xs[k]! = y at d2 d4
      obtain ⟨d, f⟩ := y
      simp only at d2 d4
      have HT : Hid (xs.take (k + 1) = xs.take k ++ [(d, f)]) := take_step xs k (by rw [← HN.out]; omega) _ hy
      have hlen : Hid ((xs.take k).length + [(d, f)].length ≤ 1048576) := by show (xs.take k).length + [(d, f)].length ≤ 1048576; simp; omega
      clear c0 c1 c2 c3 c4 hy
      go_wp2_with (at_builtin; refine wpList_append_rows _ rfl _ _ rfl w.heap.size _ (xs.take k) _ [(d, f)] rfl rfl (HO.out.alloc _) (row_one wr (d, f)) hlen.out (by have := HB.out.size; simp; omega) ?_; intro v' w2 ho hg2)
      go_roundg (n - (k + 1))
      case measure => omega
      case rel => exact ⟨k + 1, by omega, by omega, by go_num, (by rw [HT.out]; exact ho), below_append (HB.out.alloc HB.out.size _) (by have := HB.out.size; simp; omega) (HO.out.alloc _) hg2⟩
    · have hltz : ¬ (k : Int) < (n : Int) := by omega
      have : k = n := by omega
      subst this
      have HX : Hid (xs.take k = xs) := by show xs.take k = xs; rw [HN.out]; exact List.take_length
      go_wp2
      go_loopg [5, 7] m (fun gg v5 i wr => ∃ j : Nat, j ≤ m ∧ m - j ≤ gg ∧ i = .int .i64 j ∧ Hid (wr.ownsRow w.heap.size 47 5 v5 (xs ++ ys.take j).length (cellsS (xs ++ ys.take j))) ∧ Hid (Below w.heap.size w wr))
      case atStart => exact ⟨0, Nat.zero_le _, by omega, rfl, (by have h := HO.out; rw [HX.out] at h; simpa [Hid] using h), HB⟩
      case round =>
        clear HO HB
        obtain ⟨j, hj, hg', rfl, HO, HB⟩ := hrel
        by_cases hlt2 : j < m
        · have hltz2 : (j : Int) < (m : Int) := by omega
          obtain ⟨b, off, rfl, hb, c0, c1, c2, c3, c4⟩ := G2.out j (by rw [← HMm.out]; omega)
          have d0 := (HB.out.cell (p := ⟨b, off + j * 5, none⟩) hb).trans c0
          have d1 := (HB.out.cell (p := ⟨b, off + j * 5 + 1, none⟩) hb).trans c1
          have d2 := (HB.out.cell (p := ⟨b, off + j * 5 + 2, none⟩) hb).trans c2
          have d3 := (HB.out.cell (p := ⟨b, off + j * 5 + 3, none⟩) hb).trans c3
          have d4 := (HB.out.cell (p := ⟨b, off + j * 5 + 4, none⟩) hb).trans c4
          generalize hy : ys[j]! = y at d2 d4
          obtain ⟨d, f⟩ := y
          simp only at d2 d4
          have HT : Hid (ys.take (j + 1) = ys.take j ++ [(d, f)]) := take_step ys j (by rw [← HMm.out]; omega) _ hy
          have hlen : Hid ((xs ++ ys.take j).length + [(d, f)].length ≤ 1048576) := by show (xs ++ ys.take j).length + [(d, f)].length ≤ 1048576; have := HN.out; simp; omega
          clear c0 c1 c2 c3 c4 hy
          go_wp2_with (at_builtin; refine wpList_append_rows _ rfl _ _ rfl w.heap.size _ (xs ++ ys.take j) _ [(d, f)] rfl rfl (HO.out.alloc _) (row_one wr (d, f)) hlen.out (by have := HB.out.size; simp; omega) ?_; intro v' w2 ho hg2)
          go_roundg (m - (j + 1))
          case measure => omega
          case rel => exact ⟨j + 1, by omega, by omega, by go_num, (by rw [HT.out, ← List.append_assoc]; exact ho), below_append (HB.out.alloc HB.out.size _) (by have := HB.out.size; simp; omega) (HO.out.alloc _) hg2⟩
        · have hltz2 : ¬ (j : Int) < (m : Int) := by omega
          have : j = m := by omega
          subst this
          have HY : Hid (ys.take j = ys) := by show ys.take j = ys; rw [HMm.out]; exact List.take_length
          go_wp2
          go_ret
          exact ⟨_, rfl, row_of_owns (by have h := HO.out; rw [HY.out] at h; exact h), HB.out⟩

end Go.Proofs.Qxb6618977a
