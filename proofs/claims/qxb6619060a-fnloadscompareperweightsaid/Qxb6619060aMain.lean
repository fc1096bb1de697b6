/-
  Seat b6619060a: the law's own walk.
-/
import Derived.Test.Qxb6619060aLoads
import Derived.Laws.CopyOwn
namespace Go.Proofs.Qxb6619060a
open Go.RowKit

theorem info2 : (Try.prog.info? 2).map (fun i => (i.zero, i.size, i.bytes)) = some (some (.int .i64 0), 1, 8) := by kernel_rfl
theorem size2 : (Try.prog.info? 2).map (·.size) = some 1 := by kernel_rfl

/-- The copy of the counts: what it leaves. -/
theorem copy_fact (w w1 : World) (b off n c : Nat) (zs : List Int) (cs0 : List Value) (hz : n ≤ zs.length) (hc : ∀ k, k < zs.length → w.cell? ⟨b, off + k, none⟩ = some (.int .i64 (zs.getD k 0)))
    (ho : w1.ownsRow w.heap.size 2 1 (.slice (some ⟨w.heap.size, 0, none⟩) n n) n cs0) (hg : w.grownBy w1 none) :
    ∃ w2, (∀ ty, (Builtin.copy_ #[22, 22] ty #[.slice (some ⟨w.heap.size, 0, none⟩) n n, .slice (some ⟨b, off, none⟩) n c]).run Try.prog w1 = .ok (goInt n) w2) ∧ Below w.heap.size w w2 ∧ w.heap.size < w2.heap.size ∧
      ∀ k, k < n → w2.cell? ⟨w.heap.size, k, none⟩ = some (.int .i64 (zs.getD k 0)) := by
  have hB1 : Below w.heap.size w w1 := (Below.refl _ w).grown hg (Nat.le_refl _) (fun k hk => by cases hk)
  have hlt := (ho.lt w.heap.size rfl).2
  rcases ho.2 with ⟨h, _⟩ | ⟨g, cap, cur, hv, _, hgg, hnc, hcm, hcs, _⟩
  · cases h
  · simp only [Value.slice.injEq, Option.some.injEq, Addr.mk.injEq, and_true, true_and] at hv
    obtain ⟨rfl, rfl⟩ := hv
    have hl : ((zs.take n).map (Value.int .i64)).length = n := by simp; omega
    have hsrc : ∀ j v, ((zs.take n).map (Value.int .i64))[j]? = some v → w1.cell? ((⟨b, off, none⟩ : Addr).add j) = some v := by
      intro j v hv
      have hj : j < n := by have := (List.getElem?_eq_some_iff.1 hv).1; rwa [hl] at this
      rw [Addr.add_lit]
      refine cell_later hB1 ?_
      rw [hc j (by omega), ← hv]
      simp [hj, List.getD, show j < zs.length by omega]
    refine ⟨w1.setRow w.heap.size (cur.toList.take 0 ++ (zs.take n).map (Value.int .i64) ++ cur.toList.drop (0 + ((zs.take n).map (Value.int .i64)).length)).toArray, fun ty => ?_, below_setRow hB1 (Nat.le_refl _) _, by simpa using hlt, fun k hk => ?_⟩
    · have := run_copy_row (P := Try.prog) w1 22 22 ty 2 w.heap.size 0 n n ⟨b, off, none⟩ n c cur 2 ((zs.take n).map (Value.int .i64)) Try.underlying22 size2 hgg (by rw [hl]; simp) hsrc (by rw [hl]; omega) (ints_oneCell _ _)
      rw [hl] at this
      rw [this, hl]
    · rw [cell_of_row _ _ _ _ _ _ (setRow_heap w1 w.heap.size cur _ 2 (0, 0) hgg)]
      rw [List.getElem?_toArray, List.take_zero, List.nil_append, List.getElem?_append_left (by rw [hl]; exact hk)]
      simp [List.getD, hk, show k < zs.length by omega]

theorem mul_fits {x v : Int} (hx : 0 ≤ x) (hv : 1 ≤ v) (h : x ≤ 9223372036854775807 / v) : 0 ≤ x * v ∧ x * v ≤ 9223372036854775807 :=
  ⟨Int.mul_nonneg hx (by omega), (Int.le_ediv_iff_mul_le (by omega)).1 h⟩

set_option maxHeartbeats 4000000 in
theorem main_core (b off n c i j : Nat) (zs : List Int) (x y wi wj : Int) (w : World) (hn : n ≤ 131072) (hi : i < n) (hj : j < n) (hz : n ≤ zs.length)
    (hc : ∀ k, k < zs.length → w.cell? ⟨b, off + k, none⟩ = some (.int .i64 (zs.getD k 0))) (hx : zs.getD i 0 = x) (hy : zs.getD j 0 = y)
    (k1 : 1 ≤ wi) (k2 : wi ≤ 9223372036854775807) (k3 : 1 ≤ wj) (k4 : wj ≤ 9223372036854775807) :
    Calls Try.prog 3 #[.slice (some ⟨b, off, none⟩) n c, .int .i64 i, .int .i64 j, .int .u64 wi, .int .u64 wj] w fun e w' => e = .returned (.bool true) ∧ Below w.heap.size w w' := by
  have q22 : ∀ (w : World) (a : Option Addr) (n c n' c' : Nat), (binOp .neq 22 (.slice a n c) (.slice none n' c')).run Try.prog w = .ok (.bool (!a.isNone)) w := fun w a n c n' c' => run_neq_slice_nil_any w _ _ a n c n' c' Try.underlying22
  have hbytes := bytes_any (some ⟨b, off, none⟩) n c i j wi wj w (by unfold maxLen; omega)
  obtain ⟨i0, hI, hz0, hz1, hz2⟩ := info_parts info2
  have hb2 : i0.bytes * n ≤ 281474976710656 := by rw [hz2]; omega
  have hi' : (i : Int) < (n : Int) := by omega
  have hj' : (j : Int) < (n : Int) := by omega
  have hi0 : (0 : Int) ≤ (i : Int) := by omega
  have hj0 : (0 : Int) ≤ (j : Int) := by omega
  have e1 : (wi == 0) = false := by simp; omega
  have e2 : (wj == 0) = false := by simp; omega
  have HCF : Hid (∀ (w1 : World) (cs0 : List Value), w1.ownsRow w.heap.size 2 1 (.slice (some ⟨w.heap.size, 0, none⟩) n n) n cs0 → w.grownBy w1 none →
    ∃ w2, (∀ ty, (Builtin.copy_ #[22, 22] ty #[.slice (some ⟨w.heap.size, 0, none⟩) n n, .slice (some ⟨b, off, none⟩) n c]).run Try.prog w1 = .ok (goInt n) w2) ∧ Below w.heap.size w w2 ∧ w.heap.size < w2.heap.size ∧
      w2.cell? ⟨w.heap.size, i, none⟩ = some (.int .i64 x) ∧ w2.cell? ⟨w.heap.size, j, none⟩ = some (.int .i64 y)) := by
    intro w1 cs0 ho hg
    obtain ⟨w2, hcp, hB2, hlt2, hcell⟩ := copy_fact w w1 b off n c zs _ hz hc ho hg
    exact ⟨w2, hcp, hB2, hlt2, by rw [hcell i hi, hx], by rw [hcell j hj, hy]⟩
  clear hc hx hy hz
  by_cases hx0 : x < 0
  · go_enter Try.func3, Try.ntmps3
    go_wp2_with fail
    refine hbytes.mono ?_
    rintro e w' ⟨⟨r, rfl⟩, hw⟩
    obtain rfl := hw
    cases r with
    | false => go_wp2; go_ret; exact ⟨rfl, Below.refl _ _⟩
    | true =>
      clear hbytes
      go_wp2_with (at_make; refine wpList_make_full _ rfl _ _ 22 rfl w.heap.size 2 i0 (.int .i64 0) 1 Try.underlying22 hI hz0 hz1 _ _ _ _ n rfl rfl rfl rfl hb2 (by unfold maxLen; omega) (Nat.le_refl _) ?_; intro w1 ho hg; obtain ⟨w2, hcp, hB2, hlt2, ci, cj⟩ := HCF.out w1 _ ho hg; have HB : Hid (Below w.heap.size w w2) := hB2; clear ho hg hB2)
      go_ret
      exact ⟨rfl, HB.out⟩
  by_cases hy0 : y < 0
  · go_enter Try.func3, Try.ntmps3
    go_wp2_with fail
    refine hbytes.mono ?_
    rintro e w' ⟨⟨r, rfl⟩, hw⟩
    obtain rfl := hw
    cases r with
    | false => go_wp2; go_ret; exact ⟨rfl, Below.refl _ _⟩
    | true =>
      clear hbytes
      go_wp2_with (at_make; refine wpList_make_full _ rfl _ _ 22 rfl w.heap.size 2 i0 (.int .i64 0) 1 Try.underlying22 hI hz0 hz1 _ _ _ _ n rfl rfl rfl rfl hb2 (by unfold maxLen; omega) (Nat.le_refl _) ?_; intro w1 ho hg; obtain ⟨w2, hcp, hB2, hlt2, ci, cj⟩ := HCF.out w1 _ ho hg; have HB : Hid (Below w.heap.size w w2) := hB2; clear ho hg hB2)
      go_ret
      exact ⟨rfl, HB.out⟩
  by_cases hxm : 9223372036854775807 / wj < x
  · go_enter Try.func3, Try.ntmps3
    go_wp2_with fail
    refine hbytes.mono ?_
    rintro e w' ⟨⟨r, rfl⟩, hw⟩
    obtain rfl := hw
    cases r with
    | false => go_wp2; go_ret; exact ⟨rfl, Below.refl _ _⟩
    | true =>
      clear hbytes
      go_wp2_with (at_make; refine wpList_make_full _ rfl _ _ 22 rfl w.heap.size 2 i0 (.int .i64 0) 1 Try.underlying22 hI hz0 hz1 _ _ _ _ n rfl rfl rfl rfl hb2 (by unfold maxLen; omega) (Nat.le_refl _) ?_; intro w1 ho hg; obtain ⟨w2, hcp, hB2, hlt2, ci, cj⟩ := HCF.out w1 _ ho hg; have HB : Hid (Below w.heap.size w w2) := hB2; clear ho hg hB2)
      go_ret
      exact ⟨rfl, HB.out⟩
  have hxM : x ≤ 9223372036854775807 := by have := Int.ediv_le_self (a := 9223372036854775807) wj (by omega); omega
  by_cases hym : 9223372036854775807 / wi < y
  · go_enter Try.func3, Try.ntmps3
    go_wp2_with fail
    refine hbytes.mono ?_
    rintro e w' ⟨⟨r, rfl⟩, hw⟩
    obtain rfl := hw
    cases r with
    | false => go_wp2; go_ret; exact ⟨rfl, Below.refl _ _⟩
    | true =>
      clear hbytes
      go_wp2_with (at_make; refine wpList_make_full _ rfl _ _ 22 rfl w.heap.size 2 i0 (.int .i64 0) 1 Try.underlying22 hI hz0 hz1 _ _ _ _ n rfl rfl rfl rfl hb2 (by unfold maxLen; omega) (Nat.le_refl _) ?_; intro w1 ho hg; obtain ⟨w2, hcp, hB2, hlt2, ci, cj⟩ := HCF.out w1 _ ho hg; have HB : Hid (Below w.heap.size w w2) := hB2; clear ho hg hB2)
      go_ret
      exact ⟨rfl, HB.out⟩
  · have hyM : y ≤ 9223372036854775807 := by have := Int.ediv_le_self (a := 9223372036854775807) wi (by omega); omega
    obtain ⟨X, hX⟩ : ∃ X, x * wj = X := ⟨_, rfl⟩
    obtain ⟨Y, hY⟩ : ∃ Y, y * wi = Y := ⟨_, rfl⟩
    obtain ⟨X1, X2⟩ := mul_fits (x := x) (by omega) k3 (by omega)
    obtain ⟨Y1, Y2⟩ := mul_fits (x := y) (by omega) k1 (by omega)
    rw [hX] at X1 X2
    rw [hY] at Y1 Y2
    have HX : Hid (x * wj = X) := hX
    have HY : Hid (y * wi = Y) := hY
    clear hX hY
    go_enter Try.func3, Try.ntmps3
    go_wp2_with fail
    refine hbytes.mono ?_
    rintro e w' ⟨⟨r, rfl⟩, hw⟩
    obtain rfl := hw
    cases r with
    | false => go_wp2; go_ret; exact ⟨rfl, Below.refl _ _⟩
    | true =>
      clear hbytes
      go_wp2_with (at_make; refine wpList_make_full _ rfl _ _ 22 rfl w.heap.size 2 i0 (.int .i64 0) 1 Try.underlying22 hI hz0 hz1 _ _ _ _ n rfl rfl rfl rfl hb2 (by unfold maxLen; omega) (Nat.le_refl _) ?_; intro w1 ho hg; obtain ⟨w2, hcp, hB2, hlt2, ci, cj⟩ := HCF.out w1 _ ho hg; have HB : Hid (Below w.heap.size w w2) := hB2; clear ho hg hB2)
      have h6 := zzloads_any w.heap.size 0 n n i j x y wi wj w2 hi hj (by rw [Nat.zero_add]; exact ci) (by rw [Nat.zero_add]; exact cj) k1 k2 k3 k4 (by rw [HX.out]; exact X1) (by rw [HX.out]; exact X2) (by rw [HY.out]; exact Y1) (by rw [HY.out]; exact Y2)
      rw [HX.out, HY.out] at h6
      refine h6.mono ?_
      rintro e w3 ⟨rfl, b3⟩
      have ci3 := (b3.cell (p := ⟨w.heap.size, i, none⟩) hlt2).trans ci
      have cj3 := (b3.cell (p := ⟨w.heap.size, j, none⟩) hlt2).trans cj
      have HB3 : Hid (Below w.heap.size w w3) := HB.out.trans (b3.mono HB.out.size)
      clear h6 b3 ci cj hcp hlt2 HB
      go_wp2_with fail
      have h6 := zzloads_any w.heap.size 0 n n j i y x wj wi w3 hj hi (by rw [Nat.zero_add]; exact cj3) (by rw [Nat.zero_add]; exact ci3) k3 k4 k1 k2 (by rw [HY.out]; exact Y1) (by rw [HY.out]; exact Y2) (by rw [HX.out]; exact X1) (by rw [HX.out]; exact X2)
      rw [HX.out, HY.out] at h6
      refine h6.mono ?_
      rintro e w4 ⟨rfl, b4⟩
      have HB4 : Hid (Below w.heap.size w w4) := HB3.out.trans (b4.mono HB3.out.size)
      clear h6 b4 ci3 cj3 HB3
      have hf := cmpFrac_any x wi y wj w4 (by omega) (by omega) k1 (by omega) (by omega) (by omega) k3 (by omega)
      rw [show cmpF x wi y wj = sgn X Y from by unfold cmpF; rw [HX.out, HY.out]] at hf
      rcases Int.lt_trichotomy X Y with h | h | h
      · rw [sgn_lt h] at hf
        go_wp2_with (go_at_call 7; refine hf.mono ?_; rintro e w5 ⟨rfl, rfl⟩)
        go_ret
        exact ⟨rfl, HB4.out⟩
      · rw [sgn_eq h] at hf
        subst h
        go_wp2_with (go_at_call 7; refine hf.mono ?_; rintro e w5 ⟨rfl, rfl⟩)
        go_ret
        exact ⟨rfl, HB4.out⟩
      · rw [sgn_gt h] at hf
        go_wp2_with (go_at_call 7; refine hf.mono ?_; rintro e w5 ⟨rfl, rfl⟩)
        go_ret
        exact ⟨rfl, HB4.out⟩

end Go.Proofs.Qxb6619060a
