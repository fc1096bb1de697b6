/-
  Seat b6618977a: rows of selections that the call itself makes; append of one row to another; slices.Grow, slices.Concat.
-/
import Derived.Test.Qxb6618977aFunc
import Derived.Lib.AppendZeros
namespace Go.Proofs.Qxb6618977a
open Go.RowKit

/-- The zero selection. -/
def zeroSel : Value := .agg #[.int .u8 0, .int .i64 0, .int .i64 0, .map none, .bool false]

theorem info47 : (Try.prog.info? 47).map (fun i => (i.zero, i.size, i.bytes)) = some (some zeroSel, 5, 40) := by kernel_rfl

theorem length_cellsS (zs : List (Int × Bool)) : (cellsS zs).length = zs.length * 5 := by
  induction zs with
  | nil => rfl
  | cons x zs ih => simp only [cellsS, List.flatMap_cons, List.length_append, List.length_cons] at ih ⊢; rw [ih]; simp [encS]; omega

theorem cellsS_append (xs ys : List (Int × Bool)) : cellsS (xs ++ ys) = cellsS xs ++ cellsS ys := by simp [cellsS]

theorem cellsS_one (zs : List (Int × Bool)) : ∀ u ∈ cellsS zs, u.oneCell' = true := by
  intro u hu
  simp only [cellsS, List.mem_flatMap] at hu
  obtain ⟨x, _, hx⟩ := hu
  simp only [encS, List.mem_cons, List.not_mem_nil, or_false] at hx
  rcases hx with rfl | rfl | rfl | rfl | rfl <;> rfl

theorem cellsS_get (zs : List (Int × Bool)) (j i : Nat) (hi : i < 5) (hj : j < zs.length) : (cellsS zs)[j * 5 + i]? = (encS zs[j]!)[i]? := by
  induction zs generalizing j with
  | nil => simp at hj
  | cons x zs ih =>
    show (encS x ++ cellsS zs)[j * 5 + i]? = _
    cases j with
    | zero =>
      rw [List.getElem?_append_left (by simp [encS]; omega)]
      simp
    | succ j =>
      rw [List.getElem?_append_right (by simp [encS]; omega)]
      have e : (j + 1) * 5 + i - (encS x).length = j * 5 + i := by simp [encS]; omega
      rw [e, ih j (by simpa using hj)]
      simp

/-- What is owned reads as a row. -/
theorem row_of_owns {w : World} {base : Nat} {v : Value} {zs : List (Int × Bool)} (h : w.ownsRow base 47 5 v zs.length (cellsS zs)) : Row w v zs := by
  rcases h.2 with ⟨rfl, h0⟩ | ⟨g, cap, cur, rfl, hb, hg, hn, hm, hs, ht⟩
  · exact .inl ⟨none, 0, rfl, List.length_eq_zero_iff.1 h0, fun _ => rfl⟩
  · by_cases h0 : zs.length = 0
    · have := List.length_eq_zero_iff.1 h0
      subst this
      exact .inl ⟨some ⟨g, 0, none⟩, cap, rfl, rfl, fun h => by cases h⟩
    · refine .inr ⟨g, 0, cap, rfl, by omega, hn, (Array.getElem?_eq_some_iff.1 hg).1, fun j hj => ?_⟩
      have hc := fun i u hu => h.cells (g := g) rfl (j * 5 + i) u hu
      have hk := fun i hi => cellsS_get zs j i hi hj
      simp only [Addr.add_lit, Nat.zero_add] at hc
      refine ⟨?_, ?_, ?_, ?_, ?_⟩
      · have := hc 0 _ (by rw [hk 0 (by omega)]; rfl); simpa using this
      · have := hc 1 _ (by rw [hk 1 (by omega)]; rfl); simpa using this
      · have := hc 2 _ (by rw [hk 2 (by omega)]; rfl); simpa using this
      · have := hc 3 _ (by rw [hk 3 (by omega)]; rfl); simpa using this
      · have := hc 4 _ (by rw [hk 4 (by omega)]; rfl); simpa using this

/-- The cells of a row, as one list. -/
theorem cells_of_row {w : World} {b off : Nat} {zs : List (Int × Bool)}
    (hc : ∀ j, j < zs.length → w.cell? ⟨b, off + j * 5, none⟩ = some (.int .u8 1) ∧ w.cell? ⟨b, off + j * 5 + 1, none⟩ = some (.int .i64 0) ∧ w.cell? ⟨b, off + j * 5 + 2, none⟩ = some (.int .i64 zs[j]!.1) ∧
      w.cell? ⟨b, off + j * 5 + 3, none⟩ = some (.map none) ∧ w.cell? ⟨b, off + j * 5 + 4, none⟩ = some (.bool zs[j]!.2)) :
    ∀ j u, (cellsS zs)[j]? = some u → w.cell? ((⟨b, off, none⟩ : Addr).add j) = some u := by
  intro j u hu
  have hlt : j < zs.length * 5 := by rw [← length_cellsS]; exact (List.getElem?_eq_some_iff.1 hu).1
  have hq : j / 5 < zs.length := by omega
  have hr : j % 5 < 5 := Nat.mod_lt _ (by omega)
  have e : j = j / 5 * 5 + j % 5 := by omega
  obtain ⟨h0, h1, h2, h3, h4⟩ := hc (j / 5) hq
  rw [e, cellsS_get zs _ _ hr hq] at hu
  rw [Addr.add_lit, e, ← Nat.add_assoc]
  generalize j % 5 = r at hr hu ⊢
  generalize j / 5 = q at *
  match r, hr with
  | 0, _ => simp [encS] at hu; subst hu; exact h0
  | 1, _ => simp [encS] at hu; subst hu; exact h1
  | 2, _ => cases (show some (Value.int .i64 zs[q]!.1) = some u from hu); exact h2
  | 3, _ => simp [encS] at hu; subst hu; exact h3
  | 4, _ => cases (show some (Value.bool zs[q]!.2) = some u from hu); exact h4

/-- append(v, u...), v the call's own, u whatever row. -/
theorem run_append_rows (base : Nat) (ty : TypeId) (v : Value) (xs : List (Int × Bool)) (u : Value) (ys : List (Int × Bool)) (w : World) (hown : w.ownsRow base 47 5 v xs.length (cellsS xs)) (hrow : Row w u ys)
    (hbig : xs.length + ys.length ≤ 1048576) (hbase : base ≤ w.heap.size) :
    ∃ v' w', (Builtin.append_ #[25, 25] ty #[v, u]).run Try.prog w = .ok v' w' ∧ w'.ownsRow base 47 5 v' (xs ++ ys).length (cellsS (xs ++ ys)) ∧ w.grownBy w' v.ownBlock := by
  obtain ⟨i0, hi, hz0, hz1, hz2⟩ := info_parts info47
  rcases hrow with ⟨a, c, rfl, rfl, hac⟩ | ⟨b, off, c, rfl, h0, hcap, hlt, hc⟩
  · cases a with
    | none =>
      obtain rfl := hac rfl
      exact ⟨v, w, run_append_owned_none w base 25 ty 47 i0 5 Try.underlying25 hi v _ _ hown, by simpa using hown, World.grownBy.refl _ _⟩
    | some ad =>
      obtain ⟨v', w', hrun, ho, hg, _⟩ := run_append_own w base 25 ty 47 i0 zeroSel 5 40 Try.underlying25 hi hz0 hz1 hz2 rfl (by omega) v _ _ hown ad 0 c [] (by simp) (by simp) (by simp) (by unfold maxLen; simp at hbig; omega) (by simp at hbig; omega) hbase
      exact ⟨v', w', hrun, by simpa using ho, hg⟩
  · obtain ⟨v', w', hrun, ho, hg, _⟩ := run_append_own w base 25 ty 47 i0 zeroSel 5 40 Try.underlying25 hi hz0 hz1 hz2 rfl (by omega) v _ _ hown ⟨b, off, none⟩ ys.length c (cellsS ys) (length_cellsS ys) (cells_of_row hc) (cellsS_one ys) (by unfold maxLen; omega) (by omega) hbase
    exact ⟨v', w', hrun, by rw [List.length_append, cellsS_append]; exact ho, hg⟩

theorem wpList_append_rows {ops : Array Oper} {rest : List Oper} {o : Oper} {a : Act} {Q : Exit → Act → World → Prop} (w : World) (hgd : o.guard = none) (s x : Operand)
    (ho : o.op = .call { callee := .builtin .append, args := #[s, x], argTypes := #[25, 25] })
    (base : Nat) (v : Value) (xs : List (Int × Bool)) (u : Value) (ys : List (Int × Bool)) (hs : a.eval s = v) (hx : a.eval x = u) (hown : w.ownsRow base 47 5 v xs.length (cellsS xs)) (hrow : Row w u ys)
    (hbig : xs.length + ys.length ≤ 1048576) (hbase : base ≤ w.heap.size)
    (h : ∀ v' w', w'.ownsRow base 47 5 v' (xs ++ ys).length (cellsS (xs ++ ys)) → w.grownBy w' v.ownBlock → wpList Try.prog ops Q rest (a.put o.dst v') w') : wpList Try.prog ops Q (o :: rest) a w := by
  obtain ⟨v', w', hrun, h1, h2⟩ := run_append_rows base o.type v xs u ys w hown hrow hbig hbase
  exact Lib.wpList_append_run w hgd s x 25 25 ho v u hs hx v' w' hrun (h v' w' h1 h2)

/-- slices.Grow(nil, 0). -/
theorem grow_zero (w : World) :
    Calls Try.prog 15 #[.slice none 0 0, .int .i64 0] w fun e w' => e = .returned (.slice none 0 0) ∧ w' = w := by
  go_enter Try.func15, Try.ntmps15
  go_wp2
  go_ret
  exact ⟨rfl, rfl⟩

set_option maxHeartbeats 400000 in
/-- slices.Grow(nil, n), n at least one. -/
theorem grow_pos (n : Nat) (w : World) (h0 : 0 < n) (hn : n ≤ 1048576) :
    Calls Try.prog 15 #[.slice none 0 0, .int .i64 n] w fun e w' => ∃ G cur, e = .returned (.slice (some ⟨w.heap.size, 0, none⟩) 0 G) ∧ w' = w.drew.alloc (.cells cur 47) ∧ G ≤ maxLen ∧ cur.size = G * 5 := by
  obtain ⟨i0, hi, hz0, hz1, hz2⟩ := info_parts info47
  have hrz : ∀ ty, (Builtin.append_ #[25, 3] ty #[.slice none 0 0, .int .i64 (n : Int)]).run Try.prog w = .ok (.slice (some ⟨w.heap.size, 0, none⟩) n (grownCap w n 0 47)) (w.drew.alloc (.cells (Builtin.zeroCells zeroSel.cells n ++ Builtin.zeroCells zeroSel.cells (grownCap w n 0 47 - n)) 47)) := fun ty =>
    Lib.run_append_nil_zeros w 25 3 ty 47 i0 zeroSel .i64 .i64 Try.underlying25 Try.underlying3 hi hz0 n h0 (by omega) (by omega) (by rw [hz2]; omega)
  have hG : n ≤ grownCap w n 0 47 := grownCap_ge w _ _ _
  have hGm : grownCap w n 0 47 ≤ maxLen := grownCap_le_maxLen w n 0 47 (by unfold maxLen; omega)
  have hcs : (Builtin.zeroCells zeroSel.cells n ++ Builtin.zeroCells zeroSel.cells (grownCap w n 0 47 - n)).size = grownCap w n 0 47 * 5 := by
    rw [Array.size_append, size_zeroCells, size_zeroCells, show zeroSel.cells.size = 5 from rfl]; omega
  generalize grownCap w n 0 47 = G at hrz hG hGm hcs
  generalize Builtin.zeroCells zeroSel.cells n ++ Builtin.zeroCells zeroSel.cells (G - n) = cur at hrz hcs
  clear hi hz0 hz1 hz2
  have HG : Hid (G ≤ maxLen) := hGm
  have HS : Hid (cur.size = G * 5) := hcs
  unfold maxLen at hGm
  clear hcs
  go_enter Try.func15, Try.ntmps15
  go_wp2_with (at_builtin; refine Lib.wpList_append_run _ rfl _ _ _ _ rfl _ _ rfl rfl _ _ (hrz _) ?_)
  all_goals (go_ret; exact ⟨G, cur, rfl, rfl, HG.out, HS.out⟩)

/-- slices.Grow(nil, n). -/
theorem grow_any (n : Nat) (w : World) (hn : n ≤ 1048576) :
    Calls Try.prog 15 #[.slice none 0 0, .int .i64 n] w fun e w' => ∃ v, e = .returned v ∧ w'.ownsRow w.heap.size 47 5 v 0 [] ∧ Below w.heap.size w w' := by
  by_cases h0 : n = 0
  · subst h0
    exact (grow_zero w).mono fun e w' ⟨he, hw⟩ => ⟨_, he, World.ownsRow_nil _ _ _ _, hw ▸ Below.refl _ _⟩
  · exact (grow_pos n w (by omega) hn).mono fun e w' ⟨G, cur, he, hw, hG, hs⟩ => ⟨_, he, hw ▸ World.ownsRow_made w.drew cur G (Nat.le_refl _) hG hs, hw ▸ ((Below.refl _ w).drew.alloc (Nat.le_refl _) _)⟩

end Go.Proofs.Qxb6618977a
