/-
  Seat b6618977a: a row of selections that is made and filled one by one; zzCloneSelections.
-/
import Derived.Test.Qxb6618977aConcat
import Derived.Deep.MidRow
namespace Go.Proofs.Qxb6618977a
open Go.RowKit

/-- The call made block g, room for n selections; the first k are those of zs. -/
structure Made (w : World) (n : Nat) (zs : List (Int × Bool)) (k : Nat) (wr : World) : Prop where
  below : Below w.heap.size w wr
  lt : w.heap.size < wr.heap.size
  range : wr.rangeAt w.heap.size 0 (cellsS (zs.take k))
  there : wr.there w.heap.size 0 (n * 5)

theorem made_start {w w1 : World} {n : Nat} {zs : List (Int × Bool)} {cs : List Value} (h : w1.ownsRow w.heap.size 47 5 (.slice (some ⟨w.heap.size, 0, none⟩) n n) n cs) (hg : w.grownBy w1 none) : Made w n zs 0 w1 := by
  refine ⟨(Below.refl _ w).grown hg (Nat.le_refl _) (fun k hk => by cases hk), (h.lt w.heap.size rfl).2, fun j v hv => by simp [cellsS] at hv, fun j hj => ⟨?_, ?_⟩⟩
  · rw [Nat.zero_add, h.cellAt j hj]
    have := h.1
    simp [this, hj]
  · rw [Nat.zero_add]; exact h.frozenAt j

theorem below_setCells {B : Nat} {w0 : World} (g : Nat) (hg : B ≤ g) : ∀ (cs : List Value) (o : Nat) (w : World), Below B w0 w → Below B w0 (w.setCells g o cs)
  | [], _, _, h => h
  | v :: r, o, w, h => below_setCells g hg r (o + 1) (w.setCell ⟨g, o, none⟩ v) (h.setCell hg v)

theorem size_setCells (g : Nat) : ∀ (cs : List Value) (o : Nat) (w : World), (w.setCells g o cs).heap.size = w.heap.size
  | [], _, _ => rfl
  | v :: r, o, w => by
    show ((w.setCell ⟨g, o, none⟩ v).setCells g (o + 1) r).heap.size = _
    rw [size_setCells g r]; simp [World.setCell]

theorem rangeAt_append {w : World} {b o : Nat} {xs ys : List Value} (h1 : w.rangeAt b o xs) (h2 : w.rangeAt b (o + xs.length) ys) : w.rangeAt b o (xs ++ ys) := by
  intro j v hv
  by_cases hj : j < xs.length
  · rw [List.getElem?_append_left hj] at hv
    exact h1 j v hv
  · rw [List.getElem?_append_right (by omega)] at hv
    have := h2 _ v hv
    rw [show o + xs.length + (j - xs.length) = o + j by omega] at this
    exact this

theorem made_step {w wr : World} {n k : Nat} {zs : List (Int × Bool)} (h : Made w n zs k wr) (hk : k < zs.length) (hn : zs.length ≤ n) (x : Int × Bool) (hx : zs[k]! = x) : Made w n zs (k + 1) (wr.setCells w.heap.size (k * 5) (encS x)) := by
  have hl : (cellsS (zs.take k)).length = k * 5 := by rw [length_cellsS]; simp; omega
  refine ⟨below_setCells _ (Nat.le_refl _) _ _ _ h.below, by rw [size_setCells]; exact h.lt, ?_, World.there_setCells h.there _ _ _⟩
  rw [List.take_succ_eq_append_getElem hk, cellsS_append]
  refine rangeAt_append (World.rangeAt_setCells_apart h.range _ _ _ (.inr (.inl (by rw [hl]; omega)))) ?_
  rw [hl, Nat.zero_add]
  have e : cellsS [zs[k]] = encS x := by rw [← hx, getElem!_pos zs k hk]; simp [cellsS]
  rw [e]
  refine World.rangeAt_setCells_same _ _ _ _ (fun j hj => ?_)
  have := h.there (k * 5 + j) (by simp [encS] at hj; omega)
  rwa [Nat.zero_add] at this

theorem made_cells {w wr : World} {n k : Nat} {zs : List (Int × Bool)} (h : Made w n zs k wr) (hk : k < n) (i : Nat) (hi : i < 5) : (∃ u, wr.cell? ⟨w.heap.size, k * 5 + i, none⟩ = some u) ∧ wr.frozen? ⟨w.heap.size, k * 5 + i, none⟩ = false := by
  have := h.there (k * 5 + i) (by omega)
  rw [Nat.zero_add] at this
  exact ⟨Option.isSome_iff_exists.1 this.1, this.2⟩

theorem made_end {w wr : World} {zs : List (Int × Bool)} (h : Made w zs.length zs zs.length wr) : Row wr (.slice (some ⟨w.heap.size, 0, none⟩) zs.length zs.length) zs := by
  by_cases h0 : zs.length = 0
  · rw [h0]; exact .inl ⟨_, _, rfl, List.length_eq_zero_iff.1 h0, fun h => by cases h⟩
  · refine .inr ⟨_, _, _, rfl, by omega, Nat.le_refl _, h.lt, fun j hj => ?_⟩
    have hc := h.range
    rw [List.take_length] at hc
    have hk := fun i hi => cellsS_get zs j i hi hj
    have hc' := fun i u hu => hc (j * 5 + i) u hu
    refine ⟨?_, ?_, ?_, ?_, ?_⟩
    · have := hc' 0 _ (by rw [hk 0 (by omega)]; rfl); simpa using this
    · have := hc' 1 _ (by rw [hk 1 (by omega)]; rfl); simpa [Nat.add_assoc] using this
    · have := hc' 2 _ (by rw [hk 2 (by omega)]; rfl); simpa [Nat.add_assoc] using this
    · have := hc' 3 _ (by rw [hk 3 (by omega)]; rfl); simpa [Nat.add_assoc] using this
    · have := hc' 4 _ (by rw [hk 4 (by omega)]; rfl); simpa [Nat.add_assoc] using this

theorem clone_nil (w : World) : Calls Try.prog 6 #[.slice none 0 0] w fun e w' => e = .returned (.slice none 0 0) ∧ w' = w := by
  have q25 : ∀ (w : World) (a : Option Addr) (n c n' c' : Nat), (binOp .eql 25 (.slice a n c) (.slice none n' c')).run Try.prog w = .ok (.bool a.isNone) w := fun w a n c n' c' => Lib.run_eql_slice_nil w _ _ a n c n' c' Try.underlying25
  go_enter Try.func6, Try.ntmps6
  go_wp2
  go_ret
  exact ⟨rfl, rfl⟩

set_option maxHeartbeats 1000000 in
theorem clone_some (ad : Addr) (c : Nat) (zs : List (Int × Bool)) (w : World) (hbig : zs.length ≤ 1048576)
    (hrow : 0 < zs.length → ∃ b off, ad = ⟨b, off, none⟩ ∧ b < w.heap.size ∧
    ∀ j, j < zs.length → w.cell? ⟨b, off + j * 5, none⟩ = some (.int .u8 1) ∧ w.cell? ⟨b, off + j * 5 + 1, none⟩ = some (.int .i64 0) ∧ w.cell? ⟨b, off + j * 5 + 2, none⟩ = some (.int .i64 zs[j]!.1) ∧
      w.cell? ⟨b, off + j * 5 + 3, none⟩ = some (.map none) ∧ w.cell? ⟨b, off + j * 5 + 4, none⟩ = some (.bool zs[j]!.2)) :
    Calls Try.prog 6 #[.slice (some ad) zs.length c] w fun e w' => ∃ v, e = .returned v ∧ Row w' v zs ∧ Below w.heap.size w w' := by
  have q25 : ∀ (w : World) (a : Option Addr) (n c n' c' : Nat), (binOp .eql 25 (.slice a n c) (.slice none n' c')).run Try.prog w = .ok (.bool a.isNone) w := fun w a n c n' c' => Lib.run_eql_slice_nil w _ _ a n c n' c' Try.underlying25
  obtain ⟨i0, hi, hz0, hz1, hz2⟩ := info_parts info47
  have HR : Hid (0 < zs.length → ∃ b off, ad = ⟨b, off, none⟩ ∧ b < w.heap.size ∧
    ∀ j, j < zs.length → w.cell? ⟨b, off + j * 5, none⟩ = some (.int .u8 1) ∧ w.cell? ⟨b, off + j * 5 + 1, none⟩ = some (.int .i64 0) ∧ w.cell? ⟨b, off + j * 5 + 2, none⟩ = some (.int .i64 zs[j]!.1) ∧
      w.cell? ⟨b, off + j * 5 + 3, none⟩ = some (.map none) ∧ w.cell? ⟨b, off + j * 5 + 4, none⟩ = some (.bool zs[j]!.2)) := hrow
  clear hrow
  have hb2 : i0.bytes * zs.length ≤ 281474976710656 := by rw [hz2]; omega
  go_enter Try.func6, Try.ntmps6
  go_wp2_with (at_make; refine wpList_make_full _ rfl _ _ 25 rfl w.heap.size 47 i0 zeroSel 5 Try.underlying25 hi hz0 hz1 _ _ _ _ zs.length rfl rfl rfl rfl hb2 (by unfold maxLen; omega) (Nat.le_refl _) ?_; intro w1 ho hg)
  have HM : Hid (Made w zs.length zs 0 w1) := made_start ho hg
  clear ho hg hi hz0 hz1 hz2 hb2
  obtain ⟨n, hn⟩ : ∃ n, n = zs.length := ⟨_, rfl⟩
  have HN : Hid (n = zs.length) := hn
  rw [← hn] at hbig HM ⊢
  clear hn
  go_loopg [4] n (fun gg i wr => ∃ k : Nat, k ≤ n ∧ n - k ≤ gg ∧ i = .int .i64 k ∧ Hid (Made w n zs k wr))
  case atStart => exact ⟨0, Nat.zero_le _, by omega, rfl, HM⟩
  case round =>
    clear HM
    obtain ⟨k, hk, hg, rfl, HM⟩ := hrel
    by_cases hlt : k < n
    · have hltz : (k : Int) < (n : Int) := by omega
      obtain ⟨b, off, rfl, hb, hc⟩ := HR.out (by rw [← HN.out]; omega)
      obtain ⟨c0, c1, c2, c3, c4⟩ := hc k (by rw [← HN.out]; omega)
      have hB := HM.out.below
      have d0 := (hB.cell (p := ⟨b, off + k * 5, none⟩) hb).trans c0
      have d1 := (hB.cell (p := ⟨b, off + k * 5 + 1, none⟩) hb).trans c1
      have d2 := (hB.cell (p := ⟨b, off + k * 5 + 2, none⟩) hb).trans c2
      have d3 := (hB.cell (p := ⟨b, off + k * 5 + 3, none⟩) hb).trans c3
      have d4 := (hB.cell (p := ⟨b, off + k * 5 + 4, none⟩) hb).trans c4
      obtain ⟨⟨u0, e0⟩, f0⟩ := made_cells HM.out hlt 0 (by omega)
      obtain ⟨⟨u1, e1⟩, f1⟩ := made_cells HM.out hlt 1 (by omega)
      obtain ⟨⟨u2, e2⟩, f2⟩ := made_cells HM.out hlt 2 (by omega)
      obtain ⟨⟨u3, e3⟩, f3⟩ := made_cells HM.out hlt 3 (by omega)
      obtain ⟨⟨u4, e4⟩, f4⟩ := made_cells HM.out hlt 4 (by omega)
      rw [Nat.add_zero] at e0 f0
      generalize hy : zs[k]! = y at d2 d4
      obtain ⟨d, f⟩ := y
      simp only at d2 d4
      have HS : Hid (Made w n zs (k + 1) (wr.setCells w.heap.size (k * 5) (encS (d, f)))) := made_step HM.out (by rw [← HN.out]; omega) (by rw [← HN.out]; omega) _ hy
      clear hc c0 c1 c2 c3 c4 hB hy
      go_wp2
      go_roundg (n - (k + 1))
      case measure => omega
      case rel => exact ⟨k + 1, by omega, by omega, by go_num, HS⟩
    · have hltz : ¬ (k : Int) < (n : Int) := by omega
      have : k = n := by omega
      subst this
      go_wp2
      go_ret
      exact ⟨_, rfl, by have h := HM.out; rw [HN.out] at h ⊢; exact made_end h, HM.out.below⟩

theorem clone_row (v : Value) (zs : List (Int × Bool)) (w : World) (hbig : zs.length ≤ 1048576) (h : Row w v zs) :
    Calls Try.prog 6 #[v] w fun e w' => ∃ v', e = .returned v' ∧ Row w' v' zs ∧ Below w.heap.size w w' := by
  rcases h with ⟨a, c, rfl, rfl, hac⟩ | ⟨b, off, c, rfl, h0, hcap, hlt, hc⟩
  · cases a with
    | none =>
      obtain rfl := hac rfl
      exact (clone_nil w).mono fun e w' ⟨he, hw⟩ => ⟨_, he, .inl ⟨none, 0, rfl, rfl, fun _ => rfl⟩, hw ▸ Below.refl _ _⟩
    | some ad => exact clone_some ad c [] w (by simp) (fun h => by simp at h)
  · exact clone_some _ c zs w hbig (fun _ => ⟨b, off, rfl, hlt, hc⟩)

end Go.Proofs.Qxb6618977a
