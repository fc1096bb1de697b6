/-
  Seat b6618977a: zzSelections.
-/
import Derived.Test.Qxb6618977aMade
import Derived.Deep.RegionHeld3
namespace Go.Proofs.Qxb6618977a
open Go.RowKit

/-- One selection a flag. -/
def sels (n : Nat) (D : Nat → Int) (B : Nat → Bool) : List (Int × Bool) := (List.range n).map fun i => (D i, B i)

theorem length_sels (n : Nat) (D : Nat → Int) (B : Nat → Bool) : (sels n D B).length = n := by simp [sels]

theorem sels_get (n : Nat) (D : Nat → Int) (B : Nat → Bool) (k : Nat) (hk : k < n) : (sels n D B)[k]! = (D k, B k) := by
  rw [getElem!_pos _ k (by rw [length_sels]; exact hk)]; simp [sels]

theorem sels_nil (a2 : Option Addr) (nd cd : Nat) (w : World) :
    Calls Try.prog 5 #[.slice none 0 0, .slice none 0 0, .slice a2 nd cd] w fun e w' => e = .returned (.slice none 0 0) ∧ w' = w := by
  have q22 : ∀ (w : World) (a : Option Addr) (n c n' c' : Nat), (binOp .eql 22 (.slice a n c) (.slice none n' c')).run Try.prog w = .ok (.bool a.isNone) w := fun w a n c n' c' => Lib.run_eql_slice_nil w _ _ a n c n' c' Try.underlying22
  go_enter Try.func5, Try.ntmps5
  go_wp2
  go_ret
  exact ⟨rfl, rfl⟩

theorem cell_far {w : World} {g b o p : Nat} (v : Value) (hne : b ≠ g) : (w.setCell ⟨g, o, none⟩ v).cell? ⟨b, p, none⟩ = w.cell? ⟨b, p, none⟩ :=
  World.cell?_of_block (Below.heap_setCell w ⟨g, o, none⟩ v b hne)

theorem drew_cell (w : World) (a : Addr) : w.drew.cell? a = w.cell? a := rfl

theorem far5 {w : World} {g b p o0 o1 o2 o3 o4 : Nat} {v0 v1 v2 v3 v4 u : Value} (hne : b ≠ g) (h : w.cell? ⟨b, p, none⟩ = some u) :
    (((((w.setCell ⟨g, o0, none⟩ v0).setCell ⟨g, o1, none⟩ v1).setCell ⟨g, o2, none⟩ v2).setCell ⟨g, o3, none⟩ v3).setCell ⟨g, o4, none⟩ v4).drew.cell? ⟨b, p, none⟩ = some u := by
  rw [drew_cell]
  exact (cell_far v4 hne).trans ((cell_far v3 hne).trans ((cell_far v2 hne).trans ((cell_far v1 hne).trans ((cell_far v0 hne).trans h))))

/-- A draw behind the stores: the row is as it was made. -/
theorem Made.drew {w wr : World} {n k : Nat} {zs : List (Int × Bool)} (h : Made w n zs k wr) : Made w n zs k wr.drew := ⟨h.below.drew, h.lt, h.range, h.there⟩

set_option maxHeartbeats 2000000 in
theorem sels_some (ad : Addr) (n c : Nat) (a2 : Option Addr) (nd cd : Nat) (D : Nat → Int) (B : Nat → Bool) (w : World) (hbig : n ≤ 1048576)
    (hrow : 0 < n → ∃ b off, ad = ⟨b, off, none⟩ ∧ b < w.heap.size ∧ ∀ j, j < n → w.cell? ⟨b, off + j, none⟩ = some (.bool (B j)))
    (hD : ∀ i, i < n → ∀ W, Below w.heap.size w W → Calls Try.prog 10 #[.slice a2 nd cd, .int .i64 i] W fun e w' => e = .returned (.int .i64 (D i)) ∧ W = w') :
    Calls Try.prog 5 #[.slice (some ad) n c, .slice none 0 0, .slice a2 nd cd] w fun e w' => e = .returned (.slice (some ⟨w.heap.size, 0, none⟩) n n) ∧ Row w' (.slice (some ⟨w.heap.size, 0, none⟩) n n) (sels n D B) ∧ Below w.heap.size w w' := by
  have q22 : ∀ (w : World) (a : Option Addr) (n c n' c' : Nat), (binOp .eql 22 (.slice a n c) (.slice none n' c')).run Try.prog w = .ok (.bool a.isNone) w := fun w a n c n' c' => Lib.run_eql_slice_nil w _ _ a n c n' c' Try.underlying22
  obtain ⟨i0, hi, hz0, hz1, hz2⟩ := info_parts info47
  have HR : Hid (0 < n → ∃ b off, ad = ⟨b, off, none⟩ ∧ b < w.heap.size ∧ ∀ j, j < n → w.cell? ⟨b, off + j, none⟩ = some (.bool (B j))) := hrow
  have HD : Hid (∀ i, i < n → ∀ W, Below w.heap.size w W → Calls Try.prog 10 #[.slice a2 nd cd, .int .i64 i] W fun e w' => e = .returned (.int .i64 (D i)) ∧ W = w') := hD
  clear hrow hD
  have hb2 : i0.bytes * n ≤ 281474976710656 := by rw [hz2]; omega
  go_enter Try.func5, Try.ntmps5
  go_wp2_with (at_make; refine wpList_make_full _ rfl _ _ 25 rfl w.heap.size 47 i0 zeroSel 5 Try.underlying25 hi hz0 hz1 _ _ _ _ n rfl rfl rfl rfl hb2 (by unfold maxLen; omega) (Nat.le_refl _) ?_; intro w1 ho hg)
  have HM : Hid (Made w n (sels n D B) 0 w1) := made_start ho hg
  clear ho hg hi hz0 hz1 hz2 hb2
  go_loopg [8] n (fun gg i wr => ∃ k : Nat, k ≤ n ∧ n - k ≤ gg ∧ i = .int .i64 k ∧ Hid (Made w n (sels n D B) k wr))
  case atStart => exact ⟨0, Nat.zero_le _, by omega, rfl, HM⟩
  case round =>
    clear HM
    obtain ⟨k, hk, hg, rfl, HM⟩ := hrel
    by_cases hlt : k < n
    · have hltz : (k : Int) < (n : Int) := by omega
      have hltz0 : (0 : Int) ≤ (k : Int) := by omega
      obtain ⟨b, off, rfl, hb, hc⟩ := HR.out (by omega)
      have hB := HM.out.below
      have d0 := (hB.cell (p := ⟨b, off + k, none⟩) hb).trans (hc k hlt)
      obtain ⟨⟨u0, e0⟩, f0⟩ := made_cells HM.out hlt 0 (by omega)
      obtain ⟨⟨u1, e1⟩, f1⟩ := made_cells HM.out hlt 1 (by omega)
      obtain ⟨⟨u2, e2⟩, f2⟩ := made_cells HM.out hlt 2 (by omega)
      obtain ⟨⟨u3, e3⟩, f3⟩ := made_cells HM.out hlt 3 (by omega)
      obtain ⟨⟨u4, e4⟩, f4⟩ := made_cells HM.out hlt 4 (by omega)
      rw [Nat.add_zero] at e0 f0
      have hcall := HD.out k hlt wr.drew hB.drew
      have hcall0 := valAt_out none 0 0 k wr.drew (by omega)
      have HS : Hid (Made w n (sels n D B) (k + 1) (wr.setCells w.heap.size (k * 5) (encS (D k, B k)))) := made_step HM.out (by rw [length_sels]; omega) (by rw [length_sels]; omega) _ (sels_get n D B k hlt)
      have hne : b ≠ w.heap.size := by omega
      clear hc hB
      generalize D k = d at hcall HS
      generalize B k = f at d0 HS
      go_wp2
      go_region_held3 (fun w' => w'.cell? ⟨b, off + k, none⟩ = some (.bool f)) (first | (go_keep; done) | exact far5 hne d0)
        (first | (go_at_call_of 10 (Value.slice none 0 0); refine hcall0.mono ?_; rintro e w' ⟨rfl, rfl⟩) | (go_at_call_of 10 (Value.slice a2 nd cd); refine hcall.mono ?_; rintro e w' ⟨rfl, rfl⟩))
      all_goals go_wp2
      all_goals go_roundg (n - (k + 1))
      case measure => omega
      case rel => exact ⟨k + 1, by omega, by omega, by go_num, HS.out.drew⟩
    · have hltz : ¬ (k : Int) < (n : Int) := by omega
      have : k = n := by omega
      subst this
      go_wp2
      go_ret
      exact ⟨rfl, by have h := HM.out; have e := length_sels k D B; have := made_end (w := w) (wr := wr) (zs := sels k D B) (by rw [e]; exact h); rw [e] at this; exact this, HM.out.below⟩

/-- What the walk is told of a slice of flags that came in. -/
def IsBools (w : World) (a : Option Addr) (n c : Nat) (B : Nat → Bool) : Prop :=
  (a = none ∧ n = 0 ∧ c = 0) ∨ ∃ x, a = some x ∧ n ≤ c ∧ c ≤ maxLen ∧ ∀ i, i < c → w.cell? (x.add i) = some (.bool (B i))

/-- What the walk is told of a slice of numbers that came in. -/
def IsInts (w : World) (a : Option Addr) (n c : Nat) (zs : List Int) : Prop :=
  (a = none ∧ n = 0 ∧ c = 0 ∧ zs = []) ∨ ∃ x, a = some x ∧ n ≤ c ∧ c ≤ maxLen ∧ zs.length = c ∧ ∀ i, i < zs.length → w.cell? (x.add i) = some (.int .i64 (zs.getD i 0))

theorem IsBools.lits {w : World} {a : Option Addr} {n c : Nat} {B : Nat → Bool} (h : IsBools w a n c B) (h0 : 0 < n) : ∃ b off, a = some ⟨b, off, none⟩ ∧ b < w.heap.size ∧ ∀ j, j < n → w.cell? ⟨b, off + j, none⟩ = some (.bool (B j)) := by
  rcases h with ⟨_, rfl, _⟩ | ⟨x, rfl, hn, hc, hcell⟩
  · omega
  · obtain ⟨b, off, sp⟩ := x
    have h1 := hcell 0 (by omega)
    have hs : sp = none := by simpa [Addr.add] using World.cell?_spot h1
    subst hs
    refine ⟨b, off, rfl, ?_, fun j hj => by have := hcell j (by omega); rwa [Addr.add_lit] at this⟩
    exact World.block_lt_of_cell? w _ h1

theorem IsInts.lits {w : World} {a : Option Addr} {n c : Nat} {zs : List Int} (h : IsInts w a n c zs) (h0 : 0 < n) : ∃ b off, a = some ⟨b, off, none⟩ ∧ b < w.heap.size ∧ ∀ j, j < n → w.cell? ⟨b, off + j, none⟩ = some (.int .i64 (zs.getD j 0)) := by
  rcases h with ⟨_, rfl, _⟩ | ⟨x, rfl, hn, hc, hl, hcell⟩
  · omega
  · obtain ⟨b, off, sp⟩ := x
    have h1 := hcell 0 (by omega)
    have hs : sp = none := by simpa [Addr.add] using World.cell?_spot h1
    subst hs
    refine ⟨b, off, rfl, ?_, fun j hj => by have := hcell j (by omega); rwa [Addr.add_lit] at this⟩
    exact World.block_lt_of_cell? w _ h1

theorem any_sels (n : Nat) (D : Nat → Int) (B : Nat → Bool) : (sels n D B).any (·.2) = anyB B n := by
  induction n with
  | zero => rfl
  | succ n ih =>
    unfold sels at ih ⊢
    rw [List.range_succ, List.map_append, List.any_append, ih]
    simp [anyB]

theorem valAt_row {a : Option Addr} {n c : Nat} {zs : List Int} {w W : World} (h : IsInts w a n c zs) (hb : Below w.heap.size w W) (i : Nat) :
    Calls Try.prog 10 #[.slice a n c, .int .i64 i] W fun e w' => e = .returned (.int .i64 (valAt zs n i)) ∧ W = w' := by
  by_cases hi : i < n
  · obtain ⟨b, off, rfl, hlt, hc⟩ := h.lits (by omega)
    refine (valAt_in b off n c i (zs.getD i 0) W hi ((hb.cell (p := ⟨b, off + i, none⟩) hlt).trans (hc i hi))).mono fun e w' ⟨he, hw⟩ => ⟨?_, hw.symm⟩
    rw [he, valAt, if_pos hi]
  · refine (valAt_out a n c i W (by omega)).mono fun e w' ⟨he, hw⟩ => ⟨?_, hw.symm⟩
    rw [he, valAt, if_neg hi]

theorem sels_row {a0 a1 : Option Addr} {n0 c0 n1 c1 : Nat} {B : Nat → Bool} {z1 : List Int} {w W : World} (hb : Below w.heap.size w W) (h0 : IsBools w a0 n0 c0 B) (h1 : IsInts w a1 n1 c1 z1) (hbig : n0 ≤ 1048576) :
    Calls Try.prog 5 #[.slice a0 n0 c0, .slice none 0 0, .slice a1 n1 c1] W fun e w' => ∃ v zs, e = .returned v ∧ Row w' v zs ∧ ((v = .slice none 0 0 ∧ n0 = 0) ∨ v = .slice (some ⟨W.heap.size, 0, none⟩) n0 n0) ∧ zs.length = n0 ∧ zs.any (·.2) = anyB B n0 ∧ Below W.heap.size W w' := by
  cases a0 with
  | none =>
    rcases h0 with ⟨_, rfl, rfl⟩ | ⟨x, hx, _⟩
    · exact (sels_nil a1 n1 c1 W).mono fun e w' ⟨he, hw⟩ => ⟨_, [], he, .inl ⟨none, 0, rfl, rfl, fun _ => rfl⟩, .inl ⟨rfl, rfl⟩, rfl, rfl, hw ▸ Below.refl _ _⟩
    · cases hx
  | some ad =>
    refine (sels_some ad n0 c0 a1 n1 c1 (valAt z1 n1) B W hbig (fun hp => ?_) (fun i _ W' hW' => valAt_row h1 (hb.trans (hW'.mono hb.size)) i)).mono fun e w' ⟨he, hr, hb'⟩ => ⟨_, _, he, hr, .inr rfl, length_sels _ _ _, any_sels _ _ _, hb'⟩
    obtain ⟨b, off, he, hlt, hc⟩ := h0.lits hp
    cases he
    exact ⟨b, off, rfl, Nat.lt_of_lt_of_le hlt hb.size, fun j hj => (hb.cell (p := ⟨b, off + j, none⟩) hlt).trans (hc j hj)⟩

theorem anyTrue_row {a0 : Option Addr} {n0 c0 : Nat} {B : Nat → Bool} {w W : World} (hb : Below w.heap.size w W) (h0 : IsBools w a0 n0 c0 B) (hbig : n0 ≤ 1048576) :
    Calls Try.prog 9 #[.slice a0 n0 c0] W fun e w' => e = .returned (.bool (anyB B n0)) ∧ W = w' := by
  by_cases hp : n0 = 0
  · subst hp
    exact (anyTrue_none a0 c0 W).mono fun e w' ⟨he, hw⟩ => ⟨he, hw.symm⟩
  · obtain ⟨b, off, rfl, hlt, hc⟩ := h0.lits (by omega)
    exact (anyTrue_some b off n0 c0 B W hbig (fun j hj => (hb.cell (p := ⟨b, off + j, none⟩) hlt).trans (hc j hj))).mono fun e w' ⟨he, hw⟩ => ⟨he, hw.symm⟩

theorem row_take {w : World} {g n c : Nat} {zs : List (Int × Bool)} (h : Row w (.slice (some ⟨g, 0, none⟩) n c) zs) (hn : zs.length = n) (k : Nat) (hk : k ≤ n) (hc : n ≤ c) : Row w (.slice (some ⟨g, 0, none⟩) k c) (zs.take k) := by
  by_cases h0 : k = 0
  · subst h0
    exact .inl ⟨_, _, rfl, by simp, fun h => by cases h⟩
  · have hl : (zs.take k).length = k := by simp; omega
    rcases h with ⟨a, c', hv, rfl, _⟩ | ⟨b, off, c', hv, h0', hcap, hlt, hcell⟩
    · simp at hn; omega
    · simp only [Value.slice.injEq, Option.some.injEq, Addr.mk.injEq, and_true] at hv
      obtain ⟨⟨rfl, rfl⟩, _, rfl⟩ := hv
      refine .inr ⟨g, 0, c, by rw [hl], by omega, by omega, hlt, fun j hj => ?_⟩
      have := hcell j (by omega)
      rw [getElem!_pos (zs.take k) j hj, List.getElem_take]
      rwa [getElem!_pos zs j (by omega)] at this

theorem row_drop {w : World} {g n c c' : Nat} {zs : List (Int × Bool)} (h : Row w (.slice (some ⟨g, 0, none⟩) n c) zs) (hn : zs.length = n) (k : Nat) (hk : k ≤ n) (ao : Option Addr) (hao : k < n → ao = some ⟨g, k * 5, none⟩) (hc : n - k ≤ c') (hnone : ao = none → c' = 0) :
    Row w (.slice ao (n - k) c') (zs.drop k) := by
  by_cases h0 : k = n
  · subst h0
    rw [Nat.sub_self]
    exact .inl ⟨ao, c', rfl, by rw [← hn]; simp, hnone⟩
  · have hl : (zs.drop k).length = n - k := by simp; omega
    rcases h with ⟨a, c'', hv, rfl, _⟩ | ⟨b, off, c'', hv, h0', hcap, hlt, hcell⟩
    · simp at hn; omega
    · simp only [Value.slice.injEq, Option.some.injEq, Addr.mk.injEq, and_true] at hv
      obtain ⟨⟨rfl, rfl⟩, _, rfl⟩ := hv
      rw [hao (by omega)]
      refine .inr ⟨g, k * 5, c', by rw [hl], by omega, by omega, hlt, fun j hj => ?_⟩
      have := hcell (k + j) (by omega)
      rw [getElem!_pos (zs.drop k) j hj, List.getElem_drop]
      rw [getElem!_pos zs (k + j) (by omega)] at this
      simp only [Nat.add_mul, Nat.zero_add] at this
      exact this

end Go.Proofs.Qxb6618977a
