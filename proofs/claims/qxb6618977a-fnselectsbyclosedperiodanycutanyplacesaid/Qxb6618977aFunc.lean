/-
  Seat b6618977a: slices of selections; the predicate, slices.IndexFunc, slices.ContainsFunc.
-/
import Derived.Test.Qxb6618977aLeaf
import Derived.Deep.LoopGhost
namespace Go.Proofs.Qxb6618977a
open Go.RowKit

/-- A selection's five cells: the kind (credit bonds), no months, the days, no ratings, the flag. -/
def encS (x : Int × Bool) : List Value := [.int .u8 1, .int .i64 0, .int .i64 x.1, .map none, .bool x.2]

/-- The cells of a row of selections, one behind the other. -/
def cellsS (zs : List (Int × Bool)) : List Value := zs.flatMap encS

/-- The slice v reads as the selections zs. -/
def Row (w : World) (v : Value) (zs : List (Int × Bool)) : Prop :=
  (∃ a c, v = .slice a 0 c ∧ zs = [] ∧ (a = none → c = 0)) ∨
  ∃ b off c, v = .slice (some ⟨b, off, none⟩) zs.length c ∧ 0 < zs.length ∧ zs.length ≤ c ∧ b < w.heap.size ∧
    ∀ j, j < zs.length → w.cell? ⟨b, off + j * 5, none⟩ = some (.int .u8 1) ∧ w.cell? ⟨b, off + j * 5 + 1, none⟩ = some (.int .i64 0) ∧ w.cell? ⟨b, off + j * 5 + 2, none⟩ = some (.int .i64 zs[j]!.1) ∧
      w.cell? ⟨b, off + j * 5 + 3, none⟩ = some (.map none) ∧ w.cell? ⟨b, off + j * 5 + 4, none⟩ = some (.bool zs[j]!.2)

theorem Row.below {w w' : World} {v : Value} {zs : List (Int × Bool)} (h : Row w v zs) (hb : Below w.heap.size w w') : Row w' v zs := by
  rcases h with h | ⟨b, off, c, hv, h0, hc, hlt, hcell⟩
  · exact .inl h
  · have hk : ∀ o, w'.cell? ⟨b, o, none⟩ = w.cell? ⟨b, o, none⟩ := fun o => hb.cell (p := ⟨b, o, none⟩) hlt
    exact .inr ⟨b, off, c, hv, h0, hc, Nat.lt_of_lt_of_le hlt hb.size, fun j hj => by simp only [hk]; exact hcell j hj⟩

/-- The predicate: func(s Selection) bool { return s.AfterClosedPeriod }. -/
theorem pred_any (d : Int) (f : Bool) (w : World) :
    Calls Try.prog 13 #[.agg #[.int .u8 1, .int .i64 0, .int .i64 d, .map none, .bool f]] w fun e w' => e = .returned (.bool f) ∧ Below w.heap.size w w' := by
  go_enter Try.func13, Try.ntmps13
  go_wp2
  go_ret
  exact ⟨rfl, (Below.refl _ _).alloc (Nat.le_refl _) _⟩

/-- Of an index that IndexFunc may answer: it is not negative just where a flag is set. -/
theorem any_of_prefix (zs : List (Int × Bool)) (k : Nat) (hk : k < zs.length) (h : zs[k]!.2 = true) : zs.any (·.2) = true := by
  rw [List.any_eq_true]
  refine ⟨zs[k]!, ?_, h⟩
  rw [getElem!_pos zs k hk]
  exact List.getElem_mem hk

theorem any_none (zs : List (Int × Bool)) (h : ∀ j, j < zs.length → zs[j]!.2 = false) : zs.any (·.2) = false := by
  rw [List.any_eq_false]
  intro x hx
  obtain ⟨j, hj, rfl⟩ := List.getElem_of_mem hx
  have := h j hj
  rw [getElem!_pos zs j hj] at this
  simp [this]

set_option maxHeartbeats 400000 in
theorem indexFunc_some (b off c : Nat) (zs : List (Int × Bool)) (w : World) (hbig : zs.length ≤ 1048576) (hlt : b < w.heap.size)
    (hc : ∀ j, j < zs.length → w.cell? ⟨b, off + j * 5, none⟩ = some (.int .u8 1) ∧ w.cell? ⟨b, off + j * 5 + 1, none⟩ = some (.int .i64 0) ∧ w.cell? ⟨b, off + j * 5 + 2, none⟩ = some (.int .i64 zs[j]!.1) ∧
      w.cell? ⟨b, off + j * 5 + 3, none⟩ = some (.map none) ∧ w.cell? ⟨b, off + j * 5 + 4, none⟩ = some (.bool zs[j]!.2)) :
    Calls Try.prog 14 #[.slice (some ⟨b, off, none⟩) zs.length c, .func (.func 13) #[] #[]] w fun e w' => (∃ r : Int, e = .returned (.int .i64 r) ∧ decide (0 ≤ r) = zs.any (·.2)) ∧ Below w.heap.size w w' := by
  have HC := fun (W : World) (hW : Below w.heap.size w W) (j : Nat) (hj : j < zs.length) => (⟨(hW.cell (p := ⟨b, off + j * 5, none⟩) hlt).trans (hc j hj).1, (hW.cell (p := ⟨b, off + j * 5 + 1, none⟩) hlt).trans (hc j hj).2.1, (hW.cell (p := ⟨b, off + j * 5 + 2, none⟩) hlt).trans (hc j hj).2.2.1, (hW.cell (p := ⟨b, off + j * 5 + 3, none⟩) hlt).trans (hc j hj).2.2.2.1, (hW.cell (p := ⟨b, off + j * 5 + 4, none⟩) hlt).trans (hc j hj).2.2.2.2⟩ : W.cell? ⟨b, off + j * 5, none⟩ = some (.int .u8 1) ∧ W.cell? ⟨b, off + j * 5 + 1, none⟩ = some (.int .i64 0) ∧ W.cell? ⟨b, off + j * 5 + 2, none⟩ = some (.int .i64 zs[j]!.1) ∧
      W.cell? ⟨b, off + j * 5 + 3, none⟩ = some (.map none) ∧ W.cell? ⟨b, off + j * 5 + 4, none⟩ = some (.bool zs[j]!.2))
  clear hc
  obtain ⟨n, hn⟩ : ∃ n, n = zs.length := ⟨_, rfl⟩
  have HN : Hid (n = zs.length) := hn
  rw [← hn] at hbig HC ⊢
  clear hn
  go_enter Try.func14, Try.ntmps14
  go_wp2
  go_loopg [5, 8] n (fun gg _ s8 wr => ∃ kk : Nat, kk ≤ n ∧ n - kk ≤ gg ∧ s8 = .int .i64 kk ∧ Hid (Below w.heap.size w wr) ∧ Hid (∀ j, j < kk → zs[j]!.2 = false))
  case atStart => exact ⟨0, Nat.zero_le _, by omega, rfl, Below.refl _ w, fun j hj => absurd hj (Nat.not_lt_zero _)⟩
  case round =>
    obtain ⟨kk, hkk, hg, rfl, BW, A⟩ := hrel
    by_cases hlt' : kk < n
    · have hltz : (kk : Int) < (n : Int) := by omega
      obtain ⟨c0, c1, c2, c3, c4⟩ := HC wr BW.out kk hlt'
      clear HC
      generalize hy : zs[kk]! = y at c2 c4
      obtain ⟨d, f⟩ := y
      have hcall := pred_any d f
      simp only at c2 c4
      have B : Hid (zs[kk]! = (d, f)) := hy
      clear hy
      cases f with
      | true =>
        go_wp2_with (go_at_call 13; refine (hcall _).mono ?_; rintro e w' ⟨rfl, hb'⟩)
        go_ret
        refine ⟨⟨_, rfl, ?_⟩, BW.out.trans (hb'.mono BW.out.size)⟩
        rw [any_of_prefix zs kk (by rw [← HN.out]; exact hlt') (by rw [B.out])]
        simp
      | false =>
        go_wp2_with (go_at_call 13; refine (hcall _).mono ?_; rintro e w' ⟨rfl, hb'⟩)
        go_roundg (n - (kk + 1))
        case measure => omega
        case rel =>
          refine ⟨kk + 1, by omega, by omega, by go_num, BW.out.trans (hb'.mono BW.out.size), (show Hid _ from fun j hj => ?_)⟩
          by_cases e : j = kk
          · subst e
            rw [B.out]
          · exact A.out j (by omega)
    · have hltz : ¬ (kk : Int) < (n : Int) := by omega
      have : kk = n := by omega
      subst this
      go_wp2
      go_ret
      refine ⟨⟨_, rfl, ?_⟩, BW.out⟩
      rw [any_none zs (by rw [← HN.out]; exact A.out)]
      rfl

theorem indexFunc_none (a : Option Addr) (c : Nat) (w : World) :
    Calls Try.prog 14 #[.slice a 0 c, .func (.func 13) #[] #[]] w fun e w' => e = .returned (.int .i64 (-1)) ∧ w' = w := by
  go_enter Try.func14, Try.ntmps14
  go_wp2
  go_loop [5, 8] (fun _ i => i = .int .i64 0) (fun _ _ => 0)
  case atStart => rfl
  case round =>
    subst hrel
    go_wp2
    go_ret
    exact ⟨rfl, rfl⟩

theorem indexFunc_row (v : Value) (zs : List (Int × Bool)) (w : World) (hbig : zs.length ≤ 1048576) (h : Row w v zs) :
    Calls Try.prog 14 #[v, .func (.func 13) #[] #[]] w fun e w' => (∃ r : Int, e = .returned (.int .i64 r) ∧ decide (0 ≤ r) = zs.any (·.2)) ∧ Below w.heap.size w w' := by
  rcases h with ⟨a, c, rfl, rfl, _⟩ | ⟨b, off, c, rfl, h0, hcap, hlt, hc⟩
  · exact (indexFunc_none a c w).mono fun e w' ⟨he, hw⟩ => ⟨⟨-1, he, by simp⟩, hw ▸ Below.refl _ _⟩
  · exact indexFunc_some b off c zs w hbig hlt hc

theorem containsFunc_row (v : Value) (zs : List (Int × Bool)) (w : World) (hbig : zs.length ≤ 1048576) (h : Row w v zs) :
    Calls Try.prog 11 #[v, .func (.func 13) #[] #[]] w fun e w' => e = .returned (.bool (zs.any (·.2))) ∧ Below w.heap.size w w' := by
  have hcon := indexFunc_row v zs w hbig h
  clear h
  generalize zs.any (·.2) = r at hcon ⊢
  go_enter Try.func11, Try.ntmps11
  go_wp2_with (go_at_call 14; refine hcon.mono ?_; rintro e w' ⟨⟨i, rfl, hi⟩, hb'⟩)
  go_ret
  exact ⟨by rw [← hi]; rfl, hb'⟩

end Go.Proofs.Qxb6618977a
