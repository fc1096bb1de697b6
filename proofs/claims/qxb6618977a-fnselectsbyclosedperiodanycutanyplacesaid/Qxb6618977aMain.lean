/-
  Seat b6618977a: the law's own walk.
-/
import Derived.Test.Qxb6618977aSels
import Derived.Test.Qxb6618977aSelects
import Derived.Test.Qxb6618977aJoin
namespace Go.Proofs.Qxb6618977a
open Go.RowKit

/-- A limit lies at block p: its measure is v1, its base's measure v2. -/
structure Lim (W : World) (p : Nat) (v1 v2 : Value) : Prop where
  lt : p < W.heap.size
  c1 : W.cell? ⟨p, 2, none⟩ = some v1
  c2 : W.cell? ⟨p, 4, none⟩ = some v2

theorem Lim.below {W W' : World} {p : Nat} {v1 v2 : Value} (h : Lim W p v1 v2) (hb : Below W.heap.size W W') : Lim W' p v1 v2 :=
  ⟨Nat.lt_of_lt_of_le h.lt hb.size, (hb.cell (p := ⟨p, 2, none⟩) h.lt).trans h.c1, (hb.cell (p := ⟨p, 4, none⟩) h.lt).trans h.c2⟩

theorem lim_made {W : World} {x0 x1 v1 x3 v2 x5 x6 x7 x8 x9 x10 x11 x12 : Value} : Lim (W.alloc (.cells #[x0, x1, v1, x3, v2, x5, x6, x7, x8, x9, x10, x11, x12] 38)) W.heap.size v1 v2 :=
  ⟨by simp, by simp, by simp⟩

theorem below_new (W : World) (o : Obj) : Below W.heap.size W (W.alloc o) := (Below.refl _ W).alloc (Nat.le_refl _) o

theorem below_then {W W' : World} {o : Obj} (h : Below (W.alloc o).heap.size (W.alloc o) W') : Below W.heap.size W W' := (below_new W o).trans (h.mono (by simp))

theorem clone_row' {v : Value} {zs : List (Int × Bool)} {w : World} (m : Nat) (hm : zs.length = m) (hbig : m ≤ 1048576) (h : Row w v zs) :
    Calls Try.prog 6 #[v] w fun e w' => ∃ a c, e = .returned (.slice a m c) ∧ Row w' (.slice a m c) zs ∧ Below w.heap.size w w' := by
  subst hm
  exact (clone_row v zs w hbig h).mono fun e w' ⟨v', he, hr, hb⟩ => by
    obtain ⟨a, c, rfl⟩ := row_slice hr
    exact ⟨a, c, he, hr, hb⟩

theorem join_rows' {v1 v2 : Value} {xs ys : List (Int × Bool)} {w : World} (m : Nat) (hm : (xs ++ ys).length = m) (hbig : m ≤ 1048576) (h1 : Row w v1 xs) (h2 : Row w v2 ys) :
    Calls Try.prog 7 #[v1, v2] w fun e w' => ∃ a c, e = .returned (.slice a m c) ∧ Row w' (.slice a m c) (xs ++ ys) ∧ Below w.heap.size w w' := by
  subst hm
  exact (join_rows v1 v2 xs ys w h1 h2 (by simpa using hbig)).mono fun e w' ⟨v', he, hr, hb⟩ => by
    obtain ⟨a, c, rfl⟩ := row_slice hr
    exact ⟨a, c, he, hr, hb⟩

theorem selects_lim {p : Nat} {v1 v2 : Value} {xs ys : List (Int × Bool)} {w : World} (L : Lim w p v1 v2) (h1 : Row w v1 xs) (h2 : Row w v2 ys) (hbig : xs.length + ys.length ≤ 1048576) (r : Bool) (hr : (xs ++ ys).any (·.2) = r) :
    Calls Try.prog 8 #[.pointer (some ⟨p, 0, none⟩)] w fun e w' => e = .returned (.bool r) ∧ Below w.heap.size w w' := by
  subst hr
  exact selects_any p v1 v2 xs ys w h1 h2 hbig L.c1 L.c2

theorem sels_row' {a0 a1 : Option Addr} {n0 c0 n1 c1 : Nat} {B : Nat → Bool} {z1 : List Int} {w W : World} (hb : Below w.heap.size w W) (h0 : IsBools w a0 n0 c0 B) (h1 : IsInts w a1 n1 c1 z1) (hbig : n0 ≤ 1048576) :
    Calls Try.prog 5 #[.slice a0 n0 c0, .slice none 0 0, .slice a1 n1 c1] W fun e w' => ∃ a c zs, e = .returned (.slice a n0 c) ∧ Row w' (.slice a n0 c) zs ∧ ((a = none ∧ c = 0 ∧ n0 = 0) ∨ (a = some ⟨W.heap.size, 0, none⟩ ∧ n0 = c)) ∧ zs.length = n0 ∧ zs.any (·.2) = anyB B n0 ∧ Below W.heap.size W w' :=
  (sels_row hb h0 h1 hbig).mono fun e w' ⟨v, zs, he, hr, hs, hl, ha, hb'⟩ => by
    rcases hs with ⟨rfl, rfl⟩ | rfl
    · exact ⟨none, 0, zs, he, hr, .inl ⟨rfl, rfl, rfl⟩, hl, ha, hb'⟩
    · exact ⟨_, n0, zs, he, hr, .inr ⟨rfl, rfl⟩, hl, ha, hb'⟩

/-- THE PLAIN LAW: what the four calls answer, by the flags of the measure (r0) and of the base (r2). -/
theorem bools_end {zm zo : List (Int × Bool)} {cut : Nat} {r0 r2 q1 q2 q3 q4 : Bool} (h0 : zm.any (·.2) = r0) (h2 : zo.any (·.2) = r2) (h1 : (zm ++ zo).any (·.2) = q1) (hh : (zm.take cut ++ []).any (·.2) = q2)
    (ht : (zm.drop cut ++ zo).any (·.2) = q3) (hm : ([] ++ (zm ++ zo)).any (·.2) = q4) :
    (r0 = true → q1 = true ∧ q4 = true ∧ (q2 = false → q3 = true)) ∧ (r0 = false → q1 = r2 ∧ q4 = r2 ∧ q2 = false ∧ q3 = r2) := by
  have hs : zm.any (·.2) = ((zm.take cut).any (·.2) || (zm.drop cut).any (·.2)) := by rw [← List.any_append, List.take_append_drop]
  simp only [List.any_append, List.append_nil, List.nil_append] at h1 hh ht hm
  rw [h0] at hs h1 hm
  rw [h2] at h1 ht hm
  rw [hh] at hs
  generalize (zm.drop cut).any (·.2) = rt at hs ht
  subst h1 ht hm hs
  cases q2 <;> cases rt <;> cases r2 <;> simp

set_option maxHeartbeats 8000000 in
theorem main_core (a0 a1 a2 a3 : Option Addr) (n0 c0 n1 c1 n2 c2 n3 c3 : Nat) (B0 B2 : Nat → Bool) (z1 z3 : List Int) (cut : Nat) (w : World)
    (h0 : IsBools w a0 n0 c0 B0) (h1 : IsInts w a1 n1 c1 z1) (h2 : IsBools w a2 n2 c2 B2) (h3 : IsInts w a3 n3 c3 z3)
    (l0 : n0 ≤ 32768) (l1 : n1 ≤ 32768) (l2 : n2 ≤ 32768) (l3 : n3 ≤ 32768) (lc : cut ≤ n0) :
    Calls Try.prog 3 #[.slice a0 n0 c0, .slice a1 n1 c1, .slice a2 n2 c2, .slice a3 n3 c3, .int .i64 cut] w fun e w' => e = .returned (.bool true) ∧ Below w.heap.size w w' := by
  have hbytes := bytes_any a0 a1 a2 a3 n0 n1 n2 n3 c0 c1 c2 c3 cut w (by unfold maxLen; omega) (by unfold maxLen; omega) (by unfold maxLen; omega) (by unfold maxLen; omega)
  have hm := sels_row' (Below.refl _ w) h0 h1 (by omega)
  have ho := fun (W : World) (hb : Below w.heap.size w W) => sels_row' hb h2 h3 (by omega)
  have hany0 := fun (W : World) (hb : Below w.heap.size w W) => anyTrue_row hb h0 (by omega)
  have hany2 := fun (W : World) (hb : Below w.heap.size w W) => anyTrue_row hb h2 (by omega)
  clear h0 h1 h2 h3
  generalize anyB B0 n0 = r0 at hm hany0
  generalize anyB B2 n2 = r2 at ho hany2
  go_enter Try.func3, Try.ntmps3
  go_wp2_with fail
  refine hbytes.mono ?_
  rintro e w' ⟨⟨r, rfl⟩, hw⟩
  obtain rfl := hw.symm
  cases r with
  | false =>
    go_wp2
    go_ret
    exact ⟨rfl, Below.refl _ _⟩
  | true =>
    go_wp2_with fail
    refine hm.mono ?_
    rintro e w1 ⟨am, cm, zm, rfl, rm, sm, lm, hAM, b1⟩
    have RM : Hid (Row w1 (.slice am n0 cm) zm) := rm
    have LM : Hid (zm.length = n0) := lm
    have AM : Hid (zm.any (·.2) = r0) := hAM
    have B1 : Hid (Below w.heap.size w w1) := b1
    clear rm lm hAM b1 hm hbytes
    go_wp2_with fail
    refine (ho w1 B1.out).mono ?_
    rintro e w2 ⟨ao, co, zo, rfl, ro, so, lo, hAO, b2⟩
    have RO : Hid (Row w2 (.slice ao n2 co) zo) := ro
    have RM2 : Hid (Row w2 (.slice am n0 cm) zm) := RM.out.below b2
    have LO : Hid (zo.length = n2) := lo
    have AO : Hid (zo.any (·.2) = r2) := hAO
    have B2 : Hid (Below w.heap.size w w2) := B1.out.trans (b2.mono B1.out.size)
    clear ro so lo hAO ho RM B1 b2
    have hlz : (cut : Int) ≤ (n0 : Int) := by omega
    obtain ⟨q1, hq1⟩ : ∃ q, (zm ++ zo).any (·.2) = q := ⟨_, rfl⟩
    obtain ⟨q2, hq2⟩ : ∃ q, (zm.take cut ++ []).any (·.2) = q := ⟨_, rfl⟩
    obtain ⟨q3, hq3⟩ : ∃ q, (zm.drop cut ++ zo).any (·.2) = q := ⟨_, rfl⟩
    obtain ⟨q4, hq4⟩ : ∃ q, ([] ++ (zm ++ zo)).any (·.2) = q := ⟨_, rfl⟩
    have HQ1 : Hid ((zm ++ zo).any (·.2) = q1) := hq1
    have HQ2 : Hid ((zm.take cut ++ []).any (·.2) = q2) := hq2
    have HQ3 : Hid ((zm.drop cut ++ zo).any (·.2) = q3) := hq3
    have HQ4 : Hid (([] ++ (zm ++ zo)).any (·.2) = q4) := hq4
    clear hq1 hq2 hq3 hq4
    rcases sm with ⟨rfl, rfl, rfl⟩ | ⟨rfl, rfl⟩
    · obtain rfl : cut = 0 := by omega
      go_wp2_with fail
      refine (clone_row' (zs := zm.take 0) 0 (by simp) (by omega) (.inl ⟨none, 0, rfl, by simp, fun _ => rfl⟩)).mono ?_
      rintro e w4 ⟨ah, ch, rfl, rh, b4⟩
      have L1 : Hid (Lim w4 w2.heap.size (.slice none 0 0) (.slice ao n2 co)) := lim_made.below b4
      have b4' := below_then b4
      have RM4 : Hid (Row w4 (.slice none 0 0) zm) := RM2.out.below b4'
      have RO4 : Hid (Row w4 (.slice ao n2 co) zo) := RO.out.below b4'
      have RH4 : Hid (Row w4 (.slice ah 0 ch) (zm.take 0)) := rh
      have B4 : Hid (Below w.heap.size w w4) := B2.out.trans (b4'.mono B2.out.size)
      clear rh b4 b4' RM2 RO B2
      go_wp2_with fail
      refine (clone_row' (zs := zm.drop 0) 0 (by have := LM.out; rw [List.drop_zero]; exact this) (by omega) (.inl ⟨none, 0, rfl, List.drop_eq_nil_of_le (by have := LM.out; omega), fun _ => rfl⟩)).mono ?_
      rintro e w5 ⟨atl, ct, rfl, rt, b5⟩
      have L2 : Hid (Lim w5 w4.heap.size (.slice ah 0 ch) (.slice none 0 0)) := lim_made.below b5
      have b5' := below_then b5
      have L1' : Hid (Lim w5 w2.heap.size (.slice none 0 0) (.slice ao n2 co)) := L1.out.below b5'
      have RM5 : Hid (Row w5 (.slice none 0 0) zm) := RM4.out.below b5'
      have RO5 : Hid (Row w5 (.slice ao n2 co) zo) := RO4.out.below b5'
      have RH5 : Hid (Row w5 (.slice ah 0 ch) (zm.take 0)) := RH4.out.below b5'
      have RT5 : Hid (Row w5 (.slice atl (0) ct) (zm.drop 0)) := rt
      have B5 : Hid (Below w.heap.size w w5) := B4.out.trans (b5'.mono B4.out.size)
      clear rt b5 b5' RM4 RO4 RH4 L1 B4
      go_wp2_with fail
      refine (clone_row' (zs := zo) n2 LO.out (by omega) RO5.out).mono ?_
      rintro e w6 ⟨af, cf, rfl, rf, b6⟩
      have L1 : Hid (Lim w6 w2.heap.size (.slice none 0 0) (.slice ao n2 co)) := L1'.out.below b6
      have L2' : Hid (Lim w6 w4.heap.size (.slice ah 0 ch) (.slice none 0 0)) := L2.out.below b6
      have RM6 : Hid (Row w6 (.slice none 0 0) zm) := RM5.out.below b6
      have RO6 : Hid (Row w6 (.slice ao n2 co) zo) := RO5.out.below b6
      have RH6 : Hid (Row w6 (.slice ah 0 ch) (zm.take 0)) := RH5.out.below b6
      have RT6 : Hid (Row w6 (.slice atl (0) ct) (zm.drop 0)) := RT5.out.below b6
      have RF6 : Hid (Row w6 (.slice af n2 cf) zo) := rf
      have B6 : Hid (Below w.heap.size w w6) := B5.out.trans (b6.mono B5.out.size)
      clear rf b6 RM5 RO5 RH5 RT5 L1' L2 B5
      go_wp2_with fail
      refine (join_rows' (xs := zm) (ys := zo) n2 (by have := LM.out; have := LO.out; simp; omega) (by omega) (RM6.out.below (below_new _ _)) (RO6.out.below (below_new _ _))).mono ?_
      rintro e w7 ⟨aj, cj, rfl, rj, b7⟩
      have L3 : Hid (Lim w7 w6.heap.size (.slice atl (0) ct) (.slice af n2 cf)) := lim_made.below b7
      have b7' := below_then b7
      have L1' : Hid (Lim w7 w2.heap.size (.slice none 0 0) (.slice ao n2 co)) := L1.out.below b7'
      have L2 : Hid (Lim w7 w4.heap.size (.slice ah 0 ch) (.slice none 0 0)) := L2'.out.below b7'
      have RM7 : Hid (Row w7 (.slice none 0 0) zm) := RM6.out.below b7'
      have RO7 : Hid (Row w7 (.slice ao n2 co) zo) := RO6.out.below b7'
      have RH7 : Hid (Row w7 (.slice ah 0 ch) (zm.take 0)) := RH6.out.below b7'
      have RT7 : Hid (Row w7 (.slice atl (0) ct) (zm.drop 0)) := RT6.out.below b7'
      have RF7 : Hid (Row w7 (.slice af n2 cf) zo) := RF6.out.below b7'
      have RJ7 : Hid (Row w7 (.slice aj n2 cj) (zm ++ zo)) := rj
      have B7 : Hid (Below w.heap.size w w7) := B6.out.trans (b7'.mono B6.out.size)
      clear rj b7 b7' RM6 RO6 RH6 RT6 RF6 L1 L2' B6
      go_wp2_with fail
      refine (selects_lim (L1'.out.below (below_new _ _)) (RM7.out.below (below_new _ _)) (RO7.out.below (below_new _ _)) (by have := LM.out; have := LO.out; omega) q1 HQ1.out).mono ?_
      rintro e w8 ⟨rfl, b8⟩
      have L4 : Hid (Lim w8 w7.heap.size (.slice none 0 0) (.slice aj n2 cj)) := lim_made.below b8
      have b8' := below_then b8
      have L2' : Hid (Lim w8 w4.heap.size (.slice ah 0 ch) (.slice none 0 0)) := L2.out.below b8'
      have L3' : Hid (Lim w8 w6.heap.size (.slice atl (0) ct) (.slice af n2 cf)) := L3.out.below b8'
      have RH8 : Hid (Row w8 (.slice ah 0 ch) (zm.take 0)) := RH7.out.below b8'
      have RT8 : Hid (Row w8 (.slice atl (0) ct) (zm.drop 0)) := RT7.out.below b8'
      have RF8 : Hid (Row w8 (.slice af n2 cf) zo) := RF7.out.below b8'
      have RJ8 : Hid (Row w8 (.slice aj n2 cj) (zm ++ zo)) := RJ7.out.below b8'
      have B8 : Hid (Below w.heap.size w w8) := B7.out.trans (b8'.mono B7.out.size)
      clear b8 b8' RM7 RO7 RH7 RT7 RF7 RJ7 L1' L2 L3 B7
      go_wp2_with fail
      refine (selects_lim L2'.out RH8.out (ys := []) (.inl ⟨none, 0, rfl, rfl, fun _ => rfl⟩) (by simp) q2 HQ2.out).mono ?_
      rintro e w9 ⟨rfl, b9⟩
      have L3 : Hid (Lim w9 w6.heap.size (.slice atl (0) ct) (.slice af n2 cf)) := L3'.out.below b9
      have L4' : Hid (Lim w9 w7.heap.size (.slice none 0 0) (.slice aj n2 cj)) := L4.out.below b9
      have RT9 : Hid (Row w9 (.slice atl (0) ct) (zm.drop 0)) := RT8.out.below b9
      have RF9 : Hid (Row w9 (.slice af n2 cf) zo) := RF8.out.below b9
      have RJ9 : Hid (Row w9 (.slice aj n2 cj) (zm ++ zo)) := RJ8.out.below b9
      have B9 : Hid (Below w.heap.size w w9) := B8.out.trans (b9.mono B8.out.size)
      clear b9 RH8 RT8 RF8 RJ8 L2' L3' L4 B8
      go_wp2_with fail
      refine (selects_lim L3.out RT9.out RF9.out (by have := LM.out; have := LO.out; simp; omega) q3 HQ3.out).mono ?_
      rintro e w10 ⟨rfl, b10⟩
      have L4 : Hid (Lim w10 w7.heap.size (.slice none 0 0) (.slice aj n2 cj)) := L4'.out.below b10
      have RJ10 : Hid (Row w10 (.slice aj n2 cj) (zm ++ zo)) := RJ9.out.below b10
      have B10 : Hid (Below w.heap.size w w10) := B9.out.trans (b10.mono B9.out.size)
      clear b10 RT9 RF9 RJ9 L3 L4' B9
      go_wp2_with fail
      refine (selects_lim L4.out (xs := []) (.inl ⟨none, 0, rfl, rfl, fun _ => rfl⟩) RJ10.out (by have := LM.out; have := LO.out; simp; omega) q4 HQ4.out).mono ?_
      rintro e w11 ⟨rfl, b11⟩
      have B11 : Hid (Below w.heap.size w w11) := B10.out.trans (b11.mono B10.out.size)
      clear b11 RJ10 L4 B10
      have hend := bools_end AM.out AO.out HQ1.out HQ2.out HQ3.out HQ4.out
      clear HQ1 HQ2 HQ3 HQ4 AM AO LM LO
      go_wp2_with fail
      refine (hany0 w11 B11.out).mono ?_
      rintro e w12 ⟨rfl, rfl⟩
      cases r0 with
      | true =>
        obtain ⟨rfl, rfl, he⟩ := hend.1 rfl
        cases q2 with
        | true =>
          go_wp2
          go_ret
          exact ⟨rfl, B11.out⟩
        | false =>
          obtain rfl := he rfl
          go_wp2
          go_ret
          exact ⟨rfl, B11.out⟩
      | false =>
        obtain ⟨rfl, rfl, rfl, rfl⟩ := hend.2 rfl
        go_wp2_with fail
        refine (hany2 w11 B11.out).mono ?_
        rintro e w13 ⟨rfl, rfl⟩
        cases q3 with
        | true =>
          go_wp2
          go_ret
          exact ⟨rfl, B11.out⟩
        | false =>
          go_wp2
          go_ret
          exact ⟨rfl, B11.out⟩
    · rcases Nat.lt_or_ge cut n0 with hcut | hcut
      · have hcz : (cut : Int) < (n0 : Int) := by omega
        go_wp2_with fail
        refine (clone_row' (zs := zm.take cut) cut (by have := LM.out; simp; omega) (by omega) (row_take (RM2.out.below (below_new _ _)) LM.out cut lc (Nat.le_refl _))).mono ?_
        rintro e w4 ⟨ah, ch, rfl, rh, b4⟩
        have L1 : Hid (Lim w4 w2.heap.size (.slice (some ⟨w.heap.size, 0, none⟩) n0 n0) (.slice ao n2 co)) := lim_made.below b4
        have b4' := below_then b4
        have RM4 : Hid (Row w4 (.slice (some ⟨w.heap.size, 0, none⟩) n0 n0) zm) := RM2.out.below b4'
        have RO4 : Hid (Row w4 (.slice ao n2 co) zo) := RO.out.below b4'
        have RH4 : Hid (Row w4 (.slice ah cut ch) (zm.take cut)) := rh
        have B4 : Hid (Below w.heap.size w w4) := B2.out.trans (b4'.mono B2.out.size)
        clear rh b4 b4' RM2 RO B2
        go_wp2_with fail
        refine (clone_row' (zs := zm.drop cut) (n0 - cut) (by have := LM.out; simp; omega) (by omega) (row_drop (RM4.out.below (below_new _ _)) LM.out cut lc _ (fun _ => rfl) (Nat.le_refl _) (fun h => by cases h))).mono ?_
        rintro e w5 ⟨atl, ct, rfl, rt, b5⟩
        have L2 : Hid (Lim w5 w4.heap.size (.slice ah cut ch) (.slice none 0 0)) := lim_made.below b5
        have b5' := below_then b5
        have L1' : Hid (Lim w5 w2.heap.size (.slice (some ⟨w.heap.size, 0, none⟩) n0 n0) (.slice ao n2 co)) := L1.out.below b5'
        have RM5 : Hid (Row w5 (.slice (some ⟨w.heap.size, 0, none⟩) n0 n0) zm) := RM4.out.below b5'
        have RO5 : Hid (Row w5 (.slice ao n2 co) zo) := RO4.out.below b5'
        have RH5 : Hid (Row w5 (.slice ah cut ch) (zm.take cut)) := RH4.out.below b5'
        have RT5 : Hid (Row w5 (.slice atl ((n0 - cut)) ct) (zm.drop cut)) := rt
        have B5 : Hid (Below w.heap.size w w5) := B4.out.trans (b5'.mono B4.out.size)
        clear rt b5 b5' RM4 RO4 RH4 L1 B4
        go_wp2_with fail
        refine (clone_row' (zs := zo) n2 LO.out (by omega) RO5.out).mono ?_
        rintro e w6 ⟨af, cf, rfl, rf, b6⟩
        have L1 : Hid (Lim w6 w2.heap.size (.slice (some ⟨w.heap.size, 0, none⟩) n0 n0) (.slice ao n2 co)) := L1'.out.below b6
        have L2' : Hid (Lim w6 w4.heap.size (.slice ah cut ch) (.slice none 0 0)) := L2.out.below b6
        have RM6 : Hid (Row w6 (.slice (some ⟨w.heap.size, 0, none⟩) n0 n0) zm) := RM5.out.below b6
        have RO6 : Hid (Row w6 (.slice ao n2 co) zo) := RO5.out.below b6
        have RH6 : Hid (Row w6 (.slice ah cut ch) (zm.take cut)) := RH5.out.below b6
        have RT6 : Hid (Row w6 (.slice atl ((n0 - cut)) ct) (zm.drop cut)) := RT5.out.below b6
        have RF6 : Hid (Row w6 (.slice af n2 cf) zo) := rf
        have B6 : Hid (Below w.heap.size w w6) := B5.out.trans (b6.mono B5.out.size)
        clear rf b6 RM5 RO5 RH5 RT5 L1' L2 B5
        go_wp2_with fail
        refine (join_rows' (xs := zm) (ys := zo) (n0 + n2) (by have := LM.out; have := LO.out; simp; omega) (by omega) (RM6.out.below (below_new _ _)) (RO6.out.below (below_new _ _))).mono ?_
        rintro e w7 ⟨aj, cj, rfl, rj, b7⟩
        have L3 : Hid (Lim w7 w6.heap.size (.slice atl ((n0 - cut)) ct) (.slice af n2 cf)) := lim_made.below b7
        have b7' := below_then b7
        have L1' : Hid (Lim w7 w2.heap.size (.slice (some ⟨w.heap.size, 0, none⟩) n0 n0) (.slice ao n2 co)) := L1.out.below b7'
        have L2 : Hid (Lim w7 w4.heap.size (.slice ah cut ch) (.slice none 0 0)) := L2'.out.below b7'
        have RM7 : Hid (Row w7 (.slice (some ⟨w.heap.size, 0, none⟩) n0 n0) zm) := RM6.out.below b7'
        have RO7 : Hid (Row w7 (.slice ao n2 co) zo) := RO6.out.below b7'
        have RH7 : Hid (Row w7 (.slice ah cut ch) (zm.take cut)) := RH6.out.below b7'
        have RT7 : Hid (Row w7 (.slice atl ((n0 - cut)) ct) (zm.drop cut)) := RT6.out.below b7'
        have RF7 : Hid (Row w7 (.slice af n2 cf) zo) := RF6.out.below b7'
        have RJ7 : Hid (Row w7 (.slice aj (n0 + n2) cj) (zm ++ zo)) := rj
        have B7 : Hid (Below w.heap.size w w7) := B6.out.trans (b7'.mono B6.out.size)
        clear rj b7 b7' RM6 RO6 RH6 RT6 RF6 L1 L2' B6
        go_wp2_with fail
        refine (selects_lim (L1'.out.below (below_new _ _)) (RM7.out.below (below_new _ _)) (RO7.out.below (below_new _ _)) (by have := LM.out; have := LO.out; omega) q1 HQ1.out).mono ?_
        rintro e w8 ⟨rfl, b8⟩
        have L4 : Hid (Lim w8 w7.heap.size (.slice none 0 0) (.slice aj (n0 + n2) cj)) := lim_made.below b8
        have b8' := below_then b8
        have L2' : Hid (Lim w8 w4.heap.size (.slice ah cut ch) (.slice none 0 0)) := L2.out.below b8'
        have L3' : Hid (Lim w8 w6.heap.size (.slice atl ((n0 - cut)) ct) (.slice af n2 cf)) := L3.out.below b8'
        have RH8 : Hid (Row w8 (.slice ah cut ch) (zm.take cut)) := RH7.out.below b8'
        have RT8 : Hid (Row w8 (.slice atl ((n0 - cut)) ct) (zm.drop cut)) := RT7.out.below b8'
        have RF8 : Hid (Row w8 (.slice af n2 cf) zo) := RF7.out.below b8'
        have RJ8 : Hid (Row w8 (.slice aj (n0 + n2) cj) (zm ++ zo)) := RJ7.out.below b8'
        have B8 : Hid (Below w.heap.size w w8) := B7.out.trans (b8'.mono B7.out.size)
        clear b8 b8' RM7 RO7 RH7 RT7 RF7 RJ7 L1' L2 L3 B7
        go_wp2_with fail
        refine (selects_lim L2'.out RH8.out (ys := []) (.inl ⟨none, 0, rfl, rfl, fun _ => rfl⟩) (by have := LM.out; simp; omega) q2 HQ2.out).mono ?_
        rintro e w9 ⟨rfl, b9⟩
        have L3 : Hid (Lim w9 w6.heap.size (.slice atl ((n0 - cut)) ct) (.slice af n2 cf)) := L3'.out.below b9
        have L4' : Hid (Lim w9 w7.heap.size (.slice none 0 0) (.slice aj (n0 + n2) cj)) := L4.out.below b9
        have RT9 : Hid (Row w9 (.slice atl ((n0 - cut)) ct) (zm.drop cut)) := RT8.out.below b9
        have RF9 : Hid (Row w9 (.slice af n2 cf) zo) := RF8.out.below b9
        have RJ9 : Hid (Row w9 (.slice aj (n0 + n2) cj) (zm ++ zo)) := RJ8.out.below b9
        have B9 : Hid (Below w.heap.size w w9) := B8.out.trans (b9.mono B8.out.size)
        clear b9 RH8 RT8 RF8 RJ8 L2' L3' L4 B8
        go_wp2_with fail
        refine (selects_lim L3.out RT9.out RF9.out (by have := LM.out; have := LO.out; simp; omega) q3 HQ3.out).mono ?_
        rintro e w10 ⟨rfl, b10⟩
        have L4 : Hid (Lim w10 w7.heap.size (.slice none 0 0) (.slice aj (n0 + n2) cj)) := L4'.out.below b10
        have RJ10 : Hid (Row w10 (.slice aj (n0 + n2) cj) (zm ++ zo)) := RJ9.out.below b10
        have B10 : Hid (Below w.heap.size w w10) := B9.out.trans (b10.mono B9.out.size)
        clear b10 RT9 RF9 RJ9 L3 L4' B9
        go_wp2_with fail
        refine (selects_lim L4.out (xs := []) (.inl ⟨none, 0, rfl, rfl, fun _ => rfl⟩) RJ10.out (by have := LM.out; have := LO.out; simp; omega) q4 HQ4.out).mono ?_
        rintro e w11 ⟨rfl, b11⟩
        have B11 : Hid (Below w.heap.size w w11) := B10.out.trans (b11.mono B10.out.size)
        clear b11 RJ10 L4 B10
        have hend := bools_end AM.out AO.out HQ1.out HQ2.out HQ3.out HQ4.out
        clear HQ1 HQ2 HQ3 HQ4 AM AO LM LO
        go_wp2_with fail
        refine (hany0 w11 B11.out).mono ?_
        rintro e w12 ⟨rfl, rfl⟩
        cases r0 with
        | true =>
          obtain ⟨rfl, rfl, he⟩ := hend.1 rfl
          cases q2 with
          | true =>
            go_wp2
            go_ret
            exact ⟨rfl, B11.out⟩
          | false =>
            obtain rfl := he rfl
            go_wp2
            go_ret
            exact ⟨rfl, B11.out⟩
        | false =>
          obtain ⟨rfl, rfl, rfl, rfl⟩ := hend.2 rfl
          go_wp2_with fail
          refine (hany2 w11 B11.out).mono ?_
          rintro e w13 ⟨rfl, rfl⟩
          cases q3 with
          | true =>
            go_wp2
            go_ret
            exact ⟨rfl, B11.out⟩
          | false =>
            go_wp2
            go_ret
            exact ⟨rfl, B11.out⟩
      · obtain rfl : cut = n0 := by omega
        go_wp2_with fail
        refine (clone_row' (zs := zm.take cut) cut (by have := LM.out; simp; omega) (by omega) (row_take (RM2.out.below (below_new _ _)) LM.out cut lc (Nat.le_refl _))).mono ?_
        rintro e w4 ⟨ah, ch, rfl, rh, b4⟩
        have L1 : Hid (Lim w4 w2.heap.size (.slice (some ⟨w.heap.size, 0, none⟩) cut cut) (.slice ao n2 co)) := lim_made.below b4
        have b4' := below_then b4
        have RM4 : Hid (Row w4 (.slice (some ⟨w.heap.size, 0, none⟩) cut cut) zm) := RM2.out.below b4'
        have RO4 : Hid (Row w4 (.slice ao n2 co) zo) := RO.out.below b4'
        have RH4 : Hid (Row w4 (.slice ah cut ch) (zm.take cut)) := rh
        have B4 : Hid (Below w.heap.size w w4) := B2.out.trans (b4'.mono B2.out.size)
        clear rh b4 b4' RM2 RO B2
        go_wp2_with fail
        refine (clone_row' (zs := zm.drop cut) 0 (by have := LM.out; simp; omega) (by omega) (.inl ⟨_, _, rfl, List.drop_eq_nil_of_le (by have := LM.out; omega), fun h => by cases h⟩)).mono ?_
        rintro e w5 ⟨atl, ct, rfl, rt, b5⟩
        have L2 : Hid (Lim w5 w4.heap.size (.slice ah cut ch) (.slice none 0 0)) := lim_made.below b5
        have b5' := below_then b5
        have L1' : Hid (Lim w5 w2.heap.size (.slice (some ⟨w.heap.size, 0, none⟩) cut cut) (.slice ao n2 co)) := L1.out.below b5'
        have RM5 : Hid (Row w5 (.slice (some ⟨w.heap.size, 0, none⟩) cut cut) zm) := RM4.out.below b5'
        have RO5 : Hid (Row w5 (.slice ao n2 co) zo) := RO4.out.below b5'
        have RH5 : Hid (Row w5 (.slice ah cut ch) (zm.take cut)) := RH4.out.below b5'
        have RT5 : Hid (Row w5 (.slice atl (0) ct) (zm.drop cut)) := rt
        have B5 : Hid (Below w.heap.size w w5) := B4.out.trans (b5'.mono B4.out.size)
        clear rt b5 b5' RM4 RO4 RH4 L1 B4
        go_wp2_with fail
        refine (clone_row' (zs := zo) n2 LO.out (by omega) RO5.out).mono ?_
        rintro e w6 ⟨af, cf, rfl, rf, b6⟩
        have L1 : Hid (Lim w6 w2.heap.size (.slice (some ⟨w.heap.size, 0, none⟩) cut cut) (.slice ao n2 co)) := L1'.out.below b6
        have L2' : Hid (Lim w6 w4.heap.size (.slice ah cut ch) (.slice none 0 0)) := L2.out.below b6
        have RM6 : Hid (Row w6 (.slice (some ⟨w.heap.size, 0, none⟩) cut cut) zm) := RM5.out.below b6
        have RO6 : Hid (Row w6 (.slice ao n2 co) zo) := RO5.out.below b6
        have RH6 : Hid (Row w6 (.slice ah cut ch) (zm.take cut)) := RH5.out.below b6
        have RT6 : Hid (Row w6 (.slice atl (0) ct) (zm.drop cut)) := RT5.out.below b6
        have RF6 : Hid (Row w6 (.slice af n2 cf) zo) := rf
        have B6 : Hid (Below w.heap.size w w6) := B5.out.trans (b6.mono B5.out.size)
        clear rf b6 RM5 RO5 RH5 RT5 L1' L2 B5
        go_wp2_with fail
        refine (join_rows' (xs := zm) (ys := zo) (cut + n2) (by have := LM.out; have := LO.out; simp; omega) (by omega) (RM6.out.below (below_new _ _)) (RO6.out.below (below_new _ _))).mono ?_
        rintro e w7 ⟨aj, cj, rfl, rj, b7⟩
        have L3 : Hid (Lim w7 w6.heap.size (.slice atl (0) ct) (.slice af n2 cf)) := lim_made.below b7
        have b7' := below_then b7
        have L1' : Hid (Lim w7 w2.heap.size (.slice (some ⟨w.heap.size, 0, none⟩) cut cut) (.slice ao n2 co)) := L1.out.below b7'
        have L2 : Hid (Lim w7 w4.heap.size (.slice ah cut ch) (.slice none 0 0)) := L2'.out.below b7'
        have RM7 : Hid (Row w7 (.slice (some ⟨w.heap.size, 0, none⟩) cut cut) zm) := RM6.out.below b7'
        have RO7 : Hid (Row w7 (.slice ao n2 co) zo) := RO6.out.below b7'
        have RH7 : Hid (Row w7 (.slice ah cut ch) (zm.take cut)) := RH6.out.below b7'
        have RT7 : Hid (Row w7 (.slice atl (0) ct) (zm.drop cut)) := RT6.out.below b7'
        have RF7 : Hid (Row w7 (.slice af n2 cf) zo) := RF6.out.below b7'
        have RJ7 : Hid (Row w7 (.slice aj (cut + n2) cj) (zm ++ zo)) := rj
        have B7 : Hid (Below w.heap.size w w7) := B6.out.trans (b7'.mono B6.out.size)
        clear rj b7 b7' RM6 RO6 RH6 RT6 RF6 L1 L2' B6
        go_wp2_with fail
        refine (selects_lim (L1'.out.below (below_new _ _)) (RM7.out.below (below_new _ _)) (RO7.out.below (below_new _ _)) (by have := LM.out; have := LO.out; omega) q1 HQ1.out).mono ?_
        rintro e w8 ⟨rfl, b8⟩
        have L4 : Hid (Lim w8 w7.heap.size (.slice none 0 0) (.slice aj (cut + n2) cj)) := lim_made.below b8
        have b8' := below_then b8
        have L2' : Hid (Lim w8 w4.heap.size (.slice ah cut ch) (.slice none 0 0)) := L2.out.below b8'
        have L3' : Hid (Lim w8 w6.heap.size (.slice atl (0) ct) (.slice af n2 cf)) := L3.out.below b8'
        have RH8 : Hid (Row w8 (.slice ah cut ch) (zm.take cut)) := RH7.out.below b8'
        have RT8 : Hid (Row w8 (.slice atl (0) ct) (zm.drop cut)) := RT7.out.below b8'
        have RF8 : Hid (Row w8 (.slice af n2 cf) zo) := RF7.out.below b8'
        have RJ8 : Hid (Row w8 (.slice aj (cut + n2) cj) (zm ++ zo)) := RJ7.out.below b8'
        have B8 : Hid (Below w.heap.size w w8) := B7.out.trans (b8'.mono B7.out.size)
        clear b8 b8' RM7 RO7 RH7 RT7 RF7 RJ7 L1' L2 L3 B7
        go_wp2_with fail
        refine (selects_lim L2'.out RH8.out (ys := []) (.inl ⟨none, 0, rfl, rfl, fun _ => rfl⟩) (by have := LM.out; simp; omega) q2 HQ2.out).mono ?_
        rintro e w9 ⟨rfl, b9⟩
        have L3 : Hid (Lim w9 w6.heap.size (.slice atl (0) ct) (.slice af n2 cf)) := L3'.out.below b9
        have L4' : Hid (Lim w9 w7.heap.size (.slice none 0 0) (.slice aj (cut + n2) cj)) := L4.out.below b9
        have RT9 : Hid (Row w9 (.slice atl (0) ct) (zm.drop cut)) := RT8.out.below b9
        have RF9 : Hid (Row w9 (.slice af n2 cf) zo) := RF8.out.below b9
        have RJ9 : Hid (Row w9 (.slice aj (cut + n2) cj) (zm ++ zo)) := RJ8.out.below b9
        have B9 : Hid (Below w.heap.size w w9) := B8.out.trans (b9.mono B8.out.size)
        clear b9 RH8 RT8 RF8 RJ8 L2' L3' L4 B8
        go_wp2_with fail
        refine (selects_lim L3.out RT9.out RF9.out (by have := LM.out; have := LO.out; simp; omega) q3 HQ3.out).mono ?_
        rintro e w10 ⟨rfl, b10⟩
        have L4 : Hid (Lim w10 w7.heap.size (.slice none 0 0) (.slice aj (cut + n2) cj)) := L4'.out.below b10
        have RJ10 : Hid (Row w10 (.slice aj (cut + n2) cj) (zm ++ zo)) := RJ9.out.below b10
        have B10 : Hid (Below w.heap.size w w10) := B9.out.trans (b10.mono B9.out.size)
        clear b10 RT9 RF9 RJ9 L3 L4' B9
        go_wp2_with fail
        refine (selects_lim L4.out (xs := []) (.inl ⟨none, 0, rfl, rfl, fun _ => rfl⟩) RJ10.out (by have := LM.out; have := LO.out; simp; omega) q4 HQ4.out).mono ?_
        rintro e w11 ⟨rfl, b11⟩
        have B11 : Hid (Below w.heap.size w w11) := B10.out.trans (b11.mono B10.out.size)
        clear b11 RJ10 L4 B10
        have hend := bools_end AM.out AO.out HQ1.out HQ2.out HQ3.out HQ4.out
        clear HQ1 HQ2 HQ3 HQ4 AM AO LM LO
        go_wp2_with fail
        refine (hany0 w11 B11.out).mono ?_
        rintro e w12 ⟨rfl, rfl⟩
        cases r0 with
        | true =>
          obtain ⟨rfl, rfl, he⟩ := hend.1 rfl
          cases q2 with
          | true =>
            go_wp2
            go_ret
            exact ⟨rfl, B11.out⟩
          | false =>
            obtain rfl := he rfl
            go_wp2
            go_ret
            exact ⟨rfl, B11.out⟩
        | false =>
          obtain ⟨rfl, rfl, rfl, rfl⟩ := hend.2 rfl
          go_wp2_with fail
          refine (hany2 w11 B11.out).mono ?_
          rintro e w13 ⟨rfl, rfl⟩
          cases q3 with
          | true =>
            go_wp2
            go_ret
            exact ⟨rfl, B11.out⟩
          | false =>
            go_wp2
            go_ret
            exact ⟨rfl, B11.out⟩

end Go.Proofs.Qxb6618977a
