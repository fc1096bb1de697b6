/-
  Seat b6616484a: the walk of FnFailedErrorTextCutsAtMessage (3).
-/
import Derived.Test.Qxb6616484aHeads
namespace Go.Proofs.Qxb6616484a
open Go.RowKit

theorem grown_trans {a b c : World} (h : Grown a b) (k : Grown b c) : Grown a c :=
  ⟨World.keptBut_trans h.1 k.1, fun x => (k.2.1 x).trans (h.2.1 x), Nat.le_trans h.2.2 k.2.2⟩

set_option maxHeartbeats 2000000 in
theorem cuts_core (p r : Bool) (a b WH PT HD SI : ByteArray) (w : World) (ha : a.size ≤ 524288) (hb : b.size ≤ 524288)
    (c5 : ∀ W, Calls Try.prog 5 #[.bool p, .bool r, .string a, .string b] W fun e w' => (∃ q : Bool, e = .returned (.bool q)) ∧ W = w')
    (c1 : ∀ W, Calls Try.prog 6 #[.bool p, .bool r, .string (a ++ b)] W fun e w' => e = .returned (.string WH) ∧ Grown W w')
    (c2 : ∀ W, Calls Try.prog 6 #[.bool p, .bool r, .string a] W fun e w' => e = .returned (.string PT) ∧ Grown W w')
    (c3 : ∀ W, Calls Try.prog 6 #[.bool p, .bool r, .string ⟨#[]⟩] W fun e w' => e = .returned (.string HD) ∧ Grown W w')
    (c4 : ∀ W, Calls Try.prog 6 #[.bool (!p), .bool r, .string ⟨#[]⟩] W fun e w' => e = .returned (.string SI) ∧ Grown W w')
    (s1 : PT.size ≤ 1048576) (s2 : HD.size ≤ 1048576)
    (e1 : (WH.toList == (PT ++ b).toList) = true) (e2 : (PT.toList == (HD ++ a).toList) = true) (e3 : (HD.toList == SI.toList) = r)
    (c7 : ∀ W, Calls Try.prog 7 #[.string HD, .string preB] W fun e w' => e = .returned (.bool true) ∧ W = w')
    (c8 : ∀ W, Calls Try.prog 8 #[.string HD, .string colB] W fun e w' => e = .returned (.bool true) ∧ W = w')
    (c9 : ∀ W, Calls Try.prog 9 #[.string HD, .string permB] W fun e w' => e = .returned (.bool (p || r)) ∧ W = w')
    (c10 : ∀ W, Calls Try.prog 9 #[.string HD, .string earlB] W fun e w' => e = .returned (.bool r) ∧ W = w') :
    Calls Try.prog 3 #[.bool p, .bool r, .string a, .string b] w fun e w' => e = .returned (.bool true) ∧ Grown w w' := by
  unfold preB at c7
  unfold colB at c8
  unfold permB at c9
  unfold earlB at c10
  have H1 : Hid (∀ W, Calls Try.prog 6 #[.bool p, .bool r, .string (a ++ b)] W fun e w' => e = .returned (.string WH) ∧ Grown W w') := c1
  have H2 : Hid (∀ W, Calls Try.prog 6 #[.bool p, .bool r, .string a] W fun e w' => e = .returned (.string PT) ∧ Grown W w') := c2
  have H3 : Hid (∀ W, Calls Try.prog 6 #[.bool p, .bool r, .string ⟨#[]⟩] W fun e w' => e = .returned (.string HD) ∧ Grown W w') := c3
  have H4 : Hid (∀ W, Calls Try.prog 6 #[.bool (!p), .bool r, .string ⟨#[]⟩] W fun e w' => e = .returned (.string SI) ∧ Grown W w') := c4
  clear c1 c2 c3 c4
  cases p with
  | true =>
    cases r with
    | true =>
      go_enter Try.func3, Try.ntmps3
      go_wp2_with fail
      refine (c5 w).mono ?_
      rintro e w' ⟨⟨q, rfl⟩, hw⟩
      obtain rfl := hw
      cases q with
      | false => go_wp2; go_ret; exact ⟨rfl, Grown.refl _⟩
      | true =>
        go_wp2_with fail
        refine (H1.out _).mono ?_
        rintro e w1 ⟨rfl, g1⟩
        go_wp2_with fail
        refine (H2.out _).mono ?_
        rintro e w2 ⟨rfl, g2⟩
        go_wp2_with fail
        refine (H3.out _).mono ?_
        rintro e w3 ⟨rfl, g3⟩
        go_wp2_with fail
        refine (H4.out _).mono ?_
        rintro e w4 ⟨rfl, g4⟩
        have HG : Hid (Grown w w4) := grown_trans (grown_trans (grown_trans g1 g2) g3) g4
        clear g1 g2 g3 g4 H1 H2 H3 H4 c5
        go_wp2_with fail
        refine (c7 _).mono ?_
        rintro e w5 ⟨rfl, rfl⟩
        go_wp2_with fail
        refine (c8 _).mono ?_
        rintro e w6 ⟨rfl, rfl⟩
        go_wp2_with fail
        refine (c9 _).mono ?_
        rintro e w7 ⟨rfl, rfl⟩
        go_wp2_with fail
        refine (c10 _).mono ?_
        rintro e w8 ⟨rfl, rfl⟩
        go_wp2
        go_ret
        exact ⟨rfl, HG.out⟩
    | false =>
      go_enter Try.func3, Try.ntmps3
      go_wp2_with fail
      refine (c5 w).mono ?_
      rintro e w' ⟨⟨q, rfl⟩, hw⟩
      obtain rfl := hw
      cases q with
      | false => go_wp2; go_ret; exact ⟨rfl, Grown.refl _⟩
      | true =>
        go_wp2_with fail
        refine (H1.out _).mono ?_
        rintro e w1 ⟨rfl, g1⟩
        go_wp2_with fail
        refine (H2.out _).mono ?_
        rintro e w2 ⟨rfl, g2⟩
        go_wp2_with fail
        refine (H3.out _).mono ?_
        rintro e w3 ⟨rfl, g3⟩
        go_wp2_with fail
        refine (H4.out _).mono ?_
        rintro e w4 ⟨rfl, g4⟩
        have HG : Hid (Grown w w4) := grown_trans (grown_trans (grown_trans g1 g2) g3) g4
        clear g1 g2 g3 g4 H1 H2 H3 H4 c5
        go_wp2_with fail
        refine (c7 _).mono ?_
        rintro e w5 ⟨rfl, rfl⟩
        go_wp2_with fail
        refine (c8 _).mono ?_
        rintro e w6 ⟨rfl, rfl⟩
        go_wp2_with fail
        refine (c9 _).mono ?_
        rintro e w7 ⟨rfl, rfl⟩
        go_wp2_with fail
        refine (c10 _).mono ?_
        rintro e w8 ⟨rfl, rfl⟩
        go_wp2
        go_ret
        exact ⟨rfl, HG.out⟩
  | false =>
    cases r with
    | true =>
      go_enter Try.func3, Try.ntmps3
      go_wp2_with fail
      refine (c5 w).mono ?_
      rintro e w' ⟨⟨q, rfl⟩, hw⟩
      obtain rfl := hw
      cases q with
      | false => go_wp2; go_ret; exact ⟨rfl, Grown.refl _⟩
      | true =>
        go_wp2_with fail
        refine (H1.out _).mono ?_
        rintro e w1 ⟨rfl, g1⟩
        go_wp2_with fail
        refine (H2.out _).mono ?_
        rintro e w2 ⟨rfl, g2⟩
        go_wp2_with fail
        refine (H3.out _).mono ?_
        rintro e w3 ⟨rfl, g3⟩
        go_wp2_with fail
        refine (H4.out _).mono ?_
        rintro e w4 ⟨rfl, g4⟩
        have HG : Hid (Grown w w4) := grown_trans (grown_trans (grown_trans g1 g2) g3) g4
        clear g1 g2 g3 g4 H1 H2 H3 H4 c5
        go_wp2_with fail
        refine (c7 _).mono ?_
        rintro e w5 ⟨rfl, rfl⟩
        go_wp2_with fail
        refine (c8 _).mono ?_
        rintro e w6 ⟨rfl, rfl⟩
        go_wp2_with fail
        refine (c9 _).mono ?_
        rintro e w7 ⟨rfl, rfl⟩
        go_wp2_with fail
        refine (c10 _).mono ?_
        rintro e w8 ⟨rfl, rfl⟩
        go_wp2
        go_ret
        exact ⟨rfl, HG.out⟩
    | false =>
      go_enter Try.func3, Try.ntmps3
      go_wp2_with fail
      refine (c5 w).mono ?_
      rintro e w' ⟨⟨q, rfl⟩, hw⟩
      obtain rfl := hw
      cases q with
      | false => go_wp2; go_ret; exact ⟨rfl, Grown.refl _⟩
      | true =>
        go_wp2_with fail
        refine (H1.out _).mono ?_
        rintro e w1 ⟨rfl, g1⟩
        go_wp2_with fail
        refine (H2.out _).mono ?_
        rintro e w2 ⟨rfl, g2⟩
        go_wp2_with fail
        refine (H3.out _).mono ?_
        rintro e w3 ⟨rfl, g3⟩
        go_wp2_with fail
        refine (H4.out _).mono ?_
        rintro e w4 ⟨rfl, g4⟩
        have HG : Hid (Grown w w4) := grown_trans (grown_trans (grown_trans g1 g2) g3) g4
        clear g1 g2 g3 g4 H1 H2 H3 H4 c5
        go_wp2_with fail
        refine (c7 _).mono ?_
        rintro e w5 ⟨rfl, rfl⟩
        go_wp2_with fail
        refine (c8 _).mono ?_
        rintro e w6 ⟨rfl, rfl⟩
        go_wp2_with fail
        refine (c9 _).mono ?_
        rintro e w7 ⟨rfl, rfl⟩
        go_wp2_with fail
        refine (c10 _).mono ?_
        rintro e w8 ⟨rfl, rfl⟩
        go_wp2
        go_ret
        exact ⟨rfl, HG.out⟩

end Go.Proofs.Qxb6616484a
