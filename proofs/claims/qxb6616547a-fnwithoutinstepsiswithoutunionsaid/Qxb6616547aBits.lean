/-
  Seat b6616547a: the plain law on 64-bit words: no Go in sight.
-/
import Derived.WalkKit
import Derived.Laws.BitsAllLaws
namespace Go.Proofs.Qxb6616547a

/-- A word as the walk writes it. -/
def num (A : BitVec 64) : Int := (A.toNat : Int)

theorem num_of (a : Int) (h0 : 0 ≤ a) (h1 : a ≤ 18446744073709551615) : ∃ A, a = num A := by
  refine ⟨BitVec.ofNat 64 a.toNat, ?_⟩
  unfold num
  rw [BitVec.toNat_ofNat, Nat.mod_eq_of_lt (by omega)]
  omega

theorem ofInt_num (A : BitVec 64) : BitVec.ofInt 64 (num A) = A := by
  unfold num
  rw [BitVec.ofInt_natCast, BitVec.ofNat_toNat, BitVec.setWidth_eq]

theorem wrap_num (A : BitVec 64) : IntKind.u64.wrap (num A) = num A := by
  unfold num
  rw [IntKind.wrap_u64]
  have := A.isLt
  omega

theorem num_and (A B : BitVec 64) : bits .and .u64 (num A) (num B) = num (A &&& B) := by
  show IntKind.u64.wrap (num (BitVec.ofInt 64 (num A) &&& BitVec.ofInt 64 (num B))) = _
  rw [ofInt_num, ofInt_num, wrap_num]

theorem num_or (A B : BitVec 64) : bits .or .u64 (num A) (num B) = num (A ||| B) := by
  show IntKind.u64.wrap (num (BitVec.ofInt 64 (num A) ||| BitVec.ofInt 64 (num B))) = _
  rw [ofInt_num, ofInt_num, wrap_num]

theorem num_andNot (A B : BitVec 64) : bits .andNot .u64 (num A) (num B) = num (A &&& ~~~B) := by
  show IntKind.u64.wrap (num (BitVec.ofInt 64 (num A) &&& ~~~BitVec.ofInt 64 (num B))) = _
  rw [ofInt_num, ofInt_num, wrap_num]

theorem bv1 (s o : BitVec 64) : s &&& ~~~(s &&& ~~~o) = s &&& o := by
  ext i hi
  simp only [BitVec.getElem_and, BitVec.getElem_not]
  cases s[i] <;> cases o[i] <;> rfl

theorem bv2 (s o : BitVec 64) : s &&& ~~~o &&& ~~~o = s &&& ~~~o := by
  ext i hi
  simp only [BitVec.getElem_and, BitVec.getElem_not]
  cases s[i] <;> cases o[i] <;> rfl

theorem bv3 (s o : BitVec 64) : s &&& ~~~o ||| s = s := by
  ext i hi
  simp only [BitVec.getElem_and, BitVec.getElem_not, BitVec.getElem_or]
  cases s[i] <;> cases o[i] <;> rfl

theorem bv4 (s a b : BitVec 64) : s &&& ~~~a &&& ~~~b = s &&& ~~~(a ||| b) := by
  ext i hi
  simp only [BitVec.getElem_and, BitVec.getElem_not, BitVec.getElem_or]
  cases s[i] <;> cases a[i] <;> cases b[i] <;> rfl

theorem bv5 (s a b : BitVec 64) : s &&& ~~~b &&& ~~~a = s &&& ~~~(a ||| b) := by
  ext i hi
  simp only [BitVec.getElem_and, BitVec.getElem_not, BitVec.getElem_or]
  cases s[i] <;> cases a[i] <;> cases b[i] <;> rfl

theorem bv6 (s u : BitVec 64) : s &&& ~~~u &&& u = 0#64 := by
  ext i hi
  simp only [BitVec.getElem_and, BitVec.getElem_not, BitVec.getElem_zero]
  cases s[i] <;> cases u[i] <;> rfl

theorem bv7 (s u : BitVec 64) : s &&& ~~~u ||| (s &&& u) = s := by
  ext i hi
  simp only [BitVec.getElem_and, BitVec.getElem_not, BitVec.getElem_or]
  cases s[i] <;> cases u[i] <;> rfl

/-- A number that a uint64 holds. -/
def Word (a : Int) : Prop := 0 ≤ a ∧ a ≤ 18446744073709551615

theorem twice_and {s o : Int} (hs : Word s) (ho : Word o) : bits .andNot .u64 s (bits .andNot .u64 s o) = bits .and .u64 s o := by
  obtain ⟨S, rfl⟩ := num_of s hs.1 hs.2
  obtain ⟨O, rfl⟩ := num_of o ho.1 ho.2
  rw [num_andNot, num_andNot, num_and, bv1]

theorem again {s o : Int} (hs : Word s) (ho : Word o) : bits .andNot .u64 (bits .andNot .u64 s o) o = bits .andNot .u64 s o := by
  obtain ⟨S, rfl⟩ := num_of s hs.1 hs.2
  obtain ⟨O, rfl⟩ := num_of o ho.1 ho.2
  rw [num_andNot, num_andNot, bv2]

theorem within {s o : Int} (hs : Word s) (ho : Word o) : bits .or .u64 (bits .andNot .u64 s o) s = s := by
  obtain ⟨S, rfl⟩ := num_of s hs.1 hs.2
  obtain ⟨O, rfl⟩ := num_of o ho.1 ho.2
  rw [num_andNot, num_or, bv3]

theorem steps_ab {s a b : Int} (hs : Word s) (ha : Word a) (hb : Word b) : bits .andNot .u64 (bits .andNot .u64 s a) b = bits .andNot .u64 s (bits .or .u64 a b) := by
  obtain ⟨S, rfl⟩ := num_of s hs.1 hs.2
  obtain ⟨A, rfl⟩ := num_of a ha.1 ha.2
  obtain ⟨B, rfl⟩ := num_of b hb.1 hb.2
  rw [num_andNot, num_andNot, num_or, num_andNot, bv4]

theorem steps_ba {s a b : Int} (hs : Word s) (ha : Word a) (hb : Word b) : bits .andNot .u64 (bits .andNot .u64 s b) a = bits .andNot .u64 s (bits .or .u64 a b) := by
  obtain ⟨S, rfl⟩ := num_of s hs.1 hs.2
  obtain ⟨A, rfl⟩ := num_of a ha.1 ha.2
  obtain ⟨B, rfl⟩ := num_of b hb.1 hb.2
  rw [num_andNot, num_andNot, num_or, num_andNot, bv5]

theorem apart_u {s a b : Int} (hs : Word s) (ha : Word a) (hb : Word b) : bits .and .u64 (bits .andNot .u64 s (bits .or .u64 a b)) (bits .or .u64 a b) = 0 := by
  obtain ⟨S, rfl⟩ := num_of s hs.1 hs.2
  obtain ⟨A, rfl⟩ := num_of a ha.1 ha.2
  obtain ⟨B, rfl⟩ := num_of b hb.1 hb.2
  rw [num_or, num_andNot, num_and, bv6]
  rfl

theorem joined_u {s a b : Int} (hs : Word s) (ha : Word a) (hb : Word b) : bits .or .u64 (bits .andNot .u64 s (bits .or .u64 a b)) (bits .and .u64 s (bits .or .u64 a b)) = s := by
  obtain ⟨S, rfl⟩ := num_of s hs.1 hs.2
  obtain ⟨A, rfl⟩ := num_of a ha.1 ha.2
  obtain ⟨B, rfl⟩ := num_of b hb.1 hb.2
  rw [num_or, num_andNot, num_and, num_or, bv7]

end Go.Proofs.Qxb6616547a
