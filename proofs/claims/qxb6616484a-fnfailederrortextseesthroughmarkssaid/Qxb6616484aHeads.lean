/-
  Seat b6616484a: the plain law of the heads: no Go in sight.
-/
import Derived.Test.Qxb6616484aText
import Derived.Test.Qxb6616484aStrs
import Derived.Lib.IndexBytes
namespace Go.Proofs.Qxb6616484a
open Go.RowKit

def preB : ByteArray := ⟨#[111, 110, 99, 101, 119, 97, 114, 100, 58, 32, 104, 97, 110, 100, 108, 101, 114, 32, 102, 97, 105, 108, 101, 100]⟩
def colB : ByteArray := ⟨#[58, 32]⟩
def permB : ByteArray := ⟨#[112, 101, 114, 109, 97, 110, 101, 110, 116, 108, 121]⟩
def earlB : ByteArray := ⟨#[101, 97, 114, 108, 105, 101, 114, 32, 100, 101, 108, 105, 118, 101, 114, 121]⟩

/-- The same over lists of bytes. -/
def hitL (s p : List UInt8) : Nat → Bool
  | 0 => false
  | k + 1 => hitL s p k || ((s.drop k).take p.length == p)

theorem hitAt_list (s p : ByteArray) (k : Nat) : hitAt s p k = ((s.data.toList.drop k).take p.data.toList.length == p.data.toList) := by
  unfold hitAt
  rw [ByteArray.toList_eq, ByteArray.toList_eq, Lib.extract_data]
  have e : k + p.size - k = p.data.toList.length := by rw [Nat.add_sub_cancel_left]; rfl
  rw [e]

theorem hitBelow_list (s p : ByteArray) (n : Nat) : hitBelow s p n = hitL s.data.toList p.data.toList n := by
  induction n with
  | zero => rfl
  | succ n ih => rw [hitBelow, hitL, ih, hitAt_list]

theorem has_perm (p r : Bool) : hitBelow (headOf p r) permB ((headOf p r).size + 1 - permB.size) = (p || r) := by
  rw [hitBelow_list]
  cases p <;> cases r <;> decide +kernel

theorem has_earl (p r : Bool) : hitBelow (headOf p r) earlB ((headOf p r).size + 1 - earlB.size) = r := by
  rw [hitBelow_list]
  cases p <;> cases r <;> decide +kernel

theorem ext_data {a b : ByteArray} (h : a.data.toList = b.data.toList) : a = b := by
  obtain ⟨⟨l⟩⟩ := a
  obtain ⟨⟨m⟩⟩ := b
  cases h
  rfl

theorem head_size (p r : Bool) : 26 ≤ (headOf p r).size ∧ (headOf p r).size ≤ 61 := by
  cases p <;> cases r <;> decide +kernel

theorem head_pre (p r : Bool) : (headOf p r).extract 0 preB.size = preB := by
  apply ext_data
  rw [Lib.extract_data]
  cases p <;> cases r <;> decide +kernel

/-- The head without its last two bytes. -/
def stem (p r : Bool) : ByteArray := (headOf p r).extract 0 ((headOf p r).size - 2)

theorem head_split (p r : Bool) : headOf p r = stem p r ++ colB := by
  apply ext_data
  rw [ByteArray.data_append, Array.toList_append]
  unfold stem
  rw [Lib.extract_data]
  cases p <;> cases r <;> decide +kernel

theorem app_nil (s : ByteArray) : s ++ (⟨#[]⟩ : ByteArray) = s := by
  apply ext_data
  rw [ByteArray.data_append, Array.toList_append]; simp

theorem app_assoc (a b c : ByteArray) : a ++ (b ++ c) = a ++ b ++ c := by
  apply ext_data
  simp [ByteArray.data_append]

/-- Whatever stands behind s is the end of s followed by it. -/
theorem end_app (s t : ByteArray) : (s ++ t).extract ((s ++ t).size - t.size) (s ++ t).size = t := by
  apply ext_data
  rw [Lib.extract_to_end, ByteArray.data_append, Array.toList_append]
  have e : (s ++ t).size - t.size = s.data.toList.length := by rw [ByteArray.size_append, Nat.add_sub_cancel]; rfl
  rw [e, List.drop_left]

theorem head_sister (p r : Bool) : ((headOf p r).toList == (headOf (!p) r).toList) = r := by
  rw [ByteArray.toList_eq, ByteArray.toList_eq]
  cases p <;> cases r <;> decide +kernel

theorem eq_self (a b : ByteArray) (h : a = b) : (a.toList == b.toList) = true := by subst h; simp

end Go.Proofs.Qxb6616484a
