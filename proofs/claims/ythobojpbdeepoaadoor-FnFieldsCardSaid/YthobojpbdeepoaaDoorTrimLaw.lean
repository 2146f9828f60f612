/-
  Plain law: taking a class of bytes off the ends of a list.
-/
import Derived.Test.YthobojpbdeepoaaDoorBase
namespace Go.Proofs.YthobojpbdeepoaaDoor
open Go.RowKit

/-- A space, a tab, a line feed, a carriage return. -/
def isSp (c : Int) : Bool := c == 32 || c == 9 || c == 10 || c == 13
def spB (b : UInt8) : Bool := isSp b.toNat
def trimL (p : UInt8 → Bool) (l : List UInt8) : List UInt8 := l.dropWhile p
def trimR (p : UInt8 → Bool) (l : List UInt8) : List UInt8 := (l.reverse.dropWhile p).reverse
theorem trimL_nil (p : UInt8 → Bool) : trimL p [] = [] := rfl
theorem trimL_step {p : UInt8 → Bool} {b : UInt8} {l : List UInt8} (h : p b = true) : trimL p (b :: l) = trimL p l := by simp [trimL, h]
theorem trimL_stop {p : UInt8 → Bool} {b : UInt8} {l : List UInt8} (h : p b = false) : trimL p (b :: l) = b :: l := by simp [trimL, h]
theorem trimR_nil (p : UInt8 → Bool) : trimR p [] = [] := rfl
theorem trimR_step {p : UInt8 → Bool} {b : UInt8} {l : List UInt8} (h : p b = true) : trimR p (l ++ [b]) = trimR p l := by simp [trimR, h]
theorem trimR_stop {p : UInt8 → Bool} {b : UInt8} {l : List UInt8} (h : p b = false) : trimR p (l ++ [b]) = l ++ [b] := by simp [trimR, h]

/-- Slots that hold a string. -/
def strSize : Value → Nat | .string s => s.size | _ => 0

theorem lst_tail (t : ByteArray) (h : 0 < t.size) : lst t = t[0] :: lst (t.extract 1 t.size) := by
  have h1 := drop_cons t 0 h
  rw [List.drop_zero] at h1
  rw [lst_extract, h1]
  congr 1
  rw [List.take_of_length_le (by simp [lst_length])]
  simp
theorem lst_init (t : ByteArray) (h : t.size - 1 < t.size) : lst t = lst (t.extract 0 (t.size - 1)) ++ [t[t.size - 1]] := by
  rw [lst_extract, List.drop_zero, Nat.sub_zero, ← take_snoc t (t.size - 1) h, List.take_of_length_le (by rw [lst_length]; omega)]
theorem size_tail (t : ByteArray) : (t.extract 1 t.size).size = t.size - 1 := by simp
theorem size_init (t : ByteArray) : (t.extract 0 (t.size - 1)).size = t.size - 1 := by simp
theorem lst_nil {t : ByteArray} (h : t.size = 0) : lst t = [] := List.eq_nil_of_length_eq_zero (by rw [lst_length, h])
end Go.Proofs.YthobojpbdeepoaaDoor
