/-
  Plain law: the canonical form of a key, byte by byte.
-/
import Derived.Test.YthobojpbdeepoaaDoorIsKey
namespace Go.Proofs.YthobojpbdeepoaaDoor
open Go.RowKit

/-- One byte: great at the beginning and behind a hyphen, else small. -/
def canB (up : Bool) (c : UInt8) : UInt8 :=
  if up && decide (97 ≤ c.toNat) && decide (c.toNat ≤ 122) then c - 32 else if !up && decide (65 ≤ c.toNat) && decide (c.toNat ≤ 90) then c + 32 else c
def canL : Bool → List UInt8 → List UInt8
  | _, [] => []
  | up, c :: r => canB up c :: canL (canB up c == 45) r
def upL : Bool → List UInt8 → Bool
  | up, [] => up
  | up, c :: r => upL (canB up c == 45) r
theorem canL_length : ∀ (l : List UInt8) (up : Bool), (canL up l).length = l.length
  | [], _ => rfl
  | c :: r, up => by simp [canL, canL_length r]
theorem canL_snoc : ∀ (l : List UInt8) (up : Bool) (c : UInt8), canL up (l ++ [c]) = canL up l ++ [canB (upL up l) c]
  | [], _, _ => rfl
  | b :: r, up, c => by simp [canL, upL, canL_snoc r]
theorem upL_snoc : ∀ (l : List UInt8) (up : Bool) (c : UInt8), upL up (l ++ [c]) = (canB (upL up l) c == 45)
  | [], _, _ => rfl
  | b :: r, up, c => by simp [upL, upL_snoc r]

theorem canB_great {c : UInt8} (h1 : 97 ≤ (c.toNat : Int)) (h2 : (c.toNat : Int) ≤ 122) : ((canB true c).toNat : Int) = (c.toNat : Int) - 32 := by
  have e : canB true c = c - 32 := by unfold canB; rw [if_pos (by simp; omega)]
  rw [e, UInt8.toNat_sub_of_le _ _ (by rw [UInt8.le_iff_toNat_le]; simp; omega)]
  simp; omega
theorem canB_small {c : UInt8} (h1 : 65 ≤ (c.toNat : Int)) (h2 : (c.toNat : Int) ≤ 90) : ((canB false c).toNat : Int) = (c.toNat : Int) + 32 := by
  have e : canB false c = c + 32 := by unfold canB; rw [if_neg (by simp), if_pos (by simp; omega)]
  rw [e, UInt8.toNat_add]
  simp; omega
theorem canB_great_no {c : UInt8} (h : ¬ (97 ≤ (c.toNat : Int) ∧ (c.toNat : Int) ≤ 122)) : canB true c = c := by
  unfold canB; rw [if_neg (by simp; omega), if_neg (by simp)]
theorem canB_small_no {c : UInt8} (h : ¬ (65 ≤ (c.toNat : Int) ∧ (c.toNat : Int) ≤ 90)) : canB false c = c := by
  unfold canB; rw [if_neg (by simp), if_neg (by simp; omega)]

theorem beq45 (x : UInt8) : (x == 45) = ((x.toNat : Int) == 45) := by
  rw [Bool.eq_iff_iff, beq_iff_eq, beq_iff_eq, ← UInt8.toNat_inj]
  simp; omega

/-- What the in-place loop has laid after k bytes. -/
def canAt (l : List UInt8) (k : Nat) : List UInt8 := canL true (l.take k) ++ l.drop k
theorem canAt_zero (l : List UInt8) : canAt l 0 = l := by simp [canAt, canL]
theorem canAt_all (l : List UInt8) {k : Nat} (h : l.length ≤ k) : canAt l k = canL true l := by simp [canAt, List.take_of_length_le h, List.drop_eq_nil_of_le h]
theorem canAt_length (l : List UInt8) (k : Nat) : (canAt l k).length = l.length := by simp [canAt, canL_length]; omega
theorem canAt_get (l : List UInt8) (k : Nat) : (canAt l k)[k]? = l[k]? := by
  unfold canAt
  by_cases h : k ≤ l.length
  · rw [List.getElem?_append_right (by rw [canL_length, List.length_take]; omega), canL_length, List.length_take, Nat.min_eq_left h, Nat.sub_self, List.getElem?_drop]
    rfl
  · rw [List.getElem?_eq_none (by simp [canL_length]; omega), List.getElem?_eq_none (by omega)]
theorem canAt_step {l : List UInt8} {k : Nat} {c : UInt8} (h : l[k]? = some c) : (canAt l k).set k (canB (upL true (l.take k)) c) = canAt l (k + 1) := by
  have hk : k < l.length := (List.getElem?_eq_some_iff.1 h).1
  have e1 : l.take (k + 1) = l.take k ++ [c] := by rw [List.take_add_one, h]; rfl
  have e2 : l.drop k = c :: l.drop (k + 1) := by rw [List.drop_eq_getElem_cons hk]; congr 1; exact (List.getElem?_eq_some_iff.1 h).2
  unfold canAt
  rw [e1, canL_snoc, e2, List.set_append_right _ _ (by rw [canL_length, List.length_take]; omega), canL_length, List.length_take, Nat.min_eq_left (by omega), Nat.sub_self]
  simp
theorem upL_step {l : List UInt8} {k : Nat} {c : UInt8} (h : l[k]? = some c) : upL true (l.take (k + 1)) = (canB (upL true (l.take k)) c == 45) := by
  rw [List.take_add_one, h]
  exact upL_snoc _ _ _
end Go.Proofs.YthobojpbdeepoaaDoor
