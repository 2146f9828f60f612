/-
  A line's code: three digits, a sign, a message. No program in sight.
-/
import Derived.Test.YtdhdcgliefjonaaDoorPSmall
namespace Go.Proofs.YtdhdcgliefjonaaDoor
open Go.RowKit

def digB (c : UInt8) : Bool := decide (48 ≤ c.toNat) && decide (c.toNat ≤ 57)
def signB (c : UInt8) : Bool := c == 32 || c == 45
def codeN (a b c : UInt8) : Int := 100 * ((a.toNat : Int) - 48) + 10 * ((b.toNat : Int) - 48) + ((c.toNat : Int) - 48)
/-- The code of a line, whether it goes on, its message; whatever the code. -/
def code3 : List UInt8 → Option (Int × Bool × List UInt8)
  | a :: b :: c :: s :: m => if digB a && digB b && digB c && signB s then some (codeN a b c, s == 45, m) else none
  | _ => none
theorem digB_iff {c : UInt8} : digB c = true ↔ 48 ≤ c.toNat ∧ c.toNat ≤ 57 := by unfold digB; simp
theorem signB_iff {c : UInt8} : signB c = true ↔ c = 32 ∨ c = 45 := by unfold signB; simp
theorem code3_some {l m : List UInt8} {n : Int} {x : Bool} (h : code3 l = some (n, x, m)) : ∃ a b c s, l = a :: b :: c :: s :: m ∧ digB a = true ∧ digB b = true ∧ digB c = true ∧ signB s = true ∧ n = codeN a b c ∧ x = (s == 45) := by
  unfold code3 at h
  split at h
  · rename_i a b c s m'
    split at h
    · rename_i hc
      simp only [Bool.and_eq_true] at hc
      simp only [Option.some.injEq, Prod.mk.injEq] at h
      obtain ⟨h1, h2, h3⟩ := h
      subst h3
      exact ⟨a, b, c, s, rfl, hc.1.1.1, hc.1.1.2, hc.1.2, hc.2, h1.symm, h2.symm⟩
    · cases h
  · cases h
theorem code3_mk {a b c s : UInt8} {m : List UInt8} (h1 : digB a = true) (h2 : digB b = true) (h3 : digB c = true) (h4 : signB s = true) : code3 (a :: b :: c :: s :: m) = some (codeN a b c, s == 45, m) := by
  simp [code3, h1, h2, h3, h4]
theorem code3_none_short {l : List UInt8} (h : l.length < 4) : code3 l = none := by
  match l, h with
  | [], _ => rfl
  | [_], _ => rfl
  | [_, _], _ => rfl
  | [_, _, _], _ => rfl
theorem code3_none_at {l : List UInt8} {i : Nat} {c : UInt8} (hi : i < 3) (h : l[i]? = some c) (hc : digB c = false) : code3 l = none := by
  cases hl : code3 l with
  | none => rfl
  | some r =>
    obtain ⟨n, x, m⟩ := r
    obtain ⟨a, b, c', s, rfl, h1, h2, h3, _⟩ := code3_some hl
    exfalso
    match i, hi, h with
    | 0, _, h => simp at h; rw [h] at h1; rw [h1] at hc; cases hc
    | 1, _, h => simp at h; rw [h] at h2; rw [h2] at hc; cases hc
    | 2, _, h => simp at h; rw [h] at h3; rw [h3] at hc; cases hc
theorem code3_none_sign {l : List UInt8} {c : UInt8} (h : l[3]? = some c) (hc : signB c = false) : code3 l = none := by
  cases hl : code3 l with
  | none => rfl
  | some r =>
    obtain ⟨n, x, m⟩ := r
    obtain ⟨a, b, c', s, rfl, _, _, _, h4, _⟩ := code3_some hl
    simp at h
    rw [h] at h4
    rw [h4] at hc
    cases hc
theorem codeN_range {a b c : UInt8} (h1 : digB a = true) (h2 : digB b = true) (h3 : digB c = true) : 0 ≤ codeN a b c ∧ codeN a b c ≤ 999 := by
  rw [digB_iff] at h1 h2 h3
  unfold codeN
  omega

/-- The digits of an expected code. -/
def fitsB (n e : Int) : Bool := if e ≤ 0 then true else if e < 10 then decide (n / 100 = e) else if e < 100 then decide (n / 10 = e) else decide (n = e)

/-! ### A number of three digits -/
def digOf (k : Int) : UInt8 := UInt8.ofNat (48 + k.toNat)
theorem digOf_toNat {k : Int} (h0 : 0 ≤ k) (h1 : k ≤ 9) : (digOf k).toNat = 48 + k.toNat := by
  unfold digOf
  rw [UInt8.toNat_ofNat']
  omega
theorem digOf_dig {k : Int} (h0 : 0 ≤ k) (h1 : k ≤ 9) : digB (digOf k) = true := by
  rw [digB_iff, digOf_toNat h0 h1]; omega
theorem codeN_dig {n : Int} (h0 : 100 ≤ n) (h1 : n ≤ 999) : codeN (digOf (n / 100)) (digOf (n / 10 % 10)) (digOf (n % 10)) = n := by
  unfold codeN
  rw [digOf_toNat (by omega) (by omega), digOf_toNat (by omega) (by omega), digOf_toNat (by omega) (by omega)]
  omega
end Go.Proofs.YtdhdcgliefjonaaDoor
