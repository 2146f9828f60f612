/-
  A line's code: three digits, a sign, a message; what an answer of lines is. No program in sight.
-/
import Derived.Test.YthobojpbdeepoaaDoorSpecLine
namespace Go.Proofs.YthobojpbdeepoaaDoor
open Go.RowKit

def digB (c : UInt8) : Bool := decide (48 ≤ c.toNat) && decide (c.toNat ≤ 57)
def signB (c : UInt8) : Bool := c == 32 || c == 45
def codeN (a b c : UInt8) : Int := 100 * ((a.toNat : Int) - 48) + 10 * ((b.toNat : Int) - 48) + ((c.toNat : Int) - 48)
/-- The code of a line, whether it goes on, its message; whatever the code. -/
def code3 : List UInt8 → Option (Int × Bool × List UInt8)
  | a :: b :: c :: s :: m => if digB a && digB b && digB c && signB s then some (codeN a b c, s == 45, m) else none
  | _ => none
theorem digB_iff {c : UInt8} : digB c = true ↔ 48 ≤ c.toNat ∧ c.toNat ≤ 57 := by unfold digB; simp
theorem signB_iff {c : UInt8} : signB c = true ↔ c = 32 ∨ c = 45 := by unfold signB; simp
theorem code3_some {l m : List UInt8} {n : Int} {x : Bool} (h : code3 l = some (n, x, m)) : ∃ a b c s, l = a :: b :: c :: s :: m ∧ digB a = true ∧ digB b = true ∧ digB c = true ∧ signB s = true ∧ n = codeN a b c ∧ x = (s == 45) := by
  unfold code3 at h
  split at h
  · rename_i a b c s m'
    split at h
    · rename_i hc
      simp only [Bool.and_eq_true] at hc
      simp only [Option.some.injEq, Prod.mk.injEq] at h
      obtain ⟨h1, h2, h3⟩ := h
      subst h3
      exact ⟨a, b, c, s, rfl, hc.1.1.1, hc.1.1.2, hc.1.2, hc.2, h1.symm, h2.symm⟩
    · cases h
  · cases h
theorem code3_mk {a b c s : UInt8} {m : List UInt8} (h1 : digB a = true) (h2 : digB b = true) (h3 : digB c = true) (h4 : signB s = true) : code3 (a :: b :: c :: s :: m) = some (codeN a b c, s == 45, m) := by
  simp [code3, h1, h2, h3, h4]
theorem code3_none_short {l : List UInt8} (h : l.length < 4) : code3 l = none := by
  match l, h with
  | [], _ => rfl
  | [_], _ => rfl
  | [_, _], _ => rfl
  | [_, _, _], _ => rfl
theorem code3_none_at {l : List UInt8} {i : Nat} {c : UInt8} (hi : i < 3) (h : l[i]? = some c) (hc : digB c = false) : code3 l = none := by
  cases hl : code3 l with
  | none => rfl
  | some r =>
    obtain ⟨n, x, m⟩ := r
    obtain ⟨a, b, c', s, rfl, h1, h2, h3, _⟩ := code3_some hl
    exfalso
    match i, hi, h with
    | 0, _, h => simp at h; rw [h] at h1; rw [h1] at hc; cases hc
    | 1, _, h => simp at h; rw [h] at h2; rw [h2] at hc; cases hc
    | 2, _, h => simp at h; rw [h] at h3; rw [h3] at hc; cases hc
theorem code3_none_sign {l : List UInt8} {c : UInt8} (h : l[3]? = some c) (hc : signB c = false) : code3 l = none := by
  cases hl : code3 l with
  | none => rfl
  | some r =>
    obtain ⟨n, x, m⟩ := r
    obtain ⟨a, b, c', s, rfl, _, _, _, h4, _⟩ := code3_some hl
    simp at h
    rw [h] at h4
    rw [h4] at hc
    cases hc
theorem codeN_range {a b c : UInt8} (h1 : digB a = true) (h2 : digB b = true) (h3 : digB c = true) : 0 ≤ codeN a b c ∧ codeN a b c ≤ 999 := by
  rw [digB_iff] at h1 h2 h3
  unfold codeN
  omega

/-- The digits of an expected code. -/
def fitsB (n e : Int) : Bool := if e ≤ 0 then true else if e < 10 then decide (n / 100 = e) else if e < 100 then decide (n / 10 = e) else decide (n = e)

/-- What becomes of an answer. -/
inductive Res where
  | good (msg rest : List UInt8)
  | bad
  | left
/-- An answer under way: does it go on; what is to come; the message so far; what becomes of it. -/
inductive SResp (n : Int) : Bool → List UInt8 → List UInt8 → Res → Prop
  | stop (d msg : List UInt8) : SResp n false d msg (.good msg d)
  | eof (msg : List UInt8) : SResp n true [] msg .bad
  | cut (d msg : List UInt8) (h : d ≠ []) (hn : NoNl d 0 d.length) : SResp n true d msg .left
  | cr (d msg : List UInt8) (j : Nat) (hj : d[j]? = some 10) (hn : NoNl d 0 j) (h : 13 ∈ trimCR (d.take j)) : SResp n true d msg .left
  | same (d msg : List UInt8) (j : Nat) (hj : d[j]? = some 10) (hn : NoNl d 0 j) (h13 : 13 ∉ trimCR (d.take j)) (x : Bool) (m : List UInt8) (hc : code3 (trimCR (d.take j)) = some (n, x, m)) (r : Res) (hr : SResp n x (d.drop (j + 1)) (msg ++ 10 :: m) r) : SResp n true d msg r
  | other (d msg : List UInt8) (j : Nat) (hj : d[j]? = some 10) (hn : NoNl d 0 j) (h13 : 13 ∉ trimCR (d.take j)) (hc : ∀ x m, code3 (trimCR (d.take j)) ≠ some (n, x, m)) (r : Res) (hr : SResp n true (d.drop (j + 1)) (msg ++ 10 :: trimCR (d.take j)) r) : SResp n true d msg r

theorem nl_one {d : List UInt8} {j i : Nat} (hj : d[j]? = some 10) (hn : NoNl d 0 j) (hi : d[i]? = some 10) (hm : NoNl d 0 i) : i = j := by
  rcases Nat.lt_trichotomy i j with h | h | h
  · exact absurd (by simpa using hi) (hn i h)
  · exact h
  · exact absurd (by simpa using hj) (hm j h)
theorem nl_none {d : List UInt8} {j : Nat} (hj : d[j]? = some 10) (hn : NoNl d 0 d.length) : False :=
  hn j (List.getElem?_eq_some_iff.1 hj).1 (by simpa using hj)
/-- Where a line is to come, the answer goes on behind it. -/
theorem SResp.line {n : Int} {d msg : List UInt8} {r : Res} (h : SResp n true d msg r) {j : Nat} (hj : d[j]? = some 10) (hn : NoNl d 0 j) :
    r = .left ∨ (13 ∉ trimCR (d.take j) ∧ ((∃ x m, code3 (trimCR (d.take j)) = some (n, x, m) ∧ SResp n x (d.drop (j + 1)) (msg ++ 10 :: m) r) ∨
      ((∀ x m, code3 (trimCR (d.take j)) ≠ some (n, x, m)) ∧ SResp n true (d.drop (j + 1)) (msg ++ 10 :: trimCR (d.take j)) r))) := by
  cases h with
  | eof => simp at hj
  | cut _ _ h0 h1 => exact .inl rfl
  | cr _ _ i hi hm h0 => exact .inl rfl
  | same _ _ i hi hm h13 x m hc _ hr =>
    obtain rfl := nl_one hj hn hi hm
    exact .inr ⟨h13, .inl ⟨x, m, hc, hr⟩⟩
  | other _ _ i hi hm h13 hc _ hr =>
    obtain rfl := nl_one hj hn hi hm
    exact .inr ⟨h13, .inr ⟨hc, hr⟩⟩
theorem SResp.nil {n : Int} {msg : List UInt8} {r : Res} (h : SResp n true [] msg r) : r = .bad := by
  cases h with
  | eof => rfl
  | cut _ _ h0 _ => exact absurd rfl h0
  | cr _ _ i hi => simp at hi
  | same _ _ i hi => simp at hi
  | other _ _ i hi => simp at hi
theorem SResp.none {n : Int} {d msg : List UInt8} {r : Res} (h : SResp n true d msg r) (hd : d ≠ []) (hn : NoNl d 0 d.length) : r = .left := by
  cases h with
  | eof => exact absurd rfl hd
  | cut => rfl
  | cr _ _ i hi => exact (nl_none hi hn).elim
  | same _ _ i hi => exact (nl_none hi hn).elim
  | other _ _ i hi => exact (nl_none hi hn).elim
theorem SResp.done {n : Int} {d msg : List UInt8} {r : Res} (h : SResp n false d msg r) : r = .good msg d := by
  cases h with
  | stop => rfl

/-! ### A number of three digits -/
def digOf (k : Int) : UInt8 := UInt8.ofNat (48 + k.toNat)
theorem digOf_toNat {k : Int} (h0 : 0 ≤ k) (h1 : k ≤ 9) : (digOf k).toNat = 48 + k.toNat := by
  unfold digOf
  rw [UInt8.toNat_ofNat']
  omega
theorem digOf_dig {k : Int} (h0 : 0 ≤ k) (h1 : k ≤ 9) : digB (digOf k) = true := by
  rw [digB_iff, digOf_toNat h0 h1]; omega
theorem codeN_dig {n : Int} (h0 : 100 ≤ n) (h1 : n ≤ 999) : codeN (digOf (n / 100)) (digOf (n / 10 % 10)) (digOf (n % 10)) = n := by
  unfold codeN
  rw [digOf_toNat (by omega) (by omega), digOf_toNat (by omega) (by omega), digOf_toNat (by omega) (by omega)]
  omega
end Go.Proofs.YthobojpbdeepoaaDoor
