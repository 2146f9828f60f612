/-
  Plain law of continued lines.
-/
import Derived.Test.YthobojpbdeepoaaDoorBlank
namespace Go.Proofs.YthobojpbdeepoaaDoor
open Go.RowKit

/-- From acc on, before d: the text t is whole, and r follows it. -/
inductive CMore : List UInt8 → List UInt8 → List UInt8 → List UInt8 → Prop
  | stop (acc d : List UInt8) (h : ∀ c, d[0]? = some c → blB c = false) : CMore acc d acc d
  | more (acc d t r : List UInt8) (j : Nat) (h10 : d[j]? = some 10) (hno : NoNl d 0 j) (hb : ∃ c, d[0]? = some c ∧ blB c = true) (hne : trimB (trimCR (d.take j)) ≠ [])
      (h : CMore (acc ++ 32 :: trimB (trimCR (d.take j))) (d.drop (j + 1)) t r) : CMore acc d t r

theorem blB_10 : blB 10 = false := by decide
theorem blB_13 : blB 13 = false := by decide
theorem trimL_all {a b : List UInt8} (h : a.all blB = true) : trimL blB (a ++ b) = trimL blB b := by
  induction a with
  | nil => rfl
  | cons x a ih =>
    simp only [List.all_cons, Bool.and_eq_true] at h
    rw [List.cons_append, trimL_step h.1, ih h.2]
theorem trimB_all {a b : List UInt8} (h : a.all blB = true) : trimB (a ++ b) = trimB b := by unfold trimB; rw [trimL_all h]
theorem trimB_none {a : List UInt8} (h : a.all blB = true) : trimB a = [] := by
  have := trimB_all (b := []) h
  rw [List.append_nil] at this
  rw [this]; rfl

theorem first_10 {d : List UInt8} {i j : Nat} (hi : d[i]? = some 10) (hni : NoNl d 0 i) (hj : d[j]? = some 10) (hnj : NoNl d 0 j) : i = j := by
  rcases Nat.lt_trichotomy i j with h | h | h
  · exact absurd (by simpa using hi) (hnj i h)
  · exact h
  · exact absurd (by simpa using hj) (hni j h)

theorem cmore_zero {acc d t r : List UInt8} (h0 : ∀ c, d[0]? = some c → blB c = false) (h : CMore acc d t r) : t = acc ∧ r = d := by
  cases h with
  | stop _ _ _ => exact ⟨rfl, rfl⟩
  | more _ _ _ _ j h10 hno hb hne h =>
    obtain ⟨c, hc, hb⟩ := hb
    rw [h0 c hc] at hb
    cases hb

/-- m blanks are taken off: then a line follows. -/
theorem cmore_step {acc d t r : List UInt8} {m : Nat} (hm : 1 ≤ m) (hml : m ≤ d.length) (hall : (d.take m).all blB = true) (h : CMore acc d t r) :
    ∃ j, d[m + j]? = some 10 ∧ NoNl d m j ∧ CMore (acc ++ 32 :: trimB (trimCR ((d.drop m).take j))) (d.drop (m + j + 1)) t r := by
  have hbl : ∀ i, i < m → ∃ c, d[i]? = some c ∧ blB c = true := by
    intro i hi
    refine ⟨d[i], List.getElem?_eq_getElem (by omega), ?_⟩
    rw [List.all_eq_true] at hall
    refine hall _ ?_
    rw [List.mem_take_iff_getElem]
    exact ⟨i, by omega, rfl⟩
  cases h with
  | stop _ _ h0 =>
    obtain ⟨c, hc, hb⟩ := hbl 0 (by omega)
    rw [h0 c hc] at hb
    cases hb
  | more _ _ _ _ j h10 hno hb hne h =>
    have hmj : m ≤ j := by
      rcases Nat.lt_or_ge j m with h1 | h1
      · obtain ⟨c, hc, hb⟩ := hbl j h1
        rw [h10] at hc
        obtain rfl := Option.some.inj hc
        exact absurd hb (by decide)
      · exact h1
    obtain ⟨i, rfl⟩ : ∃ i, j = m + i := ⟨j - m, by omega⟩
    refine ⟨i, h10, fun x hx => ?_, ?_⟩
    · have := hno (m + x) (by omega)
      rwa [Nat.zero_add] at this
    · have e1 : d.take (m + i) = d.take m ++ (d.drop m).take i := by rw [List.take_add]
      have hlen : (d.take m).length = m := by rw [List.length_take]; omega
      have e2 : trimB (trimCR (d.take (m + i))) = trimB (trimCR ((d.drop m).take i)) := by
        rcases Nat.eq_zero_or_pos i with h0 | h0
        · exfalso
          subst h0
          apply hne
          have e3 : trimCR (d.take (m + 0)) = d.take m := by
            rw [Nat.add_zero]
            unfold trimCR
            rw [hlen]
            obtain ⟨c, hc, hb⟩ := hbl (m - 1) (by omega)
            rw [List.getElem?_take_of_lt (by omega), hc, if_neg]
            intro e
            obtain rfl := Option.some.inj e
            exact absurd hb (by decide)
          rw [e3]
          exact trimB_none hall
        · rw [e1, trimCR_append, trimB_all hall]
          intro e
          have h1 : d.length > m + i := (List.getElem?_eq_some_iff.1 h10).1
          have h2 : ((d.drop m).take i).length = i := by rw [List.length_take, List.length_drop]; omega
          rw [e] at h2
          simp at h2
          omega
      rw [← e2]
      exact h

/-- What reading a continued line comes to. -/
inductive CRes
  | eof
  | bad
  | line (t r : List UInt8)

/-- What is known of it: d is what is before the reader, er the error of a first line. -/
def CSpec (er : List UInt8 → Value) (d : List UInt8) (res : CRes) : Prop :=
  (d = [] → res = .eof) ∧ ∀ j, d[j]? = some 10 → NoNl d 0 j →
    (trimCR (d.take j) = [] → res = .line [] (d.drop (j + 1))) ∧
    (trimCR (d.take j) ≠ [] → er (trimCR (d.take j)) ≠ .nilIface → res = .bad) ∧
    (trimCR (d.take j) ≠ [] → er (trimCR (d.take j)) = .nilIface → ∀ t r, CMore (trimB (trimCR (d.take j))) (d.drop (j + 1)) t r → res = .line t r)
theorem CSpec.none {er : List UInt8 → Value} {d : List UInt8} {res : CRes} (h0 : d = [] → res = .eof) (h : NoNl d 0 d.length) : CSpec er d res :=
  ⟨h0, fun j hj _ => absurd (by simpa using hj) (h j (List.getElem?_eq_some_iff.1 hj).1)⟩
theorem CSpec.one {er : List UInt8 → Value} {d : List UInt8} {res : CRes} {j : Nat} (hj : d[j]? = some 10) (hno : NoNl d 0 j) (h1 : trimCR (d.take j) = [] → res = .line [] (d.drop (j + 1)))
    (h2 : trimCR (d.take j) ≠ [] → er (trimCR (d.take j)) ≠ .nilIface → res = .bad)
    (h3 : trimCR (d.take j) ≠ [] → er (trimCR (d.take j)) = .nilIface → ∀ t r, CMore (trimB (trimCR (d.take j))) (d.drop (j + 1)) t r → res = .line t r) : CSpec er d res := by
  refine ⟨fun h => by rw [h] at hj; simp at hj, fun i hi hni => ?_⟩
  obtain rfl := first_10 hj hno hi hni
  exact ⟨h1, h2, h3⟩
end Go.Proofs.YthobojpbdeepoaaDoor
