/-
  Lines that are written as an answer: plain laws.
-/
import Derived.Test.YthobojpbdeepoaaDoorConvAppend
import Derived.Test.YthobojpbdeepoaaDoorStrsIn
namespace Go.Proofs.YthobojpbdeepoaaDoor
open Go.RowKit

theorem Sent.raise {w : World} {K K' g : Nat} {a : Addr} (h : Sent w K g a) (hK : K ≤ K') : Sent w K' g a := ⟨Nat.lt_of_lt_of_le h.glob hK, Nat.lt_of_lt_of_le h.below hK, h.cell, h.row⟩
theorem EndsS.up {w w' : World} {ae fe ue se : Addr} (h : EndsS w w.heap.size ae fe ue se) (hT : Turned [] w w') : EndsS w' w'.heap.size ae fe ue se := by
  have h1 := h.keep (hT.below (Nat.le_refl _) (by simp))
  exact ⟨⟨⟨h1.e3.e2.eof.raise hT.size, h1.e3.e2.full.raise hT.size, h1.e3.e2.ne⟩, h1.e3.cut.raise hT.size, h1.e3.neu⟩, h1.syn.raise hT.size⟩
section
variable (d : List UInt8) (N : Nat) (L : Nat → List UInt8) (bare : Nat → Bool)
/-- One line, as it is written. -/
def segB (k : Nat) : List UInt8 := if bare k then L k else d ++ (if k + 1 = N then 32 else 45) :: L k
/-- The lines from k on. -/
def segs (k : Nat) : List UInt8 := ((List.range' k (N - k)).map (fun i => segB d N L bare i ++ [13, 10])).flatten
def wantL : Nat → List UInt8
  | 0 => []
  | k + 1 => (if k = 0 then wantL k else wantL k ++ [10]) ++ L k
theorem segs_end : segs d N L bare N = [] := by unfold segs; rw [Nat.sub_self]; rfl
theorem segs_step {k : Nat} (h : k < N) : segs d N L bare k = segB d N L bare k ++ 13 :: 10 :: segs d N L bare (k + 1) := by
  unfold segs
  rw [show N - k = (N - (k + 1)) + 1 from by omega, List.range'_succ, List.map_cons, List.flatten_cons]
  simp
end

/-- A line that ends in a carriage return and a line feed. -/
theorem line_at (B rest : List UInt8) (h10 : 10 ∉ B) (_h13 : 13 ∉ B) : (B ++ 13 :: 10 :: rest)[B.length + 1]? = some 10 ∧ NoNl (B ++ 13 :: 10 :: rest) 0 (B.length + 1) ∧ trimCR ((B ++ 13 :: 10 :: rest).take (B.length + 1)) = B ∧ (B ++ 13 :: 10 :: rest).drop (B.length + 1 + 1) = rest := by
  have h1 : (B ++ 13 :: 10 :: rest).take (B.length + 1) = B ++ [13] := by rw [List.take_length_add_append]; rfl
  refine ⟨?_, fun i hi => ?_, ?_, ?_⟩
  · rw [List.getElem?_append_right (by omega), show B.length + 1 - B.length = 1 from by omega]; rfl
  · rw [Nat.zero_add]
    rcases Nat.lt_or_ge i B.length with h | h
    · rw [List.getElem?_append_left h]
      intro e
      exact h10 (List.mem_of_getElem? e)
    · rw [List.getElem?_append_right h, show i - B.length = 0 from by omega]
      simp
  · rw [h1]
    unfold trimCR
    rw [List.length_append, List.length_singleton, Nat.add_sub_cancel, List.getElem?_append_right (Nat.le_refl _), Nat.sub_self]
    rw [if_pos (by rfl), List.take_left]
  · rw [show B ++ 13 :: 10 :: rest = (B ++ [13, 10]) ++ rest from by simp, show B.length + 1 + 1 = (B ++ [13, 10]).length from by simp, List.drop_left]
theorem codeN_inj {a b c a' b' c' : UInt8} (_h1 : digB a = true) (h2 : digB b = true) (h3 : digB c = true) (_g1 : digB a' = true) (g2 : digB b' = true) (g3 : digB c' = true) (h : codeN a b c = codeN a' b' c') : a = a' ∧ b = b' ∧ c = c' := by
  rw [digB_iff] at h2 h3 g2 g3
  unfold codeN at h
  exact ⟨UInt8.toNat_inj.1 (by omega), UInt8.toNat_inj.1 (by omega), UInt8.toNat_inj.1 (by omega)⟩
theorem code_other {a b c : UInt8} (h1 : digB a = true) (h2 : digB b = true) (h3 : digB c = true) {l : List UInt8} (hl : l.take 3 ≠ [a, b, c]) : ∀ x m, code3 l ≠ some (codeN a b c, x, m) := by
  intro x m h
  obtain ⟨a', b', c', s, rfl, g1, g2, g3, _, g5, _⟩ := code3_some h
  obtain ⟨rfl, rfl, rfl⟩ := codeN_inj h1 h2 h3 g1 g2 g3 g5
  exact hl rfl
section
variable {a b c : UInt8} {N : Nat} {L : Nat → List UInt8} {bare : Nat → Bool} {behind : List UInt8}
theorem seg_line (h1 : digB a = true) (h2 : digB b = true) (h3 : digB c = true) {k : Nat} (hk : k < N) (hb : bare k = false) : code3 (segB [a, b, c] N L bare k) = some (codeN a b c, decide (k + 1 < N), L k) := by
  unfold segB
  rw [hb]
  by_cases h : k + 1 = N
  · rw [if_neg (by decide), if_pos h]
    have e : decide (k + 1 < N) = false := by simp; omega
    rw [e]
    exact code3_mk h1 h2 h3 rfl
  · rw [if_neg (by decide), if_neg h]
    have e : decide (k + 1 < N) = true := by simp; omega
    rw [e]
    exact code3_mk h1 h2 h3 rfl
theorem dig_clean {c : UInt8} (h : digB c = true) : c ≠ 10 ∧ c ≠ 13 := by
  rw [digB_iff] at h
  constructor
  · rintro rfl; exact absurd h.1 (by decide)
  · rintro rfl; exact absurd h.1 (by decide)
theorem seg_clean (h1 : digB a = true) (h2 : digB b = true) (h3 : digB c = true) {k : Nat} (hl : 10 ∉ L k ∧ 13 ∉ L k) : 10 ∉ segB [a, b, c] N L bare k ∧ 13 ∉ segB [a, b, c] N L bare k := by
  have e1 := dig_clean h1
  have e2 := dig_clean h2
  have e3 := dig_clean h3
  unfold segB
  split
  · exact hl
  · constructor
    · intro hm
      simp only [List.cons_append, List.nil_append, List.mem_cons] at hm
      rcases hm with h | h | h | h | h
      · exact e1.1 h.symm
      · exact e2.1 h.symm
      · exact e3.1 h.symm
      · split at h <;> exact absurd h (by decide)
      · exact hl.1 h
    · intro hm
      simp only [List.cons_append, List.nil_append, List.mem_cons] at hm
      rcases hm with h | h | h | h | h
      · exact e1.2 h.symm
      · exact e2.2 h.symm
      · exact e3.2 h.symm
      · split at h <;> exact absurd h (by decide)
      · exact hl.2 h
/-- What is read of the lines from k on. -/
theorem answer_rest (h1 : digB a = true) (h2 : digB b = true) (h3 : digB c = true) (hc : ∀ k, k < N → 10 ∉ L k ∧ 13 ∉ L k) (hb : ∀ k, k < N → bare k = true → k + 1 < N ∧ ∀ x m, code3 (L k) ≠ some (codeN a b c, x, m)) :
    ∀ m k, k + m = N → 1 ≤ k → SResp (codeN a b c) (decide (k < N)) (segs [a, b, c] N L bare k ++ behind) (wantL L k) (.good (wantL L N) behind)
  | 0, k, hk, _ => by
    obtain rfl : k = N := by omega
    rw [segs_end, show decide (k < k) = false from by simp]
    exact .stop _ _
  | m + 1, k, hk, h0 => by
    have hlt : k < N := by omega
    have ih := answer_rest h1 h2 h3 hc hb m (k + 1) (by omega) (by omega)
    obtain ⟨g1, g2⟩ := seg_clean (N := N) (bare := bare) h1 h2 h3 (hc k hlt)
    have hd : segs [a, b, c] N L bare k ++ behind = segB [a, b, c] N L bare k ++ 13 :: 10 :: (segs [a, b, c] N L bare (k + 1) ++ behind) := by
      rw [segs_step _ _ _ _ hlt]; simp
    obtain ⟨l1, l2, l3, l4⟩ := line_at (segB [a, b, c] N L bare k) (segs [a, b, c] N L bare (k + 1) ++ behind) g1 g2
    have hw : wantL L (k + 1) = wantL L k ++ 10 :: L k := by
      show (if k = 0 then wantL L k else wantL L k ++ [10]) ++ L k = _
      rw [if_neg (by omega)]; simp
    rw [hw] at ih
    rw [hd, show decide (k < N) = true from by simpa using hlt]
    cases hbk : bare k with
    | true =>
      obtain ⟨b1, b2⟩ := hb k hlt hbk
      have hs : segB [a, b, c] N L bare k = L k := by unfold segB; rw [hbk]; rfl
      rw [show decide (k + 1 < N) = true from by simpa using b1] at ih
      refine .other _ _ _ l1 l2 (by rw [l3]; exact g2) (by rw [l3, hs]; exact b2) _ ?_
      rw [l3, l4, hs]
      exact ih
    | false =>
      refine .same _ _ _ l1 l2 (by rw [l3]; exact g2) (decide (k + 1 < N)) (L k) (by rw [l3]; exact seg_line h1 h2 h3 hlt hbk) _ ?_
      rw [l4]
      exact ih
/-- The first line, and what is read behind it. -/
theorem answer_first (h1 : digB a = true) (h2 : digB b = true) (h3 : digB c = true) (hN : 1 ≤ N) (hc : ∀ k, k < N → 10 ∉ L k ∧ 13 ∉ L k) (hb : ∀ k, k < N → bare k = true → k + 1 < N ∧ ∀ x m, code3 (L k) ≠ some (codeN a b c, x, m)) (hb0 : bare 0 = false) :
    ∃ j, (segs [a, b, c] N L bare 0 ++ behind)[j]? = some 10 ∧ NoNl (segs [a, b, c] N L bare 0 ++ behind) 0 j ∧ code3 (trimCR ((segs [a, b, c] N L bare 0 ++ behind).take j)) = some (codeN a b c, decide (1 < N), L 0) ∧
      SResp (codeN a b c) (decide (1 < N)) ((segs [a, b, c] N L bare 0 ++ behind).drop (j + 1)) (L 0) (.good (wantL L N) behind) := by
  have hlt : 0 < N := by omega
  obtain ⟨g1, g2⟩ := seg_clean (N := N) (bare := bare) h1 h2 h3 (hc 0 hlt)
  have hd : segs [a, b, c] N L bare 0 ++ behind = segB [a, b, c] N L bare 0 ++ 13 :: 10 :: (segs [a, b, c] N L bare 1 ++ behind) := by
    rw [segs_step _ _ _ _ hlt]; simp
  obtain ⟨l1, l2, l3, l4⟩ := line_at (segB [a, b, c] N L bare 0) (segs [a, b, c] N L bare 1 ++ behind) g1 g2
  have ih := answer_rest (behind := behind) h1 h2 h3 hc hb (N - 1) 1 (by omega) (Nat.le_refl _)
  have hw : wantL L 1 = L 0 := by show (if 0 = 0 then wantL L 0 else _) ++ L 0 = _; rw [if_pos rfl]; rfl
  rw [hw] at ih
  rw [hd]
  refine ⟨_, l1, l2, ?_, ?_⟩
  · rw [l3]; exact seg_line h1 h2 h3 hlt hb0
  · rw [l4]; exact ih
end
end Go.Proofs.YthobojpbdeepoaaDoor
