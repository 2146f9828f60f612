/-
  A header that is written line by line: plain laws.
-/
import Derived.Test.YthobojpbdeepoaaDoorHdrData
namespace Go.Proofs.YthobojpbdeepoaaDoor
open Go.RowKit

def endL (crlf : Bool) : List UInt8 := if crlf then [13, 10] else [10]
def fldL (f : Fd) : List UInt8 := f.1 ++ 58 :: 32 :: f.2
/-- A field that may be written. -/
structure Good (f : Fd) : Prop where
  kne : f.1 ≠ []
  key : isKey f.1 = true
  trim : trimB f.2 = f.2
  val : ∀ c, c ∈ f.2 → (32 ≤ c.toNat ∧ c.toNat ≤ 126) ∨ c.toNat = 9

theorem key_bits : ∀ n : Fin 256, keyB ((n.val : Nat) : Int) = true → blI ((n.val : Nat) : Int) = false ∧ n.val ≠ 58 ∧ n.val ≠ 10 ∧ n.val ≠ 13 := by decide +kernel
theorem key_byte {k : List UInt8} (h : isKey k = true) {c : UInt8} (hc : c ∈ k) : blB c = false ∧ c ≠ 58 ∧ c ≠ 10 ∧ c ≠ 13 := by
  unfold isKey at h
  rw [List.all_eq_true] at h
  obtain ⟨h1, h2, h3, h4⟩ := key_bits ⟨c.toNat, c.toNat_lt⟩ (h c hc)
  refine ⟨h1, fun e => h2 (by rw [e]; rfl), fun e => h3 (by rw [e]; rfl), fun e => h4 (by rw [e]; rfl)⟩
theorem dropWhile_head {p : UInt8 → Bool} : ∀ {l : List UInt8} {c : UInt8} {r : List UInt8}, l.dropWhile p = c :: r → p c = false
  | [], _, _, h => by cases h
  | x :: l, c, r, h => by
    rw [List.dropWhile_cons] at h
    split at h
    · exact dropWhile_head h
    · rename_i hx
      injection h with h1 h2
      subst h1
      simpa using hx
theorem trim_last {v l : List UInt8} {c : UInt8} (h : trimB v = l ++ [c]) : blB c = false := by
  unfold trimB trimR at h
  have h1 := congrArg List.reverse h
  rw [List.reverse_reverse, List.reverse_append] at h1
  exact dropWhile_head h1
theorem trimR_le (l : List UInt8) : (trimR blB l).length ≤ l.length := by
  unfold trimR
  rw [List.length_reverse]
  have h1 := (List.dropWhile_sublist (l := l.reverse) blB).length_le
  rw [List.length_reverse] at h1
  exact h1
theorem trim_first {v : List UInt8} (h : trimB v = v) : trimL blB v = v := by
  have h1 : trimL blB v <:+ v := List.dropWhile_suffix _
  refine h1.eq_of_length ?_
  have h2 := h1.length_le
  have h3 := trimR_le (trimL blB v)
  unfold trimB at h
  rw [h] at h3
  omega
section
variable {f : Fd}
theorem Good.first (h : Good f) : ∃ b l, f.1 = b :: l ∧ blB b = false := by
  cases hk : f.1 with
  | nil => exact absurd hk h.kne
  | cons b l => exact ⟨b, l, rfl, (key_byte h.key (by rw [hk]; simp)).1⟩
theorem Good.no (h : Good f) : 10 ∉ fldL f ∧ 13 ∉ fldL f := by
  constructor
  all_goals
    intro hm
    unfold fldL at hm
    rw [List.mem_append, List.mem_cons, List.mem_cons] at hm
    rcases hm with hm | hm | hm | hm
    · exact absurd rfl (by first | exact (key_byte h.key hm).2.2.1 | exact (key_byte h.key hm).2.2.2)
    · revert hm; decide
    · revert hm; decide
    · have := h.val _ hm
      revert this; decide
/-- What is behind the colon. -/
def vOf (f : Fd) : List UInt8 := if f.2 = [] then [] else 32 :: f.2
theorem Good.trimmed (h : Good f) : trimB (fldL f) = f.1 ++ 58 :: vOf f := by
  obtain ⟨b, l, hk, hb⟩ := h.first
  have h1 : trimL blB (fldL f) = fldL f := by
    unfold fldL
    rw [hk, List.cons_append]
    exact trimL_stop hb
  unfold trimB
  rw [h1]
  unfold fldL vOf
  split
  · rename_i h0
    rw [h0, show f.1 ++ [58, 32] = (f.1 ++ [58]) ++ [32] from by simp, trimR_step (by decide), trimR_stop (by decide)]
  · rename_i h0
    have h2 := List.dropLast_concat_getLast h0
    have h3 := trim_last (v := f.2) (l := f.2.dropLast) (c := f.2.getLast h0) (by rw [h.trim, h2])
    rw [← h2, show f.1 ++ 58 :: 32 :: (f.2.dropLast ++ [f.2.getLast h0]) = (f.1 ++ 58 :: 32 :: f.2.dropLast) ++ [f.2.getLast h0] from by simp, trimR_stop h3]
theorem Good.value (h : Good f) : trimL blB (vOf f) = f.2 := by
  unfold vOf
  split
  · rename_i h0; rw [h0]; rfl
  · rw [trimL_step (by decide), trim_first h.trim]
theorem Good.vals (h : Good f) : ∀ c, c ∈ vOf f → valB (c.toNat : Int) = true := by
  intro c hc
  unfold vOf at hc
  split at hc
  · simp at hc
  · unfold valB
    rcases List.mem_cons.1 hc with rfl | hc
    · decide
    · rcases h.val c hc with h1 | h1
      · have h2 : (32 : Int) ≤ (c.toNat : Int) := by omega
        have h3 : ((c.toNat : Int) != 127) = true := by simp; omega
        rw [h3]
        simp [h2]
      · rw [h1]; rfl
end

/-- One line, by its end. -/
theorem lineE (crlf : Bool) (B rest : List UInt8) (h10 : 10 ∉ B) (h13 : 13 ∉ B) : ∃ j, LineOn (B ++ (endL crlf ++ rest)) j ∧ trimCR ((B ++ (endL crlf ++ rest)).take j) = B ∧ (B ++ (endL crlf ++ rest)).drop (j + 1) = rest := by
  cases crlf
  · show ∃ j, LineOn (B ++ 10 :: rest) j ∧ _
    refine ⟨B.length, ⟨?_, fun i hi => ?_⟩, ?_, ?_⟩
    · rw [List.getElem?_append_right (Nat.le_refl _), Nat.sub_self]; rfl
    · rw [Nat.zero_add, List.getElem?_append_left hi]
      exact fun e => h10 (List.mem_of_getElem? e)
    · rw [List.take_left]
      unfold trimCR
      rw [if_neg (fun e => h13 (List.mem_of_getElem? e))]
    · show (B ++ 10 :: rest).drop _ = _
      rw [show B ++ 10 :: rest = (B ++ [10]) ++ rest from by simp, show B.length + 1 = (B ++ [10]).length from by simp, List.drop_left]
  · show ∃ j, LineOn (B ++ 13 :: 10 :: rest) j ∧ _
    have h1 : (B ++ 13 :: 10 :: rest).take (B.length + 1) = B ++ [13] := by rw [List.take_length_add_append]; rfl
    refine ⟨B.length + 1, ⟨?_, fun i hi => ?_⟩, ?_, ?_⟩
    · rw [List.getElem?_append_right (by omega), show B.length + 1 - B.length = 1 from by omega]; rfl
    · rw [Nat.zero_add]
      rcases Nat.lt_or_ge i B.length with h | h
      · rw [List.getElem?_append_left h]
        exact fun e => h10 (List.mem_of_getElem? e)
      · rw [List.getElem?_append_right h, show i - B.length = 0 from by omega]
        simp
    · show trimCR ((B ++ 13 :: 10 :: rest).take _) = _
      rw [h1]
      unfold trimCR
      rw [List.length_append, List.length_singleton, Nat.add_sub_cancel, List.getElem?_append_right (Nat.le_refl _), Nat.sub_self]
      rw [if_pos (by rfl), List.take_left]
    · show (B ++ 13 :: 10 :: rest).drop _ = _
      rw [show B ++ 13 :: 10 :: rest = (B ++ [13, 10]) ++ rest from by simp, show B.length + 1 + 1 = (B ++ [13, 10]).length from by simp, List.drop_left]

/-- The fields as they are written. -/
def hdrL (crlf : Bool) (ps : List Fd) : List UInt8 := (ps.map (fun f => fldL f ++ endL crlf)).flatten
theorem hdrL_snoc (crlf : Bool) (ps : List Fd) (f : Fd) : hdrL crlf (ps ++ [f]) = hdrL crlf ps ++ (fldL f ++ endL crlf) := by unfold hdrL; simp
theorem hdr_head (crlf : Bool) (behind : List UInt8) (ps : List Fd) (h : ∀ f, f ∈ ps → Good f) : ∀ c, (hdrL crlf ps ++ (endL crlf ++ behind))[0]? = some c → blB c = false := by
  intro c hc
  cases ps with
  | nil =>
    unfold hdrL endL at hc
    split at hc
    · simp at hc; subst hc; decide
    · simp at hc; subst hc; decide
  | cons f ps =>
    obtain ⟨b, l, hk, hb⟩ := (h f (by simp)).first
    unfold hdrL fldL at hc
    rw [List.map_cons, List.flatten_cons, hk] at hc
    simp at hc
    subst hc
    exact hb
theorem hdr_written (crlf : Bool) (behind : List UInt8) : ∀ (ps q0 : List Fd), (∀ f, f ∈ ps → Good f) → HG (hdrL crlf ps ++ (endL crlf ++ behind)) q0 (q0 ++ ps.map (fun f => (canon f.1, f.2))) behind
  | [], q0, _ => by
    obtain ⟨j, hl, ht, hd⟩ := lineE crlf [] behind (by simp) (by simp)
    have h1 := HG.done _ q0 j hl ht
    rw [hd] at h1
    simpa [hdrL] using h1
  | f :: ps, q0, h => by
    have hf := h f (by simp)
    have hps : ∀ g, g ∈ ps → Good g := fun g hg => h g (List.mem_cons_of_mem _ hg)
    obtain ⟨j, hl, ht, hd⟩ := lineE crlf (fldL f) (hdrL crlf ps ++ (endL crlf ++ behind)) hf.no.1 hf.no.2
    have e : hdrL crlf (f :: ps) ++ (endL crlf ++ behind) = fldL f ++ (endL crlf ++ (hdrL crlf ps ++ (endL crlf ++ behind))) := by unfold hdrL; simp
    rw [e]
    have hg : Grp (fldL f ++ (endL crlf ++ (hdrL crlf ps ++ (endL crlf ++ behind)))) j (f.1 ++ 58 :: vOf f) (hdrL crlf ps ++ (endL crlf ++ behind)) f.1 (vOf f) := by
      refine ⟨hl, ?_, ?_, ?_, rfl, fun hm => (key_byte hf.key hm).2.1 rfl, hf.kne, hf.key, hf.vals⟩
      · rw [ht]; unfold fldL; simp
      · rw [ht]; unfold fldL; simp
      · rw [ht, hd, hf.trimmed]
        exact CMore.stop _ _ (hdr_head crlf behind ps hps)
    refine HG.step _ q0 _ behind _ j _ _ _ hg ?_
    rw [hf.value]
    have ih := hdr_written crlf behind ps (q0 ++ [(canon f.1, f.2)]) hps
    rwa [List.append_assoc, List.singleton_append] at ih
end Go.Proofs.YthobojpbdeepoaaDoor
