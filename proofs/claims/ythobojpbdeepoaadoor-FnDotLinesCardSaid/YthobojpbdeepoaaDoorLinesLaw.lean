/-
  The lines of a block, as ReadDotLines reads them: the plain law.
-/
import Derived.Test.YthobojpbdeepoaaDoorSpecLines
namespace Go.Proofs.YthobojpbdeepoaaDoor
open Go.RowKit

/-- The next line of d is l, and r stands behind it. -/
def Nx (d l r : List UInt8) : Prop :=
  (∃ j, d[j]? = some 10 ∧ NoNl d 0 j ∧ l = trimCR (d.take j) ∧ r = d.drop (j + 1)) ∨ (l ≠ [] ∧ l = d ∧ NoNl d 0 d.length ∧ r = [])
/-- The lines that are read out of d, what is left, whether the end was met. -/
inductive DL : List UInt8 → List (List UInt8) → List UInt8 → Bool → Prop
  | eof {d : List UInt8} (h : NoNl d 0 d.length) : DL d [] [] false
  | dot {d r : List UInt8} (h : Nx d [46] r) : DL d [] r true
  | line {d l r rest : List UInt8} {ls : List (List UInt8)} {ok : Bool} (h : Nx d l r) (hne : l ≠ [46]) (hr : DL r ls rest ok) : DL d (unstuff l :: ls) rest ok

theorem nx_crlf {l t x r : List UInt8} (hc : Clean l) (h : Nx (l ++ 13 :: 10 :: t) x r) : x = l ∧ r = t := by
  have hget : (l ++ 13 :: 10 :: t)[l.length + 1]? = some 10 := by
    rw [List.getElem?_append_right (by omega), Nat.add_sub_cancel_left]; rfl
  have hlow : ∀ i, i < l.length + 1 → (l ++ 13 :: 10 :: t)[i]? ≠ some 10 := fun i hi he => by
    rcases Nat.lt_or_ge i l.length with h1 | h1
    · rw [List.getElem?_append_left h1] at he
      exact (hc 10 (List.mem_of_getElem? he)).2 rfl
    · obtain rfl : i = l.length := by omega
      rw [List.getElem?_append_right (Nat.le_refl _), Nat.sub_self] at he
      cases he
  rcases h with ⟨j, h1, h2, h3, h4⟩ | ⟨_, _, h3, _⟩
  · have hj : j = l.length + 1 := by
      rcases Nat.lt_trichotomy j (l.length + 1) with h5 | h5 | h5
      · exact absurd h1 (hlow j h5)
      · exact h5
      · have := h2 (l.length + 1) h5
        rw [Nat.zero_add] at this
        exact absurd hget this
    subst hj
    have e1 : l ++ 13 :: 10 :: t = (l ++ [13]) ++ 10 :: t := by simp
    have e2 : (l ++ 13 :: 10 :: t).take (l.length + 1) = l ++ [13] := by
      rw [e1, List.take_left' (by simp)]
    have e3 : (l ++ 13 :: 10 :: t).drop (l.length + 1 + 1) = t := by
      have e4 : l ++ 13 :: 10 :: t = (l ++ [13, 10]) ++ t := by simp
      rw [e4, List.drop_left' (by simp)]
    rw [e2] at h3
    rw [e3] at h4
    refine ⟨?_, h4⟩
    rw [h3]
    unfold trimCR
    have e5 : (l ++ [13])[(l ++ [13]).length - 1]? = some 13 := by simp
    rw [if_pos e5]
    simp
  · have := h3 (l.length + 1) (by simp)
    rw [Nat.zero_add] at this
    exact absurd hget this
theorem nonl_not {l t : List UInt8} (h : NoNl (l ++ 13 :: 10 :: t) 0 (l ++ 13 :: 10 :: t).length) : False := by
  have := h (l.length + 1) (by simp)
  rw [Nat.zero_add] at this
  exact this (by rw [List.getElem?_append_right (by omega), Nat.add_sub_cancel_left]; rfl)
theorem crlfs_cons (l : List UInt8) (ls : List (List UInt8)) (t : List UInt8) : crlfs (l :: ls) ++ t = l ++ 13 :: 10 :: (crlfs ls ++ t) := by simp [crlfs]

theorem dl_good (rest : List UInt8) : ∀ (ls : List (List UInt8)) {out : List (List UInt8)} {r : List UInt8} {ok : Bool}, Lns ls → DL (crlfs ls ++ 46 :: 13 :: 10 :: rest) out r ok → out = ls.map unstuff ∧ r = rest ∧ ok = true
  | [], out, r, ok, _, h => by
    have e : crlfs [] ++ 46 :: 13 :: 10 :: rest = [46] ++ 13 :: 10 :: rest := rfl
    rw [e] at h
    have hc : Clean [46] := fun c hc => by rw [List.mem_singleton.1 hc]; exact ⟨by decide, by decide⟩
    cases h with
    | eof h => exact (nonl_not h).elim
    | dot h => exact ⟨rfl, (nx_crlf hc h).2, rfl⟩
    | line h hne _ => exact absurd (nx_crlf hc h).1 hne
  | l :: ls, out, r, ok, hl, h => by
    rw [crlfs_cons] at h
    cases h with
    | eof h => exact (nonl_not h).elim
    | dot h => exact absurd (nx_crlf hl.head.1 h).1.symm hl.head.2
    | line h hne hr =>
      obtain ⟨rfl, rfl⟩ := nx_crlf hl.head.1 h
      obtain ⟨rfl, h2, h3⟩ := dl_good rest ls hl.tail hr
      exact ⟨rfl, h2, h3⟩
theorem nx_clean {t x r : List UInt8} (hc : Clean t) (h : Nx t x r) : x = t ∧ r = [] := by
  rcases h with ⟨j, h1, _⟩ | ⟨_, h2, _, h4⟩
  · exact absurd rfl (hc 10 (List.mem_of_getElem? h1)).2
  · exact ⟨h2, h4⟩
theorem dl_nil {out : List (List UInt8)} {r : List UInt8} {ok : Bool} (h : DL [] out r ok) : ok = false := by
  cases h with
  | eof h => rfl
  | dot h =>
    rcases h with ⟨j, h1, _⟩ | ⟨h1, h2, _⟩
    · simp at h1
    · exact absurd h2 h1
  | line h hne hr =>
    rcases h with ⟨j, h1, _⟩ | ⟨h1, h2, _⟩
    · simp at h1
    · exact absurd h2 h1
theorem dl_bad (t : List UInt8) (ht : Clean t) : ∀ (ls : List (List UInt8)) {out : List (List UInt8)} {r : List UInt8} {ok : Bool}, Lns ls → DL (crlfs ls ++ t) out r ok → ok = false ∨ t = [46]
  | [], out, r, ok, _, h => by
    have e : crlfs [] ++ t = t := rfl
    rw [e] at h
    cases h with
    | eof h => exact .inl rfl
    | dot h => exact .inr (nx_clean ht h).1.symm
    | line h hne hr =>
      obtain ⟨rfl, rfl⟩ := nx_clean ht h
      exact .inl (dl_nil hr)
  | l :: ls, out, r, ok, hl, h => by
    rw [crlfs_cons] at h
    cases h with
    | eof h => exact (nonl_not h).elim
    | dot h => exact absurd (nx_crlf hl.head.1 h).1.symm hl.head.2
    | line h hne hr =>
      obtain ⟨rfl, rfl⟩ := nx_crlf hl.head.1 h
      exact dl_bad t ht ls hl.tail hr

theorem clean_unstuff {l : List UInt8} (h : Clean l) : Clean (unstuff l) := by
  cases l with
  | nil => exact h
  | cons c cs =>
    show Clean (if c = 46 then cs else c :: cs)
    split
    · exact h.tail
    · exact h
/-- The lines of a text are its own. -/
theorem ln_lines (last : List UInt8) : ∀ (ls full : List (List UInt8)), (∀ l, l ∈ ls → Clean l) → (∀ l, l ∈ full → Clean l) → Clean last → lfs ls = lfs full ++ last → full = ls ∧ last = []
  | [], [], _, _, _, h => ⟨rfl, by simpa [lfs] using h.symm⟩
  | [], f :: fs, _, _, _, h => by simp [lfs] at h
  | l :: ls, [], h1, _, h3, h => by
    have h4 : last = l ++ 10 :: lfs ls := by simpa [lfs] using h.symm
    exact absurd rfl (h3 10 (by rw [h4]; simp)).2
  | l :: ls, f :: fs, h1, h2, h3, h => by
    have h4 : l ++ 10 :: lfs ls = f ++ 10 :: (lfs fs ++ last) := by simpa [lfs] using h
    have c1 := h1 l List.mem_cons_self
    have c2 := h2 f List.mem_cons_self
    have key : ∀ (a b x y : List UInt8), Clean a → Clean b → a ++ 10 :: x = b ++ 10 :: y → a = b ∧ x = y := by
      intro a
      induction a with
      | nil =>
        intro b x y _ hb e
        cases b with
        | nil => exact ⟨rfl, (List.cons.inj e).2⟩
        | cons c cs => exact absurd (List.cons.inj e).1.symm hb.head.2
      | cons c cs ih =>
        intro b x y ha hb e
        cases b with
        | nil => exact absurd (List.cons.inj e).1 ha.head.2
        | cons d ds =>
          obtain ⟨e1, e2⟩ := List.cons.inj e
          obtain ⟨e3, e4⟩ := ih ds x y ha.tail hb.tail e2
          exact ⟨by rw [e1, e3], e4⟩
    obtain ⟨rfl, e2⟩ := key l f _ _ c1 c2 h4
    obtain ⟨rfl, e3⟩ := ln_lines last ls fs (fun x hx => h1 x (List.mem_cons_of_mem _ hx)) (fun x hx => h2 x (List.mem_cons_of_mem _ hx)) h3 e2
    exact ⟨rfl, e3⟩
end Go.Proofs.YthobojpbdeepoaaDoor
