/-
  A slice of byte slices that came in, as the row reads it.
-/
import Derived.Test.YthobojpbdeepoaaDoorParts
import Derived.Test.YthobojpbdeepoaaDoorDataIn
namespace Go.Proofs.YthobojpbdeepoaaDoor
open Go.RowKit

theorem choose_list {P : Nat → List UInt8 → Prop} : ∀ n, (∀ r, r < n → ∃ l, P r l) → ∃ xs : List (List UInt8), xs.length = n ∧ ∀ (i : Nat) (x : List UInt8), xs[i]? = some x → P i x
  | 0, _ => ⟨[], rfl, fun i x h => by simp at h⟩
  | n + 1, h => by
    obtain ⟨xs, h1, h2⟩ := choose_list n (fun r hr => h r (by omega))
    obtain ⟨l, hl⟩ := h n (by omega)
    refine ⟨xs ++ [l], by rw [List.length_append, h1]; rfl, fun i x hi => ?_⟩
    rcases Nat.lt_trichotomy i n with h3 | h3 | h3
    · rw [List.getElem?_append_left (by omega)] at hi
      exact h2 i x hi
    · subst h3
      rw [List.getElem?_append_right (by omega), h1, Nat.sub_self] at hi
      obtain rfl : l = x := Option.some.inj hi
      exact hl
    · rw [List.getElem?_eq_none (by rw [List.length_append, h1, List.length_singleton]; omega)] at hi
      cases hi
theorem parts_of_rows {w : World} {a : Addr} {len cap base : Nat} {A : Nat → Option Addr} {L C : Nat → Nat} {Z : Nat → List Int} (hl : len ≤ cap)
    (h : ∀ r, r < cap → w.cell? (a.add r) = some (.slice (A r) (L r) (C r)) ∧ L r ≤ C r ∧ C r ≤ maxLen ∧ (Z r).length = C r ∧ (∀ n ∈ Z r, (Lit.int .u8 n).wf = true) ∧ (A r = none → C r = 0) ∧
        ∀ a', A r = some a' → base ≤ a'.block ∧ ∀ c, c < C r → w.cell? (a'.add c) = some (.int .u8 ((Z r).getD c 0))) : ∃ xs : List (List UInt8), xs.length = len ∧ PartsAt w (some a) xs := by
  have hd : ∀ r, r < len → ∃ l : List UInt8, l.length = L r ∧ DataAt w (A r) l := fun r hr => by
    obtain ⟨_, h2, h3, h4, h5, h6, h7⟩ := h r (by omega)
    refine data_of_row (cap := C r) (zs := Z r) ?_
    cases hA : A r with
    | none =>
      have := h6 hA
      exact .inl ⟨rfl, by omega, this, List.eq_nil_of_length_eq_zero (by omega)⟩
    | some x =>
      exact .inr ⟨x, rfl, h2, h3, h4, fun i hi => (h7 x hA).2 i (by omega), h5⟩
  obtain ⟨xs, h1, h2⟩ := choose_list len hd
  refine ⟨xs, h1, fun i x hx => ?_⟩
  obtain ⟨hlen, hdat⟩ := h2 i x hx
  have hi : i < len := by
    obtain ⟨h3, _⟩ := List.getElem?_eq_some_iff.1 hx
    omega
  obtain ⟨c0, _⟩ := h 0 (by omega)
  obtain ⟨ci, _⟩ := h i (by omega)
  obtain ⟨b, off, spot⟩ := a
  have e0 : (⟨b, off, spot⟩ : Addr).add 0 = ⟨b, off, spot⟩ := by unfold Addr.add; rw [if_pos rfl]
  rw [e0] at c0
  have hb : b < w.heap.size ∧ spot = none := by
    unfold World.cell? at c0
    split at c0
    · rename_i heq
      refine ⟨?_, ?_⟩
      · rcases Nat.lt_or_ge b w.heap.size with h' | h'
        · exact h'
        · rw [Array.getElem?_eq_none h'] at heq; cases heq
      · cases spot with
        | none => rfl
        | some k => simp at c0
    · cases c0
  obtain ⟨hb, rfl⟩ := hb
  refine ⟨b, off, A i, C i, rfl, hb, ?_, hdat⟩
  rw [hlen, ← ci]
  unfold Addr.add
  split
  · subst_vars; rfl
  · rfl
end Go.Proofs.YthobojpbdeepoaaDoor
