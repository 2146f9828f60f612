/-
  A slice of bytes that came in, as the row reads it, as a list of bytes.
-/
import Derived.Test.YthobojpbdeepoaaDoorMakeReader
namespace Go.Proofs.YthobojpbdeepoaaDoor
open Go.RowKit

theorem u8_of_wf {n : Int} (h : (Lit.int .u8 n).wf = true) : ((UInt8.ofNat n.toNat).toNat : Int) = n := by
  have h1 : 0 ≤ n ∧ n ≤ 255 := by simpa [Lit.wf, IntKind.min, IntKind.max, IntKind.signed, IntKind.bits] using h
  have h2 : n.toNat < 256 := by omega
  rw [UInt8.toNat_ofNat']
  omega
theorem data_of_row {w : World} {a : Option Addr} {len cap : Nat} {zs : List Int}
    (h : (a = none ∧ len = 0 ∧ cap = 0 ∧ zs = []) ∨ ∃ x, a = some x ∧ len ≤ cap ∧ cap ≤ maxLen ∧ zs.length = cap ∧ (∀ i, i < zs.length → w.cell? (x.add i) = some (.int .u8 (zs.getD i 0))) ∧ ∀ n ∈ zs, (Lit.int .u8 n).wf = true) :
    ∃ l : List UInt8, l.length = len ∧ DataAt w a l := by
  rcases h with ⟨rfl, rfl, rfl, rfl⟩ | ⟨x, rfl, hl, _, hz, hc, hw⟩
  · exact ⟨[], rfl, .inl rfl⟩
  · refine ⟨(zs.take len).map fun n => UInt8.ofNat n.toNat, by rw [List.length_map, List.length_take]; omega, ?_⟩
    by_cases h0 : len = 0
    · subst h0; exact .inl rfl
    · have c0 := hc 0 (by omega)
      obtain ⟨b, off, spot⟩ := x
      have e0 : (⟨b, off, spot⟩ : Addr).add 0 = ⟨b, off, spot⟩ := by unfold Addr.add; rw [if_pos rfl]
      rw [e0] at c0
      have hb : b < w.heap.size ∧ spot = none := by
        unfold World.cell? at c0
        split at c0
        · rename_i heq
          refine ⟨?_, ?_⟩
          · rcases Nat.lt_or_ge b w.heap.size with h' | h'
            · exact h'
            · rw [Array.getElem?_eq_none h'] at heq; cases heq
          · cases spot with
            | none => rfl
            | some k => simp at c0
        · cases c0
      obtain ⟨hb, rfl⟩ := hb
      refine .inr ⟨b, off, rfl, hb, fun j u hj => ?_⟩
      rw [List.getElem?_map] at hj
      obtain ⟨n, hn, rfl⟩ := Option.map_eq_some_iff.1 hj
      have hj2 : j < len := by
        have h1 := (List.getElem?_eq_some_iff.1 hn).1
        rw [List.length_take] at h1
        omega
      rw [List.getElem?_take_of_lt hj2] at hn
      have h1 := hc j (by omega)
      rw [List.getD_eq_getElem?_getD, hn] at h1
      have h2 : w.cell? ⟨b, off + j, none⟩ = some (.int .u8 n) := by
        unfold Addr.add at h1
        split at h1
        · subst_vars; simpa using h1
        · exact h1
      rw [h2, u8_of_wf (hw n (List.mem_of_getElem? hn))]
end Go.Proofs.YthobojpbdeepoaaDoor
