/-
  The header that is being read, beside the reader: what reading and the canonical form of a key in place leave; a text's place in the row that was made ahead.
-/
import Derived.Test.YthobojpbdeepoaaDoorHdrData
import Derived.Test.YthobojpbdeepoaaDoorHdrMem
import Derived.Test.YthobojpbdeepoaaDoorCont
import Derived.Test.YthobojpbdeepoaaDoorUpcoming
namespace Go.Proofs.YthobojpbdeepoaaDoor
open Go.RowKit Go.ChangeMaps Go.MapKept Go.WideShapes

theorem Wrote.turned {b lo hi : Nat} {w w' : World} (h : Wrote b lo hi w w') : Turned [b] w w' := ⟨h.os, h.tape, h.output, by rw [h.size]; exact Nat.le_refl _, fun k _ hk => h.block k (by simpa using hk)⟩

/-- What was read may be written: the state is as it was, but for the buffer's cells. -/
theorem Rd.wrote_read {w w' : World} {k : RK} {s : RS} {lo hi : Nat} (h : Rd w k s) (hw : Wrote k.C lo hi w w') (hh : hi ≤ s.r) : ∃ s', Rd w' k s' ∧ s'.pos = s.pos ∧ s'.r = s.r := by
  obtain ⟨cs', h1, h2, h3⟩ := hw.row _ _ _ h.cb
  have ht : Turned k.blocks w w' := hw.turned.mono (by simp [RK.blocks])
  have hcl : cs'.toList.length = 4096 := by
    have := h.cl
    simp at h2 ⊢
    omega
  refine ⟨{ s with cur := cs'.toList }, h.next ht ?_ ?_ ?_ hcl h.rw h.wl h.il h.bl ?_ h.er, rfl, rfl⟩
  · exact (hw.block k.B (fun e => h.kc_ne e.symm)).trans h.bb
  · show w'.heap[k.C]? = _
    rw [h1]
  · exact (hw.block k.Y (fun e => h.cy_ne e.symm)).trans h.yb
  · intro j u hj hu
    have h5 := h.buf j u hj hu
    have h6 := h3 (s.r + j) (.inr (by omega))
    show cs'.toList[s.r + j]? = _
    rw [Array.getElem?_toList, h6]
    simpa using h5

theorem by8_at {l : List UInt8} {j : Nat} {u : UInt8} (h : l[j]? = some u) : (by8 l)[j]? = some (.int .u8 (u.toNat : Int)) := by unfold by8; rw [List.getElem?_map, h]; rfl
theorem by8_len (l : List UInt8) : (by8 l).length = l.length := by unfold by8; rw [List.length_map]

/-- The reader's own buffer, written at its beginning. -/
theorem Tb.wrote {w w' : World} {k : RK} {T base b cap i : Nat} {xs t c' : List UInt8} {s : RS} (h : Tb w k T base (.slice (some ⟨b, 0, none⟩) t.length cap) xs) (_hR : Rd w k s) (hx : xs.length = t.length) (hrow : Row8 w b 0 t)
    (hw : Wrote b 0 i w w') (hi : i ≤ t.length) (hc : Row8 w' b 0 c') (hcl : c'.length = i) : Tb w' k T base (.slice (some ⟨b, 0, none⟩) t.length cap) (c' ++ t.drop i) := by
  have hb := own_ge h.own (g := b) rfl
  have hT : T ≠ b := by have := h.lt; omega
  have hlen : (c' ++ t.drop i).length = t.length := by rw [List.length_append, List.length_drop]; omega
  refine ⟨h.kt, h.off, h.lt, h.bb, h.cb, h.yb, h.new, by rw [hw.size]; exact h.size, (hw.block T hT).trans h.blk, ?_⟩
  rw [hlen]
  refine ⟨by rw [by8_len, hlen, Nat.mul_one], ?_⟩
  rcases h.own.2 with ⟨h0, _⟩ | ⟨g, cap', cur, hv, hbg, hg, hn, hm, hs, ht⟩
  · cases h0
  · injection hv with e1 e2 e3
    injection e1 with e1
    injection e1 with e1
    subst e1 e3
    obtain ⟨cs', h1, h2, h3⟩ := hw.row _ _ _ hg
    refine .inr ⟨b, cap, cs', rfl, hbg, h1, by omega, hm, by rw [h2]; exact hs, ?_⟩
    rw [Nat.mul_one]
    apply List.ext_getElem?
    intro j
    rw [List.getElem?_take]
    by_cases hj : j < t.length
    · rw [if_pos hj]
      obtain ⟨u, hu⟩ : ∃ u, (c' ++ t.drop i)[j]? = some u := ⟨_, List.getElem?_eq_getElem (by omega)⟩
      rw [by8_at hu]
      have hcell : w'.cell? ⟨b, j, none⟩ = cs'[j]? := cell_of_row w' b j cs' _ _ h1
      by_cases hji : j < i
      · rw [List.getElem?_append_left (by omega)] at hu
        have := hc j u hu
        rw [Nat.zero_add, hcell] at this
        rw [Array.getElem?_toList]
        exact this
      · rw [List.getElem?_append_right (by omega), List.getElem?_drop] at hu
        have h5 := hrow j u (by rw [← hu]; congr 1; omega)
        rw [Nat.zero_add, cell_of_row w b j cur _ _ hg] at h5
        rw [Array.getElem?_toList, h3 j (.inr (by omega))]
        exact h5
    · rw [if_neg hj, List.getElem?_eq_none (by rw [by8_len]; omega)]

/-- The key of a line that was handed out, written in place. -/
theorem place_wrote {w W1 w2 : World} {k : RK} {s0 s : RS} {T base b off cap i : Nat} {v0 v : Value} {xs0 xs t c' : List UInt8} (hR0 : Rd w k s0) (hT0 : Tb w k T base v0 xs0) (hR : Rd W1 k s) (hT : Tb W1 k T base v xs) (hrow : Row8 W1 b off t)
    (hp : (b = k.C ∧ off + t.length ≤ s.r) ∨ (w.heap.size ≤ b ∧ some b ≠ v.ownBlock) ∨ v = .slice (some ⟨b, off, none⟩) t.length cap)
    (hw : Wrote b off (off + i) W1 w2) (hi : i ≤ t.length) (hc : Row8 w2 b off c') (hcl : c'.length = i) : ∃ s' xs', Rd w2 k s' ∧ s'.pos = s.pos ∧ Tb w2 k T base v xs' := by
  have hTu := hw.turned
  rcases hp with ⟨rfl, hr⟩ | ⟨hb, hne⟩ | rfl
  · obtain ⟨s', h1, h2, _⟩ := hR.wrote_read hw (by omega)
    exact ⟨s', xs, h1, h2, hT.keep hR (hTu.mono (by simp [RK.blocks]))⟩
  · refine ⟨s, xs, hR.keepOff hTu ?_ ?_ ?_ ?_, rfl, hT.keepS hTu ?_ ?_⟩
    · have := hR0.bb.lt; simp; omega
    · have := hR0.cb.lt; simp; omega
    · have := hR0.yb.lt; simp; omega
    · intro x hx
      rw [List.mem_singleton.1 hx]
      have := hR0.kb
      have := hR0.bb.lt
      exact ⟨by omega, hR0.offNew hb⟩
    · have := hT0.blk.lt; simp; omega
    · intro x hx
      rw [List.mem_singleton.1 hx]
      exact hne
  · have hxl : xs.length = t.length := by
      rcases hT.own.2 with ⟨h0, _⟩ | ⟨g, cap', cur, hv, _⟩
      · cases h0
      · injection hv with _ e2
        exact e2.symm
    have ho : off = 0 := by
      rcases hT.own.2 with ⟨h0, _⟩ | ⟨g, cap', cur, hv, _⟩
      · cases h0
      · injection hv with e1
        injection e1 with e1
        injection e1
    subst ho
    have hb := own_ge hT.own (g := b) rfl
    rw [Nat.zero_add] at hw
    have h1 := hT.bb
    have h2 := hT.cb
    have h3 := hT.yb
    refine ⟨s, _, hR.keepOff hTu ?_ ?_ ?_ ?_, rfl, hT.wrote hR hxl hrow hw hi hc hcl⟩
    · simp; omega
    · simp; omega
    · simp; omega
    · intro x hx
      rw [List.mem_singleton.1 hx]
      have := hT.kt
      have := hT.lt
      exact ⟨by omega, hT.new _ hb.1⟩
end Go.Proofs.YthobojpbdeepoaaDoor
