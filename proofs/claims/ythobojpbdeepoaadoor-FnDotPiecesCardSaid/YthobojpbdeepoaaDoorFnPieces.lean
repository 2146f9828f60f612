/-
  The walk of laws.FnDotPieces.
-/
import Derived.Test.YthobojpbdeepoaaDoorDotPieces
namespace Go.Proofs.YthobojpbdeepoaaDoor
open Go.RowKit

/-- A slice of integers that came in, as the row reads it. -/
theorem ints_of_row {w : World} {a : Option Addr} {len cap : Nat} {zs : List Int}
    (h : (a = none ∧ len = 0 ∧ cap = 0 ∧ zs = []) ∨ ∃ x, a = some x ∧ len ≤ cap ∧ cap ≤ maxLen ∧ zs.length = cap ∧ (∀ i, i < zs.length → w.cell? (x.add i) = some (.int .i64 (zs.getD i 0))) ∧ ∀ n ∈ zs, (Lit.int .i64 n).wf = true) : Ints w a len := by
  rcases h with ⟨rfl, rfl, rfl, rfl⟩ | ⟨x, rfl, hl, _, hz, hc, hw⟩
  · exact .inl rfl
  · by_cases h0 : len = 0
    · exact .inl h0
    · have c0 := hc 0 (by omega)
      obtain ⟨b, off, spot⟩ := x
      have e0 : (⟨b, off, spot⟩ : Addr).add 0 = ⟨b, off, spot⟩ := by unfold Addr.add; rw [if_pos rfl]
      rw [e0] at c0
      have hb : b < w.heap.size ∧ spot = none := by
        unfold World.cell? at c0
        split at c0
        · rename_i heq
          refine ⟨?_, ?_⟩
          · rcases Nat.lt_or_ge b w.heap.size with h' | h'
            · exact h'
            · rw [Array.getElem?_eq_none h'] at heq; cases heq
          · cases spot with
            | none => rfl
            | some k => simp at c0
        · cases c0
      obtain ⟨hb, rfl⟩ := hb
      refine .inr ⟨b, off, rfl, hb, fun i hi => ?_⟩
      have h1 := hc i (by omega)
      have hm : zs.getD i 0 ∈ zs := by
        rw [List.getD_eq_getElem?_getD, List.getElem?_eq_getElem (by omega)]
        exact List.getElem_mem _
      have h2 := hw _ hm
      refine ⟨zs.getD i 0, ?_, ?_⟩
      · unfold Addr.add at h1
        split at h1
        · subst_vars; simpa using h1
        · exact h1
      · simpa [Lit.wf, IntKind.min, IntKind.max, IntKind.signed, IntKind.bits] using h2
theorem Ints.drewN {w : World} {a : Option Addr} {n : Nat} (h : Ints w a n) (q : Nat) : Ints (w.drewN q) a n := h.keep ((Turned.refl _ _).drewN q)

set_option maxRecDepth 100000 in
set_option maxHeartbeats 4000000 in
theorem fnDotPieces_any (p : Option Addr) (l : List UInt8) (cap : Nat) (sa : Option Addr) (sn scap : Nat) (ae ue : Addr) (w : World) (h : DataAt w p l) (hS : Ints w sa sn) (hE : EndsC w w.heap.size ae ue) :
    Calls Tryd.prog 7 #[.slice p l.length cap, .slice sa sn scap] w fun e w' => e = .returned (.bool true) ∧ Turned [] w w' := by
  by_cases hb2 : 2147483647 < l.length
  · have b1 : (2147483647 : Int) < (l.length : Int) := by omega
    go_enter Tryd.func7, Tryd.ntmps7
    go_wp2_with fail
    go_ret
    exact ⟨rfl, Turned.refl _ _⟩
  have b1 : ¬ (2147483647 : Int) < (l.length : Int) := by omega
  by_cases hs2 : 2147483647 < sn
  · have b2 : (2147483647 : Int) < (sn : Int) := by omega
    go_enter Tryd.func7, Tryd.ntmps7
    go_wp2_with fail
    go_ret
    exact ⟨rfl, Turned.refl _ _⟩
  have b2 : ¬ (2147483647 : Int) < (sn : Int) := by omega
  by_cases hb : 65536 < l.length
  · have b0 : (65536 : Int) < (l.length : Int) := by omega
    go_enter Tryd.func7, Tryd.ntmps7
    go_wp2_with fail
    go_ret
    exact ⟨rfl, Turned.refl _ _⟩
  have b0 : ¬ (65536 : Int) < (l.length : Int) := by omega
  have hs := string_of_rowP h.rowP cap
  have SD := specDots_any ⟨l.toArray⟩ w (by rw [size_mk]; omega)
  have DP := Lib.hid (fun q => dotPieces_any p l cap sa sn scap ae ue (w.drewN q) (h.drewN q) (by omega) (hS.drewN q) (by omega) (hE.drewN q))
  clear h hE hb hs2 hb2 hS
  go_enter Tryd.func7, Tryd.ntmps7
  go_wp2_with fail
  go_at_call 28
  refine SD.mono ?_
  rintro e w1 ⟨⟨q, rfl⟩, text, rest, what, rfl, hts, hor⟩
  have HOR := Lib.hid hor
  clear SD hts hor
  go_wp2_with fail
  go_at_call 29
  refine (DP.out _).mono ?_
  rintro e w3 ⟨p1, p2, cap1, cap2, n, kd, rfl, hT, hp1, hp2, hfin⟩
  have HF : Hid (Turned [] w w3) := ((Turned.refl [] w).drewN _).trans hT
  have s1 := string_of_rowP hp1 cap1
  have s2 := string_of_rowP hp2 cap2
  rcases HOR.out with ⟨rfl, ls, h1, h2, h3⟩ | ⟨rfl, ls, t, h1, h2, h3⟩ | rfl
  · have hd := sd_after h1 h2
    rw [lst_mk] at hd
    rw [hd] at hfin
    have ht : text = ⟨(dec l 0).1.toArray⟩ := lst_inj (by rw [h3, hd]; rfl)
    obtain ⟨hk, hr⟩ : kd = 1 ∧ rest = ⟨(l.drop n).toArray⟩ := by
      rcases hfin with ⟨g1, g2⟩ | ⟨g1, _⟩
      · exact ⟨g2, lst_inj (by rw [lst_mk]; exact Option.some.inj g1)⟩
      · cases g1
    rw [List.length_drop] at s2
    subst hk ht hr
    clear hd
    generalize (dec l 0).1 = x at *
    clear hp1 hp2 hT HOR DP h1 h2 h3 hfin
    go_wp2_with fail
    go_ret
    exact ⟨ret_bool (by simp), HF.out⟩
  · have hd := sd_none h1 h2 h3
    rw [lst_mk] at hd
    obtain rfl : kd = 2 := by
      rcases hfin with ⟨g1, _⟩ | ⟨_, g2⟩
      · rw [hd] at g1; cases g1
      · exact g2
    clear hp1 hp2 hT HOR DP h1 h2 h3 hfin hd s1 s2
    go_wp2_with fail
    go_ret
    exact ⟨rfl, HF.out⟩
  · clear hp1 hp2 hT HOR DP hfin s1 s2
    go_wp2_with fail
    go_ret
    exact ⟨rfl, HF.out⟩
end Go.Proofs.YthobojpbdeepoaaDoor
