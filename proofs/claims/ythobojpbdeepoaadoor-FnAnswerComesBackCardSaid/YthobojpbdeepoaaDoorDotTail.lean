/-
  What the laws on dot-encoded blocks share: bounds on what is decoded, what an append leaves, the end's kind, the sentinels.
-/
import Derived.Test.YthobojpbdeepoaaDoorDotOpen
import Derived.Test.YthobojpbdeepoaaDoorSpecDots
import Derived.Test.YthobojpbdeepoaaDoorFnLineWalk
namespace Go.Proofs.YthobojpbdeepoaaDoor
open Go.RowKit

theorem dec_len : ∀ (l : List UInt8) (st : Nat), (dec l st).1.length ≤ l.length + (if st = 2 ∨ st = 3 then 1 else 0)
  | [], st => by rw [dec_nil]; exact Nat.zero_le _
  | c :: cs, st => by
    have h0 := dec_len cs 0
    have h1 := dec_len cs 1
    have h2 := dec_len cs 2
    have h3 := dec_len cs 3
    have h4 := dec_len cs 4
    simp at h0 h1 h2 h3 h4
    have hr : (if c = 13 then dec cs 3 else if c = 10 then emit 10 (dec cs 0) else emit c (dec cs 4)).1.length ≤ cs.length + 1 := by
      split
      · exact h3
      · split
        · show (dec cs 0).1.length + 1 ≤ _; omega
        · show (dec cs 4).1.length + 1 ≤ _; omega
    show (dec (c :: cs) st).1.length ≤ cs.length + 1 + _
    unfold dec
    by_cases s5 : st = 5
    · rw [if_pos s5]; exact Nat.zero_le _
    rw [if_neg s5]
    by_cases s0 : st = 0
    · rw [if_pos s0]
      split
      · omega
      · split
        · omega
        · show (dec cs 4).1.length + 1 ≤ _; omega
    rw [if_neg s0]
    by_cases s1 : st = 1
    · rw [if_pos s1]
      split
      · omega
      · split
        · exact Nat.zero_le _
        · show (dec cs 4).1.length + 1 ≤ _; omega
    rw [if_neg s1]
    split
    · exact Nat.zero_le _
    · split
      · show (dec cs 0).1.length + 1 ≤ _; omega
      · by_cases s23 : st = 2 ∨ st = 3
        · simp only [s23, if_true]
          show (if c = 13 then dec cs 3 else if c = 10 then emit 10 (dec cs 0) else emit c (dec cs 4)).1.length + 1 ≤ _
          omega
        · simp only [s23, if_false]
          omega
theorem dec_len0 (l : List UInt8) : (dec l 0).1.length ≤ l.length := by have := dec_len l 0; simpa using this

/-- Sentinels, without the full buffer's. -/
structure EndsC (w : World) (K : Nat) (ae ue : Addr) : Prop where
  eof : Sent w K 0 ae
  cut : Sent w K 1 ue
  ne : ae ≠ ue
theorem EndsC.keep {w w' : World} {K : Nat} {ae ue : Addr} (h : EndsC w K ae ue) (hb : Below K w w') : EndsC w' K ae ue := ⟨h.eof.keep hb, h.cut.keep hb, h.ne⟩
theorem EndsC.drewN {w : World} {K : Nat} {ae ue : Addr} (h : EndsC w K ae ue) (n : Nat) : EndsC (w.drewN n) K ae ue := ⟨⟨h.eof.glob, h.eof.below, h.eof.cell, h.eof.row⟩, ⟨h.cut.glob, h.cut.below, h.cut.cell, h.cut.row⟩, h.ne⟩

theorem kind_cut {K : Nat} {ae ue : Addr} (w : World) (h : EndsC w K ae ue) : Calls Tryd.prog 50 #[errAt ue] w fun e w' => e = .returned (.int .i64 2) ∧ w = w' := by
  have q1 := err_other h.cut h.eof (fun e => h.ne e.symm)
  have q2 := err_same w ue
  have q4 : (binOp .eql 74 (errAt ue) .nilIface).run Tryd.prog w = .ok (.bool false) w := by simp [go_sem]
  have c := h.eof.cell
  have c2 := h.cut.cell
  go_enter Tryd.func50, Tryd.ntmps50
  go_wp2_with fail
  go_ret
  exact ⟨rfl, rfl⟩

theorem own_keepS {wr w1 : World} {S : List Nat} {base n : Nat} {e : TypeId} {v : Value} {xs : List Value} (h : wr.ownsRow base e 1 v n xs) (hT : Turned S wr w1) (hS : ∀ x, x ∈ S → some x ≠ v.ownBlock) : w1.ownsRow base e 1 v n xs := by
  refine ⟨h.1, ?_⟩
  rcases h.2 with h0 | ⟨g, cap, cur, hv, hb, hg, h1⟩
  · exact .inl h0
  · refine .inr ⟨g, cap, cur, hv, hb, (hT.block g ?_ (fun hx => hS g hx (by rw [hv]; rfl))).trans hg, h1⟩
    rcases Nat.lt_or_ge g wr.heap.size with hlt | hge
    · exact hlt
    · rw [Array.getElem?_eq_none hge] at hg; cases hg
theorem Dt.grown {w w' : World} {k : RK} {T D st : Nat} {op : Bool} (h : Dt w k T D st op) (hT : w'.heap[T]? = w.heap[T]?) (hD : w'.heap[D]? = w.heap[D]?) : Dt w' k T D st op := by
  obtain ⟨buf, hb⟩ := h.tb
  exact ⟨h.kt, h.kd, h.ot, h.od, ⟨buf, hT.trans hb⟩, hD.trans h.db⟩
theorem DataAt.drewN {w : World} {p : Option Addr} {l : List UInt8} (h : DataAt w p l) (n : Nat) : DataAt (w.drewN n) p l := by
  rcases h with h | ⟨b, off, h1, h2, h3⟩
  · exact .inl h
  · exact .inr ⟨b, off, h1, h2, h3.of_block rfl⟩
theorem DataAt.rowP {w : World} {p : Option Addr} {l : List UInt8} (h : DataAt w p l) : RowP w p l := by
  rcases h with rfl | ⟨b, off, rfl, _, hr⟩
  · exact .inl rfl
  · exact .inr ⟨b, off, rfl, hr⟩
theorem Sent.drewN {w : World} {K g : Nat} {a : Addr} (h : Sent w K g a) (n : Nat) : Sent (w.drewN n) K g a := ⟨h.glob, h.below, h.cell, h.row⟩
/-- A good block: its text, and what is left behind it. -/
theorem sd_after {s : List UInt8} {ls : List (List UInt8)} {rest : List UInt8} (h : Lns ls) (hs : s = crlfs ls ++ 46 :: 13 :: 10 :: rest) : dec s 0 = (lfs (ls.map unstuff), some rest) := by
  rw [hs, dec_lines _ ls h, dec_end]; simp
/-- A block without an end. -/
theorem sd_none {s : List UInt8} {ls : List (List UInt8)} {t : List UInt8} (h : Lns ls) (ht : Clean t) (hs : s = crlfs ls ++ t) : (dec s 0).2 = none := by
  rw [hs, dec_lines _ ls h]
  exact dec_none t 0 (fun c hc => (ht c hc).2) (by decide)
theorem size_mk (l : List UInt8) : (⟨l.toArray⟩ : ByteArray).size = l.length := by show l.toArray.size = _; simp
end Go.Proofs.YthobojpbdeepoaaDoor
