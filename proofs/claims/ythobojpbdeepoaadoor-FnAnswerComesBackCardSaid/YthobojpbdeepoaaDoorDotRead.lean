/-
  The contract of (*textproto.dotReader).Read.
-/
import Derived.Test.YthobojpbdeepoaaDoorTpLine
import Derived.Test.YthobojpbdeepoaaDoorDotLaw
namespace Go.Proofs.YthobojpbdeepoaaDoor
open Go.RowKit

/-- A textproto.Reader at T, a dotReader at D in state st; op: does r.dot hold it? -/
structure Dt (w : World) (k : RK) (T D st : Nat) (op : Bool) : Prop where
  kt : k.K ≤ T
  kd : k.K ≤ D
  ot : Off k T
  od : Off k D
  tb : ∃ buf, Blk w T 129 #[.pointer (some ⟨k.B, 0, none⟩), .pointer (if op then some ⟨D, 0, none⟩ else none), buf]
  db : Blk w D 153 #[.pointer (some ⟨T, 0, none⟩), .int .i64 (st : Int)]
/-- A row of bytes that Read may fill: n bytes from o on in block G. -/
structure Bf (w : World) (k : RK) (G o n : Nat) (cur : List Value) : Prop where
  blk : Blk w G 5 cur.toArray
  fit : o + n ≤ cur.length
  kg : k.K ≤ G
  nc : G ≠ k.C
  og : Off k G

/-- The blocks that Read turns. -/
abbrev dotBlocks (k : RK) (T D G : Nat) : List Nat := T :: D :: G :: k.blocks

section
variable {w w' : World} {k : RK} {s : RS} {T D st : Nat} {op : Bool}
theorem Dt.ne (h : Dt w k T D st op) : T ≠ D := by
  obtain ⟨buf, hb⟩ := h.tb
  exact hb.ne_ h.db (by decide)
theorem Dt.nt (h : Dt w k T D st op) (hR : Rd w k s) : T ∉ k.blocks := by
  obtain ⟨buf, hb⟩ := h.tb
  simp [RK.blocks]
  exact ⟨hb.ne_ hR.bb (by decide), hb.ne_ hR.cb (by decide), hb.ne_ hR.yb (by decide)⟩
theorem Dt.nd (h : Dt w k T D st op) (hR : Rd w k s) : D ∉ k.blocks := by
  simp [RK.blocks]
  exact ⟨h.db.ne_ hR.bb (by decide), h.db.ne_ hR.cb (by decide), h.db.ne_ hR.yb (by decide)⟩
theorem Dt.keep {S : List Nat} (h : Dt w k T D st op) (ht : Turned S w w') (h1 : T ∉ S) (h2 : D ∉ S) : Dt w' k T D st op := by
  obtain ⟨buf, hb⟩ := h.tb
  exact ⟨h.kt, h.kd, h.ot, h.od, ⟨buf, ht.blk hb h1⟩, ht.blk h.db h2⟩
theorem Dt.to (h : Dt w k T D st op) (st' : Nat) : Dt (w.setCell ⟨D, 1, none⟩ (.int .i64 (st' : Int))) k T D st' op := by
  obtain ⟨buf, hb⟩ := h.tb
  exact ⟨h.kt, h.kd, h.ot, h.od, ⟨buf, hb.far (by simpa using h.ne) _⟩, by simpa using h.db.set_ 1 (.int .i64 (st' : Int))⟩
theorem Dt.shut (h : Dt w k T D st op) : Dt (w.setCell ⟨T, 1, none⟩ (.pointer none)) k T D st false := by
  obtain ⟨buf, hb⟩ := h.tb
  exact ⟨h.kt, h.kd, h.ot, h.od, ⟨buf, by simpa using hb.set_ 1 (.pointer none)⟩, h.db.far (by simpa using h.ne.symm) _⟩
theorem Dt.cells (h : Dt w k T D st op) : w.cell? ⟨T, 0, none⟩ = some (.pointer (some ⟨k.B, 0, none⟩)) ∧ w.cell? ⟨T, 1, none⟩ = some (.pointer (if op then some ⟨D, 0, none⟩ else none)) ∧
    w.cell? ⟨D, 0, none⟩ = some (.pointer (some ⟨T, 0, none⟩)) ∧ w.cell? ⟨D, 1, none⟩ = some (.int .i64 (st : Int)) := by
  obtain ⟨buf, hb⟩ := h.tb
  have hd := h.db
  refine ⟨?_, ?_, ?_, ?_⟩
  · rw [hb.cell]; rfl
  · rw [hb.cell]; rfl
  · rw [hd.cell]; rfl
  · rw [hd.cell]; rfl
theorem Dt.froz (h : Dt w k T D st op) : w.frozen? ⟨T, 1, none⟩ = false ∧ w.frozen? ⟨D, 1, none⟩ = false := by
  obtain ⟨buf, hb⟩ := h.tb
  exact ⟨hb.frozen 1, h.db.frozen 1⟩
end

theorem splice_nil {α : Type} (L : List α) (o : Nat) : splice L o [] = L := by simp [splice]
theorem splice_high {α : Type} (L : List α) (o : Nat) (cs : List α) (j : Nat) (h : o + cs.length ≤ L.length) (hj : o + cs.length ≤ j) : (splice L o cs)[j]? = L[j]? := by
  unfold splice
  rw [List.getElem?_append_right (by rw [List.length_take]; omega), List.length_take, Nat.min_eq_left (by omega), List.getElem?_append_right (by omega), List.getElem?_drop]
  congr 1
  omega
theorem splice_snoc {α : Type} (L : List α) (o : Nat) (cs : List α) (c : α) (h : o + cs.length < L.length) : (splice L o cs).set (o + cs.length) c = splice L o (cs ++ [c]) := by
  apply List.ext_getElem?
  intro i
  rw [List.getElem?_set]
  have h1 : (splice L o cs).length = L.length := length_splice _ _ _ (by omega)
  have h4 : (cs ++ [c]).length = cs.length + 1 := by simp
  by_cases hi : o + cs.length = i
  · subst hi
    rw [if_pos rfl, h1, if_pos h, splice_in L o (cs ++ [c]) cs.length (by omega) (by omega)]
    simp
  · rw [if_neg hi]
    rcases Nat.lt_or_ge i o with h2 | h2
    · rw [splice_low _ _ _ _ (by omega) h2, splice_low _ _ _ _ (by omega) h2]
    · obtain ⟨j, rfl⟩ : ∃ j, i = o + j := ⟨i - o, by omega⟩
      rcases Nat.lt_or_ge j cs.length with h3 | h3
      · rw [splice_in _ _ _ _ (by omega) h3, splice_in _ _ _ _ (by omega) (by omega), List.getElem?_append_left h3]
      · rw [splice_high _ _ _ _ (by omega) (by omega), splice_high _ _ _ _ (by omega) (by omega)]

/-- What a round of Read's loop keeps: e handed out so far, the machine's state st, the reader's s1. -/
structure DR (k : RK) (s : RS) (w : World) (T D st0 : Nat) (op : Bool) (G o n : Nat) (cur : List Value) (g : Nat) (e : List UInt8) (st : Nat) (s1 : RS) (wr : World) : Prop where
  rd : Rd wr k s1
  tu : Turned (dotBlocks k T D G) w wr
  dt : Dt wr k T D st op
  gb : Blk wr G 5 (splice cur o (by8 e)).toArray
  len : e.length ≤ n
  eq : dec (k.d.drop s.pos) st0 = (e ++ (dec (k.d.drop s1.pos) st).1, (dec (k.d.drop s1.pos) st).2)
  le : 2 * (k.d.length - s1.pos) + (if st = 2 ∨ st = 3 then 1 else 0) ≤ g
  s5 : st ≤ 5

section
variable {k : RK} {s s1 s2 : RS} {w wr w2 W : World} {T D st0 st st' : Nat} {op : Bool} {G o n : Nat} {cur : List Value} {g : Nat} {e : List UInt8}
theorem DR.next (h : DR k s w T D st0 op G o n cur g e st s1 wr) (out : List UInt8) (hR : Rd W k s2) (hT : Turned (dotBlocks k T D G) wr W) (hD : Dt W k T D st' op) (hG : Blk W G 5 (splice cur o (by8 (e ++ out))).toArray)
    (hl : (e ++ out).length ≤ n) (heq : dec (k.d.drop s1.pos) st = (out ++ (dec (k.d.drop s2.pos) st').1, (dec (k.d.drop s2.pos) st').2)) (h5 : st' ≤ 5)
    (hm : 2 * (k.d.length - s2.pos) + (if st' = 2 ∨ st' = 3 then 1 else 0) + 1 ≤ 2 * (k.d.length - s1.pos) + (if st = 2 ∨ st = 3 then 1 else 0)) :
    DR k s w T D st0 op G o n cur (g - 1) (e ++ out) st' s2 W ∧ 1 ≤ g := by
  have h1 := h.le
  refine ⟨⟨hR, h.tu.trans hT, hD, hG, hl, ?_, by omega, h5⟩, by omega⟩
  rw [h.eq, heq, List.append_assoc]
theorem DR.drop (_h : DR k s w T D st0 op G o n cur g e st s1 wr) {c : UInt8} (hc : k.d[s1.pos]? = some c) : k.d.drop s1.pos = c :: k.d.drop (s1.pos + 1) := by
  obtain ⟨h1, h2⟩ := List.getElem?_eq_some_iff.1 hc
  rw [List.drop_eq_getElem_cons h1, h2]
theorem DR.ng (h : DR k s w T D st0 op G o n cur g e st s1 wr) (hB : Bf w k G o n cur) : G ∉ k.blocks ∧ G ≠ T ∧ G ≠ D := by
  obtain ⟨buf, ht⟩ := h.dt.tb
  refine ⟨?_, h.gb.ne_ ht (by decide), h.gb.ne_ h.dt.db (by decide)⟩
  simp [RK.blocks]
  exact ⟨h.gb.ne_ h.rd.bb (by decide), hB.nc, h.gb.ne_ h.rd.yb (by decide)⟩
/-- The state behind writes to D and G alone. -/
theorem DR.rd_on (h : DR k s w T D st0 op G o n cur g e st s1 wr) (hB : Bf w k G o n cur) (hR : Rd w2 k s2) (hT : Turned [D, G] w2 W) : Rd W k s2 := by
  have h1 := h.dt.nd h.rd
  have h2 := (h.ng hB).1
  simp [RK.blocks] at h1 h2
  refine hR.keepOff hT ?_ ?_ ?_ ?_
  · simp; exact ⟨fun e => h1.1 e.symm, fun e => h2.1 e.symm⟩
  · simp; exact ⟨fun e => h1.2.1 e.symm, fun e => h2.2.1 e.symm⟩
  · simp; exact ⟨fun e => h1.2.2 e.symm, fun e => h2.2.2 e.symm⟩
  · intro x hx
    simp at hx
    rcases hx with rfl | rfl
    · exact ⟨h.dt.kd, h.dt.od⟩
    · exact ⟨hB.kg, hB.og⟩
theorem DR.tu_on (hT : Turned k.blocks wr w2) (hT2 : Turned [D, G] w2 W) : Turned (dotBlocks k T D G) wr W :=
  (hT.mono (fun x hx => by simp [dotBlocks] at hx ⊢; omega)).trans (hT2.mono (fun x hx => by simp [dotBlocks] at hx ⊢; omega))
/-- A byte is taken, nothing is handed out. -/
theorem DR.hush (h : DR k s w T D st0 op G o n cur g e st s1 wr) (hB : Bf w k G o n cur) {c : UInt8} (hc : k.d[s1.pos]? = some c) (hR : Rd w2 k s2) (hT : Turned k.blocks wr w2) (hp : s2.pos = s1.pos + 1) (st' : Nat) (h5 : st' ≤ 5)
    (heq : ∀ t, dec (c :: t) st = dec t st') :
    DR k s w T D st0 op G o n cur (g - 1) e st' s2 (w2.setCell ⟨D, 1, none⟩ (.int .i64 (st' : Int))) ∧ 1 ≤ g := by
  have hlt := (List.getElem?_eq_some_iff.1 hc).1
  have hT2 : Turned [D, G] w2 (w2.setCell ⟨D, 1, none⟩ (.int .i64 (st' : Int))) := (Turned.refl _ _).setCell (.inl (by simp)) _
  obtain ⟨n1, n2, n3⟩ := h.ng hB
  have h1 := h.next [] (h.rd_on hB hR hT2) (DR.tu_on hT hT2) ((h.dt.keep hT (h.dt.nt h.rd) (h.dt.nd h.rd)).to st') (by rw [List.append_nil]; exact (hT.blk h.gb n1).far (by simpa using n3) _) (by rw [List.append_nil]; exact h.len)
    (by rw [h.drop hc, heq, hp]; simp) h5 (by split <;> split <;> omega)
  rwa [List.append_nil] at h1
/-- A byte is handed out: behind w3, where D's state is st'. -/
theorem DR.say (h : DR k s w T D st0 op G o n cur g e st s1 wr) (hB : Bf w k G o n cur) (hlt : s1.pos < k.d.length) (hn : e.length < n) (c' : UInt8) {w3 : World} (hR : Rd w3 k s2) (hT : Turned (dotBlocks k T D G) wr w3) (hD : Dt w3 k T D st' op)
    (hG : Blk w3 G 5 (splice cur o (by8 e)).toArray) (h5 : st' ≤ 5) (heq : dec (k.d.drop s1.pos) st = emit c' (dec (k.d.drop s2.pos) st')) (hm : s2.pos = s1.pos + 1 ∨ (s2.pos = s1.pos ∧ st' = 4 ∧ (st = 2 ∨ st = 3))) :
    DR k s w T D st0 op G o n cur (g - 1) (e ++ [c']) st' s2 (w3.setCell ⟨G, o + e.length, none⟩ (.int .u8 (c'.toNat : Int))) ∧ 1 ≤ g := by
  have hT2 : Turned [D, G] w3 (w3.setCell ⟨G, o + e.length, none⟩ (.int .u8 (c'.toNat : Int))) := (Turned.refl _ _).setCell (.inl (by simp)) _
  obtain ⟨n1, n2, n3⟩ := h.ng hB
  have hfit := hB.fit
  have h8 : (by8 e).length = e.length := by8_length e
  refine h.next [c'] (h.rd_on hB hR hT2) (hT.trans (hT2.mono (fun x hx => by simp [dotBlocks] at hx ⊢; omega))) (hD.keep ((Turned.refl [G] _).setCell (.inl (by simp)) _) (by simpa using n2.symm) (by simpa using n3.symm)) ?_ (by simp; omega)
    (by rw [heq]; rfl) h5 ?_
  · have h1 := hG.set_ (o + e.length) (.int .u8 (c'.toNat : Int))
    have h2 : by8 (e ++ [c']) = by8 e ++ [.int .u8 (c'.toNat : Int)] := by unfold by8; rw [List.map_append]; rfl
    rw [h2, ← splice_snoc _ _ _ _ (by rw [h8]; omega), h8]
    simpa using h1
  · rcases hm with h1 | ⟨h1, rfl, h2⟩
    · split <;> split <;> omega
    · rw [if_pos h2, if_neg (by omega)]; omega
theorem DR.fin (h : DR k s w T D st0 op G o n cur g e st s1 wr) : DR k s w T D st0 op G o n cur (2 * k.d.length + 1) e st s1 wr :=
  ⟨h.rd, h.tu, h.dt, h.gb, h.len, h.eq, by split <;> omega, h.s5⟩
/-- r.dot is let go. -/
theorem DR.shut (h : DR k s w T D st0 op G o n cur g e st s1 wr) (hB : Bf w k G o n cur) : DR k s w T D st0 false G o n cur (2 * k.d.length + 1) e st s1 (wr.setCell ⟨T, 1, none⟩ (.pointer none)) := by
  have hT : Turned [T] wr (wr.setCell ⟨T, 1, none⟩ (.pointer none)) := (Turned.refl _ _).setCell (.inl (by simp)) _
  have h1 := h.dt.nt h.rd
  obtain ⟨n1, n2, n3⟩ := h.ng hB
  simp [RK.blocks] at h1
  refine ⟨h.rd.keepOff hT ?_ ?_ ?_ ?_, h.tu.trans (hT.mono (fun x hx => by simp [dotBlocks] at hx ⊢; omega)), h.dt.shut, h.gb.far (by simpa using n2) _, h.len, h.eq, by split <;> omega, h.s5⟩
  · simp; exact fun e => h1.1 e.symm
  · simp; exact fun e => h1.2.1 e.symm
  · simp; exact fun e => h1.2.2 e.symm
  · intro x hx
    simp at hx
    subst hx
    exact ⟨h.dt.kt, h.dt.ot⟩
/-- Another state of the reader, nothing taken. -/
theorem DR.still (h : DR k s w T D st0 op G o n cur g e st s1 wr) (hB : Bf w k G o n cur) (hR : Rd w2 k s2) (hT : Turned k.blocks wr w2) (hp : s2.pos = s1.pos) : DR k s w T D st0 op G o n cur g e st s2 w2 :=
  ⟨hR, h.tu.trans (hT.mono (fun x hx => by simp [dotBlocks] at hx ⊢; omega)), h.dt.keep hT (h.dt.nt h.rd) (h.dt.nd h.rd), hT.blk h.gb (h.ng hB).1, h.len, by rw [hp]; exact h.eq, by rw [hp]; exact h.le, h.s5⟩
theorem DR.room (h : DR k s w T D st0 op G o n cur g e st s1 wr) (hB : Bf w k G o n cur) (hn : e.length < n) : (∃ x, wr.cell? ⟨G, o + e.length, none⟩ = some x) ∧ wr.frozen? ⟨G, o + e.length, none⟩ = false := by
  have hfit := hB.fit
  have h8 : (by8 e).length = e.length := by8_length e
  have hl : (splice cur o (by8 e)).length = cur.length := length_splice _ _ _ (by omega)
  refine ⟨⟨(splice cur o (by8 e))[o + e.length]'(by omega), ?_⟩, h.gb.frozen _⟩
  rw [h.gb.cell, List.getElem?_toArray, List.getElem?_eq_getElem (by omega)]
theorem DR.drewN (h : DR k s w T D st0 op G o n cur g e st s1 wr) (q : Nat) : DR k s w T D st0 op G o n cur g e st s1 (wr.drewN q) := by
  have hT : Turned [] wr (wr.drewN q) := (Turned.refl _ _).drewN q
  exact ⟨h.rd.drewN q, h.tu.drewN q, h.dt.keep hT (by simp) (by simp), h.gb.drewN q, h.len, h.eq, h.le, h.s5⟩
end
end Go.Proofs.YthobojpbdeepoaaDoor
