/-
  The contracts of textproto's closeDot with an open block, and of DotReader.
-/
import Derived.Test.YthobojpbdeepoaaDoorDotWalk
namespace Go.Proofs.YthobojpbdeepoaaDoor
open Go.RowKit

/-- A row that is owned, as a block of bytes. -/
theorem blk_of_own {w : World} {base n cap g : Nat} {xs : List Value} (h : w.ownsRow base 5 1 (.slice (some ⟨g, 0, none⟩) n cap) n xs) :
    ∃ cur : List Value, Blk w g 5 cur.toArray ∧ cur.length = cap ∧ n ≤ cap ∧ cap ≤ maxLen ∧ base ≤ g ∧ cur.take n = xs := by
  rcases h.2 with ⟨h0, _⟩ | ⟨g', cap', cur, hv, h1, h2, h3, h4, h5, h6⟩
  · cases h0
  · injection hv with e1 _ e3
    injection e1 with e1
    injection e1 with e1
    subst e1 e3
    exact ⟨cur.toList, by unfold Blk; simpa using h2, by rw [Array.length_toList, h5, Nat.mul_one], h3, h4, h1, by rw [Nat.mul_one] at h6; exact h6⟩
theorem own_of_blk {w : World} {base n cap g : Nat} {xs cur : List Value} (h : Blk w g 5 cur.toArray) (hl : cur.length = cap) (hn : n ≤ cap) (hc : cap ≤ maxLen) (hb : base ≤ g) (hx : cur.take n = xs) (hxl : xs.length = n) :
    w.ownsRow base 5 1 (.slice (some ⟨g, 0, none⟩) n cap) n xs :=
  ⟨by rw [hxl, Nat.mul_one], .inr ⟨g, cap, cur.toArray, rfl, hb, h, hn, hc, by simp [hl], by rw [Nat.mul_one]; exact hx⟩⟩

/-- A new row is one that Read may fill. -/
theorem bf_new {w w1 : World} {k : RK} {s : RS} {G n cap : Nat} {cur : List Value} (h : Rd w k s) (hg : w.heap.size ≤ G) (hb : Blk w1 G 5 cur.toArray) (hl : cur.length = cap) (o : Nat) (ho : o + n ≤ cap) : Bf w1 k G o n cur where
  blk := hb
  fit := by omega
  kg := by have := h.kb; have := h.bb.lt; omega
  nc := by have := h.cb.lt; omega
  og := h.offNew hg

/-- How a reader that was drained stands: behind the block's end, or at the end of all. -/
def After (k : RK) (p st : Nat) (p' : Nat) : Prop := (dec (k.d.drop p) st).2 = some (k.d.drop p') ∨ ((dec (k.d.drop p) st).2 = none ∧ p' = k.d.length)

/-- The blocks of a reader with a block open. -/
abbrev tdBlocks (k : RK) (T D : Nat) : List Nat := T :: D :: k.blocks
theorem Turned.noG {w w1 w2 : World} {k : RK} {T D G : Nat} (h : Turned (tdBlocks k T D) w w1) (hG : w.heap.size ≤ G) (h2 : Turned (dotBlocks k T D G) w1 w2) : Turned (tdBlocks k T D) w w2 :=
  ⟨h2.os.trans h.os, h2.tape.trans h.tape, h2.output.trans h.output, Nat.le_trans h.size h2.size, fun i hi hn => (h2.block i (Nat.lt_of_lt_of_le hi h.size) (fun hx => by
    simp [dotBlocks] at hx hn
    omega)).trans (h.block i hi hn)⟩

/-- What a round of closeDot's loop keeps. -/
structure CDR (k : RK) (p st : Nat) (w : World) (T D G g : Nat) (st1 : Nat) (s1 : RS) (op : Bool) (wr : World) : Prop where
  rd : Rd wr k s1
  tu : Turned (tdBlocks k T D) w wr
  dt : Dt wr k T D st1 op
  gb : ∃ cur : List Value, cur.length = 128 ∧ Blk wr G 5 cur.toArray
  eq : (dec (k.d.drop p) st).2 = (dec (k.d.drop s1.pos) st1).2
  s5 : st1 ≤ 5
  fin : op = false → After k p st s1.pos
  le : (dec (k.d.drop s1.pos) st1).1.length + (if op then 1 else 0) ≤ g

theorem CDR.next {k : RK} {s s1 : RS} {w wr w2 : World} {T D G g st st1 p : Nat} {ue : Addr} (_h0 : Rd w k s) (hG : w.heap.size ≤ G) (h : CDR k p st w T D G g st1 s1 true wr) {cur : List Value} (hl : cur.length = 128) {e : Ending} (h2 : DotPost k s1 wr T D st1 true G 0 128 cur ue e w2) :
    (∃ st2 s2 op2, CDR k p st w T D G (g - 1) st2 s2 op2 w2) ∧ 1 ≤ g ∧ ∃ v, e = .returned v := by
  obtain ⟨out, st2, s2, op2, er, rfl, hr, hor⟩ := h2
  have hle := h.le
  rw [if_pos rfl] at hle
  have h8 : (by8 out).length = out.length := by8_length out
  have hlen := hr.len
  have heq : (dec (k.d.drop s1.pos) st1).2 = (dec (k.d.drop s2.pos) st2).2 := by rw [hr.eq]
  have heq1 : (dec (k.d.drop s1.pos) st1).1.length = out.length + (dec (k.d.drop s2.pos) st2).1.length := by rw [hr.eq, List.length_append]
  refine ⟨⟨st2, s2, op2, hr.rd, h.tu.noG hG hr.tu, hr.dt, ⟨_, ?_, hr.gb⟩, h.eq.trans heq, hr.s5, ?_, ?_⟩, by omega, _, rfl⟩
  · rw [length_splice _ _ _ (by omega), hl]
  · intro ho
    rcases hor with ⟨_, _, _, h1⟩ | ⟨_, rfl, _⟩ | ⟨_, h1, h5, _⟩
    · rw [h1] at ho; cases ho
    · left; rw [h.eq, heq, dec5]
    · right
      refine ⟨?_, h1⟩
      rw [h.eq, heq, h1, List.drop_length, dec_nil, if_neg h5]
  · rcases hor with ⟨_, h1, _, rfl⟩ | ⟨_, _, rfl⟩ | ⟨_, _, _, rfl⟩
    · rw [if_pos rfl]; omega
    · simp; omega
    · simp; omega

/-- What closeDot leaves. -/
def ClosePost (k : RK) (s : RS) (w : World) (T D st : Nat) (e : Ending) (w' : World) : Prop :=
  e = .returned (.tuple #[]) ∧ ∃ s' st', Rd w' k s' ∧ Turned (tdBlocks k T D) w w' ∧ Dt w' k T D st' false ∧ After k s.pos st s'.pos

set_option maxRecDepth 100000 in
set_option maxHeartbeats 2000000 in
theorem closeDot_open (k : RK) (s : RS) (w : World) (T D st : Nat) (ue : Addr) (h : Rd w k s) (hD : Dt w k T D st true) (h5 : st ≤ 5) (hU : Sent w k.K 1 ue) :
    Calls Tryd.prog 82 #[.pointer (some ⟨T, 0, none⟩)] w (ClosePost k s w T D st) := by
  obtain ⟨cT0, cT1, cD0, cD1⟩ := hD.cells
  obtain ⟨i0, hi, hz0, hz1, hz2⟩ := info_parts u8_info
  go_enter Tryd.func82, Tryd.ntmps82
  go_wp2_with (at_make; refine wpList_make_full _ rfl (.const (.int .i64 128)) (.const (.int .i64 128)) 22 rfl 0 5 i0 (.int .u8 0) 1 Tryd.underlying22 hi hz0 hz1 .i64 .i64 128 128 128 rfl rfl rfl rfl (by rw [hz2]; decide) (by decide) (Nat.zero_le _) ?_; intro w2 hown hgrow; refine Hid.out ?_)
  refine Lib.hid ?_
  have hTw : Turned [] w w2 := (Turned.refl _ _).grown hgrow (fun x hx => by cases hx)
  obtain ⟨cur, hG, hl, _, _, _, _⟩ := blk_of_own hown
  have hD2 := hD.keep hTw (by simp) (by simp)
  have hR2 := h.keepNew hTw
  have hG0 := Lib.hid (Nat.le_refl w.heap.size)
  have h0 := Lib.hid h
  have hst0 : Hid (CDR k s.pos st w T D w.heap.size ((dec (k.d.drop s.pos) st).1.length + 1) st s true w2) :=
    ⟨hR2, hTw.mono (by simp), hD2, ⟨cur, hl, hG⟩, rfl, h5, (fun h => by cases h), Nat.le_refl _⟩
  have HU : Hid (∀ s1 op wr st1 g, CDR k s.pos st w T D w.heap.size g st1 s1 op wr → Sent wr k.K 1 ue) := fun s1 op wr st1 g hc =>
    hU.keep (hc.tu.below (by have := h.kb; have := h.bb.lt; omega) (fun x hx => by
      have h1 := h.kb
      have h2 := h.kc
      have h3 := h.ky
      have h4 := hD.kt
      have h5 := hD.kd
      simp [tdBlocks, RK.blocks] at hx
      omega))
  clear cT0 cT1 cD0 cD1 hown hgrow hTw hG hl hD2 hR2 h hD hU
  obtain ⟨cT0, cT1, cD0, cD1⟩ := hst0.out.dt.cells
  generalize hgw : w.heap.size = G0 at *
  have HGW := Lib.hid hgw
  clear hgw
  go_wp2_with fail
  clear cT0 cT1 cD0 cD1
  go_loopg [] ((dec (k.d.drop s.pos) st).1.length + 1) (fun g wr => ∃ st1 s1 op, CDR k s.pos st w T D G0 g st1 s1 op wr)
  case atStart => exact ⟨st, s, true, hst0.out⟩
  case round =>
    obtain ⟨st1, s1, op, hc⟩ := hrel
    obtain ⟨cT0, cT1, cD0, cD1⟩ := hc.dt.cells
    cases op
    · have HF : Hid (ClosePost k s w T D st (.returned (.tuple #[])) wr) := ⟨rfl, s1, st1, hc.rd, hc.tu, hc.dt, hc.fin rfl⟩
      clear hc
      go_wp2_with fail
      first | refine bodyPost_ret (results_none rfl _ _ _) rfl ?_ | refine bodyPost_end (results_none rfl _ _ _) rfl ?_
      exact HF.out
    · obtain ⟨cur1, hl1, hb1⟩ := hc.gb
      have RD := dotRead_any k s1 wr T D st1 true G0 0 128 128 cur1 ue hc.rd hc.dt (bf_new (cap := 128) h0.out (by rw [HGW.out]; exact Nat.le_refl _) hb1 hl1 0 (by decide)) hc.s5 (by decide) (HU.out _ _ _ _ _ hc)
      have HC := Lib.hid hc
      have HN := Lib.hid (fun e w2 => CDR.next (e := e) (w2 := w2) (ue := ue) h0.out (by rw [HGW.out]; exact Nat.le_refl _) hc hl1)
      clear hc hb1 hl1
      go_wp2_with fail
      go_at_call 94
      refine RD.mono ?_
      intro e w3 hP
      obtain ⟨hn, hm, v, rfl⟩ := HN.out _ _ hP
      clear hP RD
      go_wp2_with fail
      go_roundg (gk - 1)
      case rel => exact hn
      case measure => omega

/-- A reader whose block is shut is one without a block. -/
theorem Dt.tp {w : World} {k : RK} {T D st : Nat} (h : Dt w k T D st false) : Tp w k T := by
  obtain ⟨buf, hb⟩ := h.tb
  exact ⟨h.kt, h.ot, buf, by simpa using hb⟩

/-- What DotReader leaves: a block open, at its beginning. -/
def OpenPost (k : RK) (s : RS) (w : World) (T : Nat) (e : Ending) (w' : World) : Prop :=
  ∃ D, e = .returned (.iface 127 (.pointer (some ⟨D, 0, none⟩))) ∧ Turned [T] w w' ∧ Rd w' k s ∧ Dt w' k T D 0 true

theorem dotReader_any (k : RK) (s : RS) (w : World) (T : Nat) (h : Rd w k s) (hT : Tp w k T) :
    Calls Tryd.prog 59 #[.pointer (some ⟨T, 0, none⟩)] w (OpenPost k s w T) := by
  have CD := closeDot_nil k T w hT
  obtain ⟨buf, hb⟩ := hT.blk
  have hTB : T ∉ k.blocks := by
    simp [RK.blocks]
    exact ⟨hb.ne_ h.bb (by decide), hb.ne_ h.cb (by decide), hb.ne_ h.yb (by decide)⟩
  have hlt := hb.lt
  have hne : T ≠ w.heap.size := by omega
  have HF : Hid (OpenPost k s w T (.returned (.iface 127 (.pointer (some ⟨w.heap.size, 0, none⟩)))) ((w.setCell ⟨T, 1, none⟩ (.pointer (some ⟨w.heap.size, 0, none⟩))).alloc (.cells #[.pointer (some ⟨T, 0, none⟩), .int .i64 0] 153))) := by
    have hTu : Turned [T] w ((w.setCell ⟨T, 1, none⟩ (.pointer (some ⟨w.heap.size, 0, none⟩))).alloc (.cells #[.pointer (some ⟨T, 0, none⟩), .int .i64 0] 153)) := ((Turned.refl _ _).setCell (.inl (by simp)) _).alloc _
    have hz : (w.setCell ⟨T, 1, none⟩ (.pointer (some ⟨w.heap.size, 0, none⟩))).heap.size = w.heap.size := by simp [World.setCell]
    have hn := Blk.new (w.setCell ⟨T, 1, none⟩ (.pointer (some ⟨w.heap.size, 0, none⟩))) 153 #[.pointer (some ⟨T, 0, none⟩), .int .i64 0]
    rw [hz] at hn
    simp [RK.blocks] at hTB
    refine ⟨w.heap.size, rfl, hTu, h.keepOff hTu ?_ ?_ ?_ ?_, ⟨hT.kt, ?_, hT.off, h.offNew (Nat.le_refl _), ⟨buf, ?_⟩, ?_⟩⟩
    · simp; exact fun e => hTB.1 e.symm
    · simp; exact fun e => hTB.2.1 e.symm
    · simp; exact fun e => hTB.2.2 e.symm
    · intro x hx
      simp at hx
      subst hx
      exact ⟨hT.kt, hT.off⟩
    · have := h.kb; have := h.bb.lt; omega
    · have h2 := (hb.set_ 1 (.pointer (some ⟨w.heap.size, 0, none⟩))).alloc (.cells #[.pointer (some ⟨T, 0, none⟩), .int .i64 0] 153)
      simpa using h2
    · exact hn
  have f1 := hb.frozen 1
  have c1 : w.cell? ⟨T, 1, none⟩ = some (.pointer none) := by rw [hb.cell]; rfl
  clear h hT hb hTB
  go_enter Tryd.func59, Tryd.ntmps59
  go_wp2_with (go_at_call 82; (with_reducible refine CD.mono ?_); rintro e w1 ⟨rfl, rfl⟩)
  go_ret
  exact HF.out

theorem dot_ahead (a : Addr) (w : World) : (nilAhead 348 127 (.pointer (some a)) "Read").run Tryd.prog w = .ok (some false) w := by kernel_rfl
theorem dot_method (a : Addr) (w : World) : (method 348 127 (.pointer (some a)) "Read").run Tryd.prog w = .ok (94, .pointer (some a)) w := by kernel_rfl
end Go.Proofs.YthobojpbdeepoaaDoor
