/-
  The contracts of textproto's closeDot (no dot), readLineSlice without a limit.
-/
import Derived.Test.YthobojpbdeepoaaDoorBufLine
import Derived.Maps.AppendAt
import Derived.Deep.AppendLies
import Derived.Lib.SliceRun
namespace Go.Proofs.YthobojpbdeepoaaDoor
open Go.RowKit

/-- The bytes l lie at p, if there are any. -/
def RowP (w : World) (p : Option Addr) (l : List UInt8) : Prop := l = [] ∨ ∃ b off, p = some ⟨b, off, none⟩ ∧ Row8 w b off l

/-- .. they lie in the part of the buffer that was read, or in a new block; they may be written. -/
def RowL (k : RK) (w : World) (s' : RS) (w' : World) (p : Option Addr) (l : List UInt8) : Prop :=
  ∃ b off, p = some ⟨b, off, none⟩ ∧ Row8 w' b off l ∧ ((b = k.C ∧ off + l.length ≤ s'.r) ∨ (w.heap.size ≤ b ∧ b < w'.heap.size ∧ Free8 w' b off l.length))
theorem RowL.rowP {k : RK} {w w' : World} {s' : RS} {p : Option Addr} {l : List UInt8} (h : RowL k w s' w' p l) : RowP w' p l := by
  obtain ⟨b, off, h1, h2, _⟩ := h
  exact .inr ⟨b, off, h1, h2⟩

/-- A textproto.Reader without an open block, at T. -/
structure Tp (w : World) (k : RK) (T : Nat) : Prop where
  kt : k.K ≤ T
  off : Off k T
  blk : ∃ buf, Blk w T 129 #[.pointer (some ⟨k.B, 0, none⟩), .pointer none, buf]
theorem Tp.keep {w w' : World} {k : RK} {s : RS} {T : Nat} (h : Tp w k T) (hR : Rd w k s) (ht : Turned k.blocks w w') : Tp w' k T := by
  obtain ⟨buf, hb⟩ := h.blk
  refine ⟨h.kt, h.off, buf, ht.blk hb ?_⟩
  simp [RK.blocks]
  exact ⟨hb.ne_ hR.bb (by decide), hb.ne_ hR.cb (by decide), hb.ne_ hR.yb (by decide)⟩

/-- What readLineSlice leaves: a line, whole or the last; the end. -/
def RLPost (k : RK) (s : RS) (w : World) (e : Ending) (w' : World) : Prop :=
  ∃ s', Rd w' k s' ∧ Turned k.blocks w w' ∧
   ((e = .returned (.tuple #[.slice none 0 0, errAt k.ae]) ∧ (s.pos = k.d.length ∨ s.pos + 4095 ≤ k.d.length) ∧ NoNl k.d s.pos (k.d.length - s.pos) ∧ s'.pos = k.d.length) ∨
    (∃ p l cap, e = .returned (.tuple #[.slice p l.length cap, .nilIface]) ∧ RowL k w s' w' p l ∧ l.length ≤ cap ∧ cap ≤ 9223372036854775807 ∧ l.length ≤ k.d.length ∧
     ((∃ j, k.d[s.pos + j]? = some 10 ∧ NoNl k.d s.pos j ∧ l = trimCR ((k.d.drop s.pos).take j) ∧ s'.pos = s.pos + j + 1) ∨
      (l ≠ [] ∧ l = k.d.drop s.pos ∧ NoNl k.d s.pos (k.d.length - s.pos) ∧ s'.pos = k.d.length))))

/-- What has been gathered of a line. -/
structure Acc (k : RK) (s : RS) (w : World) (acc : List UInt8) (s1 : RS) (wr : World) : Prop where
  rd : Rd wr k s1
  turned : Turned k.blocks w wr
  eq : acc = (k.d.drop s.pos).take acc.length
  pos : s1.pos = s.pos + acc.length
  no : NoNl k.d s.pos acc.length
  cr : acc ≠ [] → k.d[s.pos + (acc.length - 1)]? = some 13 → k.d[s.pos + acc.length]? = some 13

theorem trimCR_append {a b : List UInt8} (hb : b ≠ []) : trimCR (a ++ b) = a ++ trimCR b := by
  have h1 : 0 < b.length := List.length_pos_iff.2 hb
  unfold trimCR
  rw [List.length_append, List.getElem?_append_right (by omega), show a.length + b.length - 1 - a.length = b.length - 1 from by omega]
  split
  · rw [show a.length + b.length - 1 = a.length + (b.length - 1) from by omega, List.take_length_add_append]
  · rfl
theorem take_more (d : List UInt8) (p a j : Nat) : (d.drop p).take (a + j) = (d.drop p).take a ++ (d.drop (p + a)).take j := by
  rw [List.take_add, List.drop_drop]

section
variable {k : RK} {s s1 : RS} {w wr : World} {acc : List UInt8}
theorem Acc.line (h : Acc k s w acc s1 wr) (j : Nat) (h10 : k.d[s1.pos + j]? = some 10) : acc ++ trimCR ((k.d.drop s1.pos).take j) = trimCR ((k.d.drop s.pos).take (acc.length + j)) := by
  rw [take_more, ← h.eq, ← h.pos]
  rcases Nat.eq_zero_or_pos j with h0 | h0
  · subst h0
    have e : trimCR ([] : List UInt8) = [] := by simp [trimCR]
    rw [List.take_zero, List.append_nil, e, List.append_nil]
    unfold trimCR
    split
    · rename_i h13
      exfalso
      have hne : acc ≠ [] := by rintro rfl; simp at h13
      have hl : 0 < acc.length := List.length_pos_iff.2 hne
      have h4 : ((k.d.drop s.pos).take acc.length)[acc.length - 1]? = some 13 := by rw [← h.eq]; exact h13
      rw [List.getElem?_take_of_lt (by omega), List.getElem?_drop] at h4
      have h2 := h.cr hne h4
      rw [Nat.add_zero, h.pos, h2] at h10
      exact absurd h10 (by decide)
    · rfl
  · rw [trimCR_append]
    intro hn
    have h2 := (List.getElem?_eq_some_iff.1 h10).1
    have h3 : ((k.d.drop s1.pos).take j).length = j := part_length (by omega)
    rw [hn] at h3
    simp at h3
    omega
theorem Acc.noNl (h : Acc k s w acc s1 wr) (j : Nat) (hno : NoNl k.d s1.pos j) : NoNl k.d s.pos (acc.length + j) :=
  noNl_more h.no (by rw [← h.pos]; exact hno)
theorem Acc.len (h : Acc k s w acc s1 wr) : acc.length ≤ k.d.length - s.pos := by
  have h1 := h.rd.pos_le
  have h2 := h.rd.il
  have h3 := h.pos
  omega
theorem Acc.rest (h : Acc k s w acc s1 wr) : acc ++ k.d.drop s1.pos = k.d.drop s.pos := by
  have h1 : k.d.drop s.pos = (k.d.drop s.pos).take acc.length ++ (k.d.drop s.pos).drop acc.length := (List.take_append_drop _ _).symm
  rw [h1, ← h.eq, List.drop_drop, h.pos]
theorem Acc.on {s2 : RS} {w2 : World} (h : Acc k s w acc s1 wr) (hR : Rd w2 k s2) (hT : Turned k.blocks w w2) (m : Nat) (hm : 1 ≤ m) (hle : s1.pos + m ≤ k.d.length) (hno : NoNl k.d s1.pos m) (hp : s2.pos = s1.pos + m)
    (hcr : k.d[s1.pos + (m - 1)]? = some 13 → k.d[s1.pos + m]? = some 13) : Acc k s w (acc ++ (k.d.drop s1.pos).take m) s2 w2 := by
  have hl : ((k.d.drop s1.pos).take m).length = m := part_length (by omega)
  have hp1 := h.pos
  refine ⟨hR, hT, ?_, ?_, ?_, fun _ => ?_⟩
  · rw [List.length_append, hl, take_more, ← h.eq, ← h.pos]
  · rw [List.length_append, hl, hp, h.pos, Nat.add_assoc]
  · rw [List.length_append, hl]
    exact h.noNl m hno
  · rw [List.length_append, hl]
    rw [hp1] at hcr
    rw [show s.pos + (acc.length + m - 1) = s.pos + acc.length + (m - 1) from by omega, ← Nat.add_assoc]
    exact hcr
end

/-- The state behind an append to a row that is new since w. -/
theorem Rd.grown {w wr w2 : World} {k : RK} {s s1 : RS} (h : Rd wr k s1) (h0 : Rd w k s) (ht : wr.heap.size ≤ w2.heap.size) (hb : ∀ x, x < w.heap.size → w2.heap[x]? = wr.heap[x]?) : Rd w2 k s1 where
  bb := (hb _ h0.bb.lt).trans h.bb
  cb := (hb _ h0.cb.lt).trans h.cb
  yb := (hb _ h0.yb.lt).trans h.yb
  src := by
    rcases h0.src with h1 | ⟨S', so, e, h1, h2, h3, h4, h5⟩
    · exact .inl h1
    · rcases h.src with h6 | ⟨S2, so2, e2, _, _, _, g4, g5⟩
      · exact .inl h6
      · rw [e] at e2
        injection e2 with e2
        injection e2 with e2 e3
        subst e2 e3
        exact .inr ⟨S', so, e, h1, h2, h3, Nat.lt_of_lt_of_le g4 ht, g5.of_block (hb _ h4)⟩
  kb := h.kb
  kc := h.kc
  ky := h.ky
  dl := h.dl
  dc := h.dc
  cl := h.cl
  rw := h.rw
  wl := h.wl
  il := h.il
  bl := h.bl
  buf := h.buf
  er := h.er
  eof := by
    obtain ⟨g1, g2, g3, cs, t, g4⟩ := h.eof
    have hk := h.kb
    have hB := h0.bb.lt
    exact ⟨g1, g2, (World.cell?_of_block (w := wr) (a := ⟨0, 0, none⟩) (hb _ (Nat.lt_of_lt_of_le g1 (by omega)))).trans g3, cs, t, (hb _ (by omega)).trans g4⟩

theorem closeDot_nil (k : RK) (T : Nat) (w : World) (h : Tp w k T) :
    Calls Tryd.prog 82 #[.pointer (some ⟨T, 0, none⟩)] w fun e w' => e = .returned (.tuple #[]) ∧ w = w' := by
  obtain ⟨buf, hb⟩ := h.blk
  have c1 : w.cell? ⟨T, 1, none⟩ = some (.pointer none) := by rw [hb.cell]; rfl
  go_enter Tryd.func82, Tryd.ntmps82
  go_wp2_with fail
  refine bodyPost_ret (results_none rfl _ _ _) rfl ?_
  exact ⟨rfl, rfl⟩

theorem u8_info : (Tryd.prog.info? 5).map (fun i => (i.zero, i.size, i.bytes)) = some (some (.int .u8 0), 1, 1) := by kernel_rfl

/-- What a round of readLineSlice's loop keeps. -/
def LineRel (k : RK) (s : RS) (w : World) (g : Nat) (v : Value) (wr : World) : Prop :=
  ∃ acc s1, Acc k s w acc s1 wr ∧ wr.ownsRow w.heap.size 5 1 v acc.length (by8 acc) ∧ ((acc = [] ∧ v = .slice none 0 0) ∨ 4095 ≤ acc.length) ∧ k.d.length - s1.pos ≤ g

theorem own_ne {w1 : World} {base n : Nat} {e : TypeId} {v : Value} {xs : List Value} (h : w1.ownsRow base e 1 v n xs) (x : Nat) (hx : x < base) : some x ≠ v.ownBlock := by
  rcases h.2 with ⟨rfl, _⟩ | ⟨g, cap, cur, rfl, hb, _⟩
  · exact fun h => by cases h
  · intro he
    have : x = g := by simpa [Value.ownBlock] using he
    omega
theorem own_keep {wr w1 : World} {S : List Nat} {base n : Nat} {e : TypeId} {v : Value} {xs : List Value} (h : wr.ownsRow base e 1 v n xs) (hT : Turned S wr w1) (hS : ∀ x, x ∈ S → x < base) : w1.ownsRow base e 1 v n xs := by
  refine ⟨h.1, ?_⟩
  rcases h.2 with h0 | ⟨g, cap, cur, hv, hb, hg, h1⟩
  · exact .inl h0
  · refine .inr ⟨g, cap, cur, hv, hb, (hT.block g ?_ (fun hx => by have := hS g hx; omega)).trans hg, h1⟩
    rcases Nat.lt_or_ge g wr.heap.size with hlt | hge
    · exact hlt
    · rw [Array.getElem?_eq_none hge] at hg; cases hg
theorem trimCR_length (l : List UInt8) : (trimCR l).length ≤ l.length := by
  unfold trimCR
  split
  · rw [List.length_take]; omega
  · exact Nat.le_refl _
theorem rowP_own {w : World} {base : Nat} {e : TypeId} {v : Value} {l : List UInt8} (h : w.ownsRow base e 1 v l.length (by8 l)) (hl : 0 < l.length) : ∃ p cap, v = .slice p l.length cap ∧ RowP w p l := by
  obtain ⟨g, cap, rfl, _, _⟩ := h.form hl
  refine ⟨_, _, rfl, .inr ⟨g, 0, rfl, fun j u hj => ?_⟩⟩
  have h1 := h.cells (g := g) rfl j _ (by8_get hj)
  unfold Addr.add at h1
  split at h1
  · subst_vars; simpa using h1
  · simpa using h1

theorem rowL_own {k : RK} {s' : RS} {w w0 : World} {v : Value} {l : List UInt8} {e : TypeId} (h : w.ownsRow w0.heap.size e 1 v l.length (by8 l)) (hl : 0 < l.length) : ∃ p cap, v = .slice p l.length cap ∧ RowL k w0 s' w p l ∧ l.length ≤ cap ∧ cap ≤ 9223372036854775807 := by
  have h0 := h
  rcases h.2 with ⟨_, h1⟩ | ⟨g, cap, cur, rfl, hb, hg, hc, hm, _⟩
  · omega
  · refine ⟨_, cap, rfl, ⟨g, 0, rfl, fun j u hj => ?_, .inr ⟨hb, ?_, fun j _ => ?_⟩⟩, hc, by unfold maxLen at hm; omega⟩
    · have h1 := h0.cells (g := g) rfl j _ (by8_get hj)
      unfold Addr.add at h1
      split at h1
      · subst_vars; simpa using h1
      · simpa using h1
    · rcases Nat.lt_or_ge g w.heap.size with hlt | hge
      · exact hlt
      · rw [Array.getElem?_eq_none hge] at hg; cases hg
    · simp [World.frozen?, hg]

section
variable {k : RK} {s s1 s2 : RS} {w wr w1 w2 : World} {acc l : List UInt8} {v v' : Value}
/-- What LinePost says of the line, by one name. -/
def LineHow (k : RK) (s1 s2 : RS) (l : List UInt8) (more : Bool) : Prop :=
  (more = false ∧ ∃ j, k.d[s1.pos + j]? = some 10 ∧ NoNl k.d s1.pos j ∧ l = trimCR ((k.d.drop s1.pos).take j) ∧ s2.pos = s1.pos + j + 1) ∨
  (more = false ∧ l ≠ [] ∧ l = k.d.drop s1.pos ∧ NoNl k.d s1.pos l.length ∧ s2.pos = k.d.length) ∨
  (more = true ∧ ∃ m, 4095 ≤ m ∧ m ≤ 4096 ∧ s1.pos + m ≤ k.d.length ∧ NoNl k.d s1.pos m ∧ l = (k.d.drop s1.pos).take m ∧ s2.pos = s1.pos + m ∧ (k.d[s1.pos + (m - 1)]? = some 13 → k.d[s1.pos + m]? = some 13))
theorem lineHow_len {b : Bool} (h : LineHow k s1 s2 l b) : l.length ≤ k.d.length - s1.pos := by
  rcases h with ⟨_, j, h1, _, rfl, _⟩ | ⟨_, _, rfl, _⟩ | ⟨_, m, _, _, _, _, rfl, _⟩
  · refine Nat.le_trans (trimCR_length _) ?_
    rw [List.length_take, List.length_drop]; omega
  · rw [List.length_drop]; exact Nat.le_refl _
  · rw [List.length_take, List.length_drop]; omega
theorem rl_eof (hA : Acc k s w acc s1 wr) (hd : s1.pos = k.d.length) (hz : acc = [] ∨ 4095 ≤ acc.length) (hR : Rd w1 k s2) (hT : Turned k.blocks wr w1) (hp : s2.pos = s1.pos) : RLPost k s w (.returned (.tuple #[.slice none 0 0, errAt k.ae])) w1 := by
  have h1 := hA.pos
  have h2 := hA.no
  refine ⟨s2, hR, hA.turned.trans hT, .inl ⟨rfl, ?_, ?_, hp.trans hd⟩⟩
  · rcases hz with rfl | hz
    · left; simp at h1; omega
    · right; omega
  · rwa [show k.d.length - s.pos = acc.length from by omega]
/-- The line is whole: gathered and last piece. -/
theorem rl_done (hA : Acc k s w acc s1 wr) (hl : LineHow k s1 s2 l false) (hR : Rd w2 k s2) (hT : Turned k.blocks w w2) {p : Option Addr} {cap : Nat} (hr : RowL k w s2 w2 p (acc ++ l)) (hcp : (acc ++ l).length ≤ cap) (hcm : cap ≤ 9223372036854775807) :
    RLPost k s w (.returned (.tuple #[.slice p (acc ++ l).length cap, .nilIface])) w2 := by
  have h1 := lineHow_len hl
  have h2 := hA.len
  have h3 := hA.pos
  have h4 := hA.rd.pos_le
  have h5 := hA.rd.il
  refine ⟨s2, hR, hT, .inr ⟨p, acc ++ l, cap, rfl, hr, hcp, hcm, by rw [List.length_append]; omega, ?_⟩⟩
  rcases hl with ⟨_, j, h6, h7, rfl, h9⟩ | ⟨_, h6, h7, h8, h9⟩ | ⟨h6, _⟩
  · exact .inl ⟨acc.length + j, by rw [← Nat.add_assoc, ← h3]; exact h6, hA.noNl j h7, hA.line j h6, by omega⟩
  · refine .inr ⟨by simp [h6], by rw [h7, hA.rest], ?_, h9⟩
    have h10 := hA.noNl _ h8
    have h11 : l.length = k.d.length - s1.pos := by rw [h7, List.length_drop]
    rwa [show acc.length + l.length = k.d.length - s.pos from by omega] at h10
  · cases h6
/-- Behind the append: the state, the world. -/
theorem rl_grown {e : TypeId} {n : Nat} {xs : List Value} (h : Rd w k s) (hA : Acc k s w acc s1 wr) (hR : Rd w1 k s2) (hT : Turned k.blocks wr w1) (hO : w1.ownsRow w.heap.size e 1 v n xs) (hg : w1.grownBy w2 v.ownBlock) : Rd w2 k s2 ∧ Turned k.blocks w w2 := by
  have hT1 := hA.turned.trans hT
  refine ⟨hR.grown h hg.size (fun x hx => hg.block x (Nat.lt_of_lt_of_le hx hT1.size) (own_ne hO x hx)), hT1.grown hg (fun x hx => ?_)⟩
  right
  rcases Nat.lt_or_ge x w.heap.size with h1 | h1
  · exact absurd hx.symm (own_ne hO x h1)
  · exact h1
theorem rl_more (hA : Acc k s w acc s1 wr) (hl : LineHow k s1 s2 l true) (hR : Rd w2 k s2) (hT : Turned k.blocks w w2) (hO : w2.ownsRow w.heap.size 5 1 v' (acc.length + l.length) (by8 acc ++ by8 l)) (g : Nat) (hg : k.d.length - s1.pos ≤ g) :
    LineRel k s w (g - 1) v' w2 ∧ 1 ≤ g := by
  rcases hl with ⟨h6, _⟩ | ⟨h6, _⟩ | ⟨_, m, h1, h2, h3, h4, rfl, h5, h6⟩
  · cases h6
  · cases h6
  · have hlen : ((k.d.drop s1.pos).take m).length = m := part_length (by omega)
    refine ⟨⟨acc ++ (k.d.drop s1.pos).take m, s2, hA.on hR hT m (by omega) h3 h4 h5 h6, ?_, .inr (by rw [List.length_append, hlen]; omega), by omega⟩, by omega⟩
    rw [List.length_append]
    unfold by8 at hO ⊢
    rwa [List.map_append]
end

set_option maxRecDepth 100000 in
set_option maxHeartbeats 4000000 in
theorem readLineSlice_gen (k : RK) (w : World) (fe : Addr) (T : Nat) (lim : Int) (hlim : lim = -1 ∨ (8589934592 ≤ lim ∧ lim ≤ 9223372036854775807)) (Q : World → RS → Prop) (hfe : k.ae ≠ fe)
    (CD : Calls Tryd.prog 82 #[.pointer (some ⟨T, 0, none⟩)] w fun e w1 => e = .returned (.tuple #[]) ∧ ∃ s, Hid (Q w1 s) ∧ Rd w1 k s ∧ Tp w1 k T ∧ Sent w1 k.K 6 fe) :
    Calls Tryd.prog 84 #[.pointer (some ⟨T, 0, none⟩), .int .i64 lim] w fun e w' => ∃ w1 s, Q w1 s ∧ Rd w1 k s ∧ Tp w1 k T ∧ RLPost k s w1 e w' := by
  go_enter Tryd.func84, Tryd.ntmps84
  go_wp2_with fail
  go_at_call 82
  refine CD.mono ?_
  rintro e w ⟨rfl, s, hQ, h, hT, hF⟩
  have HRT : Hid (Rd w k s ∧ Tp w k T) := ⟨h, hT⟩
  clear CD
  go_wp2_with fail
  go_loopg [6] (k.d.length - s.pos) (fun g v wr => LineRel k s w g v wr)
  case atStart => exact ⟨[], s, ⟨h, Turned.refl _ _, by simp, by simp, fun j hj => absurd hj (Nat.not_lt_zero j), fun h => absurd rfl h⟩, ⟨rfl, .inl ⟨rfl, rfl⟩⟩, .inl ⟨rfl, rfl⟩, Nat.le_refl _⟩
  case round =>
    obtain ⟨acc, s1, hA, hO, hz, hg⟩ := hrel
    have hTr := hT.keep h hA.turned
    obtain ⟨buf, hTb⟩ := hTr.blk
    have cT : wr.cell? ⟨T, 0, none⟩ = some (.pointer (some ⟨k.B, 0, none⟩)) := by rw [hTb.cell]; rfl
    have BL := bufLine_any k s1 wr fe hA.rd (hF.keep (h.below hA.turned)) hfe
    go_wp2_with fail
    go_at_call 95
    refine BL.mono ?_
    rintro e w1 ⟨s2, hR2, hT2, hor⟩
    rcases hor with ⟨rfl, hd, hp⟩ | ⟨off, l, cap, more, rfl, hcap, hcm, hrow, hfit, hor⟩
    · have HF := Lib.hid (rl_eof hA hd (hz.imp (fun h => h.1) id) hR2 hT2 hp)
      clear hA hO hz hTr hTb BL hR2 hT2 h hF hT
      go_wp2_with fail
      go_ret2
      exact ⟨w, s, hQ.out, HRT.out.1, HRT.out.2, HF.out⟩
    · have hH : LineHow k s1 s2 l more := hor
      have hO1 := own_keep hO hT2 (by
        have b1 := h.bb.lt
        have b2 := h.cb.lt
        have b3 := h.yb.lt
        intro x hx
        simp [RK.blocks] at hx
        omega)
      have hsz : w.heap.size ≤ w1.heap.size := (hA.turned.trans hT2).size
      have hlen := lineHow_len hH
      have hal := hA.len
      have hap := hA.pos
      have hdl := h.dl
      obtain ⟨i0, hi, hz0, hz1, hz2⟩ := info_parts u8_info
      have hnews : ∀ j u, (by8 l)[j]? = some u → w1.cell? ((⟨k.C, off, none⟩ : Addr).add j) = some u := by
        intro j u hj
        unfold by8 at hj
        rw [List.getElem?_map] at hj
        obtain ⟨x, hx, rfl⟩ := Option.map_eq_some_iff.1 hj
        have h3 := hrow j x hx
        unfold Addr.add
        split
        · subst_vars; simpa using h3
        · exact h3
      have L1 : Hid ((by8 l).length = l.length * 1) := by show _ = _; rw [by8_length, Nat.mul_one]
      have L2 : Hid (acc.length + l.length ≤ maxLen) := by show _ ≤ _; unfold maxLen; clear hor hH; omega
      have L3 : Hid ((acc.length + l.length) * 1 ≤ 140737488355328) := by show _ ≤ _; clear hor hH; omega
      have HN := Lib.hid hnews
      have H1 := Lib.hid (by8_one l)
      have HS := Lib.hid hsz
      have HO1 := Lib.hid hO1
      clear BL hTr hTb
      have Q1 := fun (W : World) a n c => Lib.run_eql_slice_nil (P := Tryd.prog) W 22 5 a n c 0 0 Tryd.underlying22
      have t1 : ¬ 8589934592 < (acc.length : Int) + (l.length : Int) := by clear hor hH; omega
      have t2 : (acc.length : Int) + (l.length : Int) ≤ 8589934592 := by clear hor hH; omega
      have t3 : (l.length : Int) ≤ 8589934592 := by clear hor hH; omega
      rcases hlim with rfl | ⟨hlo, hhi⟩
      all_goals
        cases more
        · rcases hz with ⟨rfl, rfl⟩ | hz
          · have HF := Lib.hid (rl_done (p := some ⟨k.C, off, none⟩) (cap := cap) hA hH hR2 (hA.turned.trans hT2) ⟨_, _, rfl, hrow, .inl ⟨rfl, hfit⟩⟩ hcap (Nat.le_trans hcm (by decide)))
            clear hA hO hO1 HO1 hH hR2 hT2 h hF hT hrow hnews hsz hlen hal hap
            go_wp2_with fail
            go_ret2
            exact ⟨w, s, hQ.out, HRT.out.1, HRT.out.2, HF.out⟩
          · have HD : Hid (∀ v' w2, w2.ownsRow w.heap.size 5 1 v' (acc.length + l.length) (by8 acc ++ by8 l) → w1.grownBy w2 u6.ownBlock → RLPost k s w (.returned (.tuple #[v', .nilIface])) w2) := by
              intro v' w2 ho hg
              obtain ⟨g1, g2⟩ := rl_grown h hA hR2 hT2 hO1 hg
              have e1 : by8 acc ++ by8 l = by8 (acc ++ l) := by unfold by8; rw [List.map_append]
              rw [e1, ← List.length_append] at ho
              obtain ⟨p, cap', rfl, hp, hcp, hcm2⟩ := rowL_own ho (by rw [List.length_append]; omega)
              exact rl_done hA hH g1 g2 hp hcp hcm2
            obtain ⟨g, cap', rfl, hge, hlt⟩ := hO.form (by clear hor hH; omega)
            clear hA hO hO1 hH hR2 hT2 h hF hT hrow hnews hsz hlen hal hap
            go_wp2_with (at_builtin; refine wpList_append_own_at _ rfl (.tmp 43) (.tmp 44) 22 rfl w.heap.size 5 i0 (.int .u8 0) 1 1 Tryd.underlying22 hi hz0 hz1 hz2 rfl (by decide) _ _ _ rfl HO1.out ⟨k.C, off, none⟩ l.length cap (by8 l) rfl L1.out HN.out H1.out L2.out L3.out HS.out ?_; intro v' w2 hown hgrow hnil hat)
            go_ret2
            exact ⟨w, s, hQ.out, HRT.out.1, HRT.out.2, HD.out _ _ hown hgrow⟩
        · have HD : Hid (∀ v' w2, w2.ownsRow w.heap.size 5 1 v' (acc.length + l.length) (by8 acc ++ by8 l) → w1.grownBy w2 u6.ownBlock → LineRel k s w (gk - 1) v' w2 ∧ 1 ≤ gk) := by
            intro v' w2 ho hg2
            obtain ⟨g1, g2⟩ := rl_grown h hA hR2 hT2 hO1 hg2
            exact rl_more hA hH g1 g2 ho gk hg
          rcases hz with ⟨rfl, rfl⟩ | hz
          · clear hA hO hO1 hH hR2 hT2 h hF hT hrow hnews hsz hlen hal hap
            go_wp2_with (at_builtin; refine wpList_append_own_at _ rfl (.tmp 43) (.tmp 44) 22 rfl w.heap.size 5 i0 (.int .u8 0) 1 1 Tryd.underlying22 hi hz0 hz1 hz2 rfl (by decide) _ _ _ rfl HO1.out ⟨k.C, off, none⟩ l.length cap (by8 l) rfl L1.out HN.out H1.out L2.out L3.out HS.out ?_; intro v' w2 hown hgrow hnil hat)
            have HR := Lib.hid (HD.out _ _ hown hgrow)
            go_roundg (gk - 1)
            case rel => exact HR.out.1
            case measure => have := HR.out.2; omega
          · obtain ⟨g, cap', rfl, hge, hlt⟩ := hO.form (by clear hor hH; omega)
            clear hA hO hO1 hH hR2 hT2 h hF hT hrow hnews hsz hlen hal hap
            go_wp2_with (at_builtin; refine wpList_append_own_at _ rfl (.tmp 43) (.tmp 44) 22 rfl w.heap.size 5 i0 (.int .u8 0) 1 1 Tryd.underlying22 hi hz0 hz1 hz2 rfl (by decide) _ _ _ rfl HO1.out ⟨k.C, off, none⟩ l.length cap (by8 l) rfl L1.out HN.out H1.out L2.out L3.out HS.out ?_; intro v' w2 hown hgrow hnil hat)
            have HR := Lib.hid (HD.out _ _ hown hgrow)
            go_roundg (gk - 1)
            case rel => exact HR.out.1
            case measure => have := HR.out.2; omega

theorem readLineSlice_any (k : RK) (s : RS) (w : World) (fe : Addr) (T : Nat) (h : Rd w k s) (hF : Sent w k.K 6 fe) (hfe : k.ae ≠ fe) (hT : Tp w k T) (lim : Int) (hlim : lim = -1 ∨ (8589934592 ≤ lim ∧ lim ≤ 9223372036854775807)) :
    Calls Tryd.prog 84 #[.pointer (some ⟨T, 0, none⟩), .int .i64 lim] w (RLPost k s w) :=
  (readLineSlice_gen k w fe T lim hlim (fun w1 s1 => w1 = w ∧ s1 = s) hfe ((closeDot_nil k T w hT).mono fun e w1 ⟨he, hw⟩ => ⟨he, s, ⟨hw.symm, rfl⟩, hw ▸ h, hw ▸ hT, hw ▸ hF⟩)).mono fun e w' ⟨w1, s1, ⟨hw, hs⟩, _, _, hP⟩ => by rw [hw, hs] at hP; exact hP
end Go.Proofs.YthobojpbdeepoaaDoor
