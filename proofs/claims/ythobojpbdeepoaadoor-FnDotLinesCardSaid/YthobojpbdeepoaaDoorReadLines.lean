/-
  The contract of (*textproto.Reader).ReadDotLines.
-/
import Derived.Test.YthobojpbdeepoaaDoorLinesLaw
import Derived.Test.YthobojpbdeepoaaDoorDotPieces
import Derived.Test.YthobojpbdeepoaaDoorFnDropped
namespace Go.Proofs.YthobojpbdeepoaaDoor
open Go.RowKit

/-- What ReadDotLines leaves. -/
def RDLPost (k : RK) (s : RS) (w : World) (ue : Addr) (e : Ending) (w' : World) : Prop :=
  ∃ v er out s' ok, e = .returned (.tuple #[v, er]) ∧ Rd w' k s' ∧ Turned k.blocks w w' ∧ w'.ownsRow w.heap.size 9 1 v (out : List (List UInt8)).length (out.map sv) ∧
    DL (k.d.drop s.pos) out (k.d.drop s'.pos) ok ∧ ((ok = true ∧ er = .nilIface) ∨ (ok = false ∧ er = errAt ue))
/-- What a round keeps. -/
structure RLR (k : RK) (s : RS) (w : World) (acc : List (List UInt8)) (s1 : RS) (v : Value) (wr : World) : Prop where
  rd : Rd wr k s1
  tu : Turned k.blocks w wr
  own : wr.ownsRow w.heap.size 9 1 v acc.length (acc.map sv)
  eq : ∀ out r ok, DL (k.d.drop s1.pos) out r ok → DL (k.d.drop s.pos) (acc ++ out) r ok
  le : s.pos + acc.length ≤ s1.pos
section
variable {k : RK} {s s1 s2 : RS} {w wr w2 w3 wa : World} {acc : List (List UInt8)} {v v' : Value} {l : List UInt8} {ue : Addr}
theorem nx_of {j : Nat} (h : k.d[s1.pos + j]? = some 10) (hn : NoNl k.d s1.pos j) : Nx (k.d.drop s1.pos) (trimCR ((k.d.drop s1.pos).take j)) (k.d.drop (s1.pos + j + 1)) :=
  .inl ⟨j, by rw [List.getElem?_drop]; exact h, fun i hi => by rw [Nat.zero_add, List.getElem?_drop]; exact hn i hi, rfl, by rw [List.drop_drop, Nat.add_assoc]⟩
theorem nonl_drop (hn : NoNl k.d s1.pos (k.d.length - s1.pos)) : NoNl (k.d.drop s1.pos) 0 (k.d.drop s1.pos).length := fun i hi => by
  rw [List.length_drop] at hi
  rw [Nat.zero_add, List.getElem?_drop]; exact hn i hi
/-- The line that was read, and where the reader stands. -/
theorem tl_nx (h : (∃ j, k.d[s1.pos + j]? = some 10 ∧ NoNl k.d s1.pos j ∧ l = trimCR ((k.d.drop s1.pos).take j) ∧ s2.pos = s1.pos + j + 1) ∨ (l ≠ [] ∧ l = k.d.drop s1.pos ∧ NoNl k.d s1.pos (k.d.length - s1.pos) ∧ s2.pos = k.d.length)) :
    Nx (k.d.drop s1.pos) l (k.d.drop s2.pos) ∧ s1.pos + 1 ≤ s2.pos := by
  rcases h with ⟨j, h1, h2, rfl, h4⟩ | ⟨h1, h2, h3, h4⟩
  · rw [h4]
    exact ⟨nx_of h1 h2, by omega⟩
  · refine ⟨.inr ⟨h1, h2, nonl_drop h3, by rw [h4, List.drop_length]⟩, ?_⟩
    have h5 : 0 < (k.d.drop s1.pos).length := by
      rw [← h2]; exact List.length_pos_iff.2 h1
    rw [List.length_drop] at h5
    omega
theorem RLR.read (h : RLR k s w acc s1 v wr) (h0 : Rd w k s) (_ : Rd w2 k s2) (hT : Turned k.blocks wr w2) : Turned k.blocks w w2 ∧ w2.ownsRow w.heap.size 9 1 v acc.length (acc.map sv) := by
  refine ⟨h.tu.trans hT, own_keep h.own hT (fun x hx => ?_)⟩
  have b1 := h0.bb.lt
  have b2 := h0.cb.lt
  have b3 := h0.yb.lt
  simp [RK.blocks] at hx
  omega
theorem RLR.fin (h : RLR k s w acc s1 v wr) (h0 : Rd w k s) (hR : Rd w2 k s2) (hT : Turned k.blocks wr w2) (hn : NoNl k.d s1.pos (k.d.length - s1.pos)) (hp : s2.pos = k.d.length) : RDLPost k s w ue (.returned (.tuple #[v, errAt ue])) w2 := by
  obtain ⟨h1, h2⟩ := h.read h0 hR hT
  refine ⟨v, _, acc, s2, false, rfl, hR, h1, h2, ?_, .inr ⟨rfl, rfl⟩⟩
  have h3 := h.eq [] [] false (.eof (nonl_drop hn))
  rw [hp, List.drop_length]
  simpa using h3
theorem RLR.dot (h : RLR k s w acc s1 v wr) (h0 : Rd w k s) (hR : Rd w2 k s2) (hT : Turned k.blocks wr w2) (hx : Nx (k.d.drop s1.pos) [46] (k.d.drop s2.pos)) : RDLPost k s w ue (.returned (.tuple #[v, .nilIface])) w2 := by
  obtain ⟨h1, h2⟩ := h.read h0 hR hT
  refine ⟨v, _, acc, s2, true, rfl, hR, h1, h2, ?_, .inl ⟨rfl, rfl⟩⟩
  simpa using h.eq [] _ true (.dot hx)
theorem RLR.next (h : RLR k s w acc s1 v wr) (h0 : Rd w k s) (hR : Rd w2 k s2) (hT : Turned k.blocks wr w2) (hx : Nx (k.d.drop s1.pos) l (k.d.drop s2.pos)) (hne : l ≠ [46]) (hp : s1.pos + 1 ≤ s2.pos)
    (ha : Turned [] w2 wa) (hown : w3.ownsRow w.heap.size 9 1 v' (acc.length + 1) (acc.map sv ++ [sv (unstuff l)])) (hgrow : wa.grownBy w3 v.ownBlock) : RLR k s w (acc ++ [unstuff l]) s2 v' w3 := by
  obtain ⟨h1, h2⟩ := h.read h0 hR hT
  have hle := h.le
  have hb : ∀ x, x < w.heap.size → wa.heap[x]? = w2.heap[x]? := fun x hx => ha.block x (Nat.lt_of_lt_of_le hx h1.size) (by simp)
  have hRa : Rd wa k s2 := hR.keepNew ha
  have h3a : Turned k.blocks w wa := h1.trans (ha.mono (by simp))
  refine ⟨hRa.grown h0 hgrow.size (fun x hx => hgrow.block x (Nat.lt_of_lt_of_le hx h3a.size) (own_ne h2 x hx)), h3a.grown hgrow (fun x hx => ?_), ?_, fun out r ok hd => ?_, by rw [List.length_append, List.length_singleton]; omega⟩
  · right
    exact (h.own.lt x hx).1
  · rw [List.length_append, List.length_singleton, List.map_append]
    exact hown
  · have h5 := h.eq (unstuff l :: out) r ok (.line hx hne hd)
    simpa using h5
end

set_option maxRecDepth 100000 in
set_option maxHeartbeats 8000000 in
theorem readDotLines_any (k : RK) (s : RS) (w : World) (T : Nat) (fe ue : Addr) (h : Rd w k s) (hT : Tp w k T) (hd : k.d.length ≤ 1048576) (hE : Ends3 w k.K k.ae fe ue) :
    Calls Tryd.prog 64 #[.pointer (some ⟨T, 0, none⟩)] w (RDLPost k s w ue) := by
  obtain ⟨i0, hi, hz0, hz1, hz2⟩ := info_parts str_info
  have H0 := Lib.hid h
  have HT0 := Lib.hid hT
  have HD := Lib.hid hd
  have HE := Lib.hid (fun w' (ht : Turned k.blocks w w') => (⟨(hE.e2.eof.keep (h.below ht)), hE.e2.full.keep (h.below ht), hE.cut.keep (h.below ht)⟩ : Sent w' k.K 0 k.ae ∧ Sent w' k.K 6 fe ∧ Sent w' k.K 1 ue))
  have HNE := Lib.hid hE.e2.ne
  have HI : Hid (RLR k s w [] s (.slice none 0 0) w) := ⟨h, Turned.refl _ _, ⟨rfl, .inl ⟨rfl, rfl⟩⟩, fun out r ok hd => hd, Nat.le_refl _⟩
  clear h hT hd hE
  go_enter Tryd.func64, Tryd.ntmps64
  go_wp2_with fail
  go_loopg [4, 5] k.d.length (fun g v er wr => ∃ acc s1, RLR k s w acc s1 v wr ∧ er = .nilIface ∧ k.d.length - s1.pos ≤ g)
  case atStart => exact ⟨[], s, HI.out, rfl, Nat.sub_le _ _⟩
  case round =>
    obtain ⟨acc, s1, hr, rfl, hg⟩ := hrel
    obtain ⟨g1, g2, g3⟩ := HE.out wr hr.tu
    have TL := Lib.hid (tpLine_any k s1 wr fe T hr.rd g2 HNE.out (HT0.out.keep H0.out hr.tu))
    have HR := Lib.hid hr
    have HG := Lib.hid hg
    clear hr hg g1 g2 g3
    go_wp2_with fail
    go_at_call 63
    (with_reducible refine TL.out.mono ?_)
    rintro e w2 ⟨s2, hR2, hT2, hor⟩
    obtain ⟨hTw, hO2⟩ := HR.out.read H0.out hR2 hT2
    obtain ⟨g1, g2, g3⟩ := HE.out w2 hTw
    have c1 := g1.cell
    have c2 := g3.cell
    have q1 := err_same w2 k.ae
    rcases hor with ⟨rfl, _, hn, hp⟩ | ⟨l, rfl, hll, hor⟩
    · have HF := Lib.hid (HR.out.fin (ue := ue) H0.out hR2 hT2 hn hp)
      clear hR2 hT2 hTw hO2 g1 g2 g3 hn hp
      go_wp2_with fail
      go_ret2
      exact HF.out
    · obtain ⟨hx, hp⟩ := tl_nx hor
      clear c1 c2 q1 g1 g2 g3 hor
      have hac : acc.length ≤ 1048576 := by have h1 := HR.out.le; have h2 := HR.out.rd.pos_le; have h4 := HR.out.rd.il; have h3 := HD.out; omega
      have hp2 := hR2.pos_le
      have hil := hR2.il
      have HM : Hid (k.d.length - s2.pos ≤ gk - 1 ∧ 0 < gk) := by have := HG.out; exact ⟨by omega, by omega⟩
      have L2 : Hid (acc.length + 1 ≤ maxLen) := by show _ ≤ _; unfold maxLen; omega
      have L3 : Hid ((acc.length + 1) * 16 ≤ 140737488355328) := by show _ ≤ _; omega
      have HCO : Hid (∀ x, (w2.alloc (.cells #[x] 9)).ownsRow w.heap.size 9 1 u4 acc.length (acc.map sv)) := fun x => own_keepS hO2 ((Turned.refl [] w2).alloc _) (by simp)
      have HT : Hid (∀ x, Turned [] w2 (w2.alloc (.cells #[x] 9))) := fun x => (Turned.refl [] w2).alloc _
      have HSz : Hid (∀ x, w.heap.size ≤ (w2.alloc (.cells #[x] 9)).heap.size) := fun x => by have := hTw.size; show _ ≤ _; simp; omega
      have HDot : Hid (l = [46] → RDLPost k s w ue (.returned (.tuple #[u4, .nilIface])) w2) := fun e => HR.out.dot H0.out hR2 hT2 (by rw [← e]; exact hx)
      have HNx : Hid (l ≠ [46] → ∀ wa w3 v', Turned [] w2 wa → w3.ownsRow w.heap.size 9 1 v' (acc.length + 1) (acc.map sv ++ [sv (unstuff l)]) → wa.grownBy w3 u4.ownBlock → RLR k s w (acc ++ [unstuff l]) s2 v' w3) := fun hne wa w3 v' ha ho hg => HR.out.next H0.out hR2 hT2 hx hne hp ha ho hg
      obtain ⟨L, hL, hLl⟩ : ∃ L : ByteArray, L = ⟨l.toArray⟩ ∧ lst L = l := ⟨_, rfl, rfl⟩
      rw [← hL]
      have hsz := lst_length L
      rw [hLl] at hsz
      clear hx hp hR2 hT2 hTw hO2 hac hp2 hil hL
      cases l with
      | nil =>
        have b4 : ¬ 0 < L.size := by simp at hsz; omega
        have HN := Lib.hid (HNx.out (by decide))
        have e : sv (unstuff []) = .string L := by show Value.string _ = _; rw [← mk_lst L, hLl]; rfl
        clear HNx HDot hsz hLl
        go_wp2_with (at_builtin; refine wpList_append_own_at _ rfl (.tmp 31) (.tmp 33) 29 rfl w.heap.size 9 i0 (.string ⟨#[]⟩) 1 16 Tryd.underlying29 hi hz0 hz1 hz2 rfl (by decide) _ acc.length (acc.map sv) rfl (HCO.out _) ⟨w2.heap.size, 0, none⟩ 1 1 [.string L] rfl rfl (cell_one_new _ _ _) (by simp [Value.oneCell']) L2.out L3.out (HSz.out _) ?_; intro v' w3 hown hgrow hnil hat; refine Hid.out ?_)
        refine Lib.hid ?_
        have HF := Lib.hid (HN.out _ _ _ (HT.out _) (by rw [e]; exact hown) hgrow)
        clear hown hgrow hnil hat HN
        go_wp2_with fail
        go_roundg (gk - 1)
        case rel => exact ⟨_, s2, HF.out, rfl, HM.out.1⟩
        case measure => have := HM.out; omega
      | cons c cs =>
        have b4 : 0 < L.size := by simp at hsz; omega
        have hc0 : L[0] = c := by
          have h3 := lst_get L 0 b4
          rw [hLl] at h3
          exact (Option.some.inj h3).symm
        by_cases h46 : c = 46
        · have t2 : ((L[0].toNat : Int) == 46) = true := u8_is (c := 46) (hc0.trans h46)
          by_cases h1 : L.size = 1
          · have t3 : ((L.size : Int) == 1) = true := by rw [h1]; rfl
            have HF := Lib.hid (HDot.out (by
              rw [h46]
              have : cs = [] := List.eq_nil_of_length_eq_zero (by simp at hsz; omega)
              rw [this]))
            clear HNx HDot hsz hLl hc0 h46
            go_wp2_with fail
            go_ret2
            exact HF.out
          · have t3 : ((L.size : Int) == 1) = false := beq_eq_false_iff_ne.2 (by omega)
            have HN := Lib.hid (HNx.out (by rintro e; rw [e] at hsz; simp at hsz; omega))
            have b5 : (1 : Int) ≤ (L.size : Int) := by omega
            have e : sv (unstuff (c :: cs)) = .string (L.extract 1 L.size) := by
              show Value.string _ = _
              rw [← mk_lst (L.extract 1 L.size), lst_extract, List.take_of_length_le (by rw [List.length_drop, lst_length]; exact Nat.le_refl _), hLl]
              simp [unstuff, h46]
            clear HNx HDot hsz hLl hc0 h46 h1
            go_wp2_with (at_builtin; refine wpList_append_own_at _ rfl (.tmp 31) (.tmp 33) 29 rfl w.heap.size 9 i0 (.string ⟨#[]⟩) 1 16 Tryd.underlying29 hi hz0 hz1 hz2 rfl (by decide) _ acc.length (acc.map sv) rfl (HCO.out _) ⟨w2.heap.size, 0, none⟩ 1 1 [.string (L.extract 1 L.size)] rfl rfl (cell_one_new _ _ _) (by simp [Value.oneCell']) L2.out L3.out (HSz.out _) ?_; intro v' w3 hown hgrow hnil hat; refine Hid.out ?_)
            refine Lib.hid ?_
            have HF := Lib.hid (HN.out _ _ _ (HT.out _) (by rw [e]; exact hown) hgrow)
            clear hown hgrow hnil hat HN
            go_wp2_with fail
            go_roundg (gk - 1)
            case rel => exact ⟨_, s2, HF.out, rfl, HM.out.1⟩
            case measure => have := HM.out; omega
        · have t2 : ((L[0].toNat : Int) == 46) = false := u8_not (c := 46) (by rw [hc0]; exact h46)
          have HN := Lib.hid (HNx.out (by rintro e; exact h46 (List.cons.inj e).1))
          have e : sv (unstuff (c :: cs)) = .string L := by
            show Value.string _ = _
            rw [← mk_lst L, hLl]
            simp [unstuff, h46]
          clear HNx HDot hsz hLl hc0 h46
          go_wp2_with (at_builtin; refine wpList_append_own_at _ rfl (.tmp 31) (.tmp 33) 29 rfl w.heap.size 9 i0 (.string ⟨#[]⟩) 1 16 Tryd.underlying29 hi hz0 hz1 hz2 rfl (by decide) _ acc.length (acc.map sv) rfl (HCO.out _) ⟨w2.heap.size, 0, none⟩ 1 1 [.string L] rfl rfl (cell_one_new _ _ _) (by simp [Value.oneCell']) L2.out L3.out (HSz.out _) ?_; intro v' w3 hown hgrow hnil hat; refine Hid.out ?_)
          refine Lib.hid ?_
          have HF := Lib.hid (HN.out _ _ _ (HT.out _) (by rw [e]; exact hown) hgrow)
          clear hown hgrow hnil hat HN
          go_wp2_with fail
          go_roundg (gk - 1)
          case rel => exact ⟨_, s2, HF.out, rfl, HM.out.1⟩
          case measure => have := HM.out; omega
end Go.Proofs.YthobojpbdeepoaaDoor
