/-
  The contract of (*textproto.dotWriter).Close.
-/
import Derived.Test.YthobojpbdeepoaaDoorDotWriter
namespace Go.Proofs.YthobojpbdeepoaaDoor
open Go.RowKit

/-- What steps of a writer leave, some textproto.Writer at T having turned too. -/
structure FStep (w w1 : World) (K V W C T : Nat) (v : Value) (l1 : List UInt8) (v1 : Value) : Prop where
  wl : Wl w1 K V W C v1 l1
  tu : Turned ([T, V, W, C] ++ ownL v) w w1
  own : OwnNew w v v1
section
variable {w w1 w2 : World} {K V W C T : Nat} {v v1 : Value} {l1 l2 : List UInt8} {r : Value} {e : Ending}
theorem FStep.then (h : FStep w w1 K V W C T v l1 v1) (h2 : WPost K V W C v1 l2 r w1 e w2) : e = .returned r ∧ ∃ v2, FStep w w2 K V W C T v l2 v2 := by
  obtain ⟨rfl, v2, g1, g2, g3⟩ := h2
  have h4 : Turned ([T, V, W, C] ++ ownL v1) w1 w2 := g2.mono (fun x hx => List.mem_cons_of_mem _ hx)
  exact ⟨rfl, v2, g1, h.tu.own h.own h4, h.own.trans h.tu.size g3⟩
theorem FStep.plain (h : FStep w w1 K V W C T v l1 v1) (hT : Turned [] w1 w2) : FStep w w2 K V W C T v l1 v1 :=
  ⟨h.wl.off hT (by simp), h.tu.trans (hT.mono (by simp)), h.own⟩
theorem FStep.byte (h : FStep w w1 K V W C T v l1 v1) (c : UInt8) (hl : l1.length ≤ 1073741824) : Calls Tryd.prog 112 #[.pointer (some ⟨W, 0, none⟩), .int .u8 (c.toNat : Int)] w1
    (fun e w2 => e = .returned .nilIface ∧ ∃ v2, Hid (FStep w w2 K V W C T v (l1 ++ [c]) v2)) :=
  (writeByte_any K V W C v1 l1 c w1 h.wl hl).mono (fun _ _ hP => by
    obtain ⟨h1, v2, h2⟩ := h.then hP
    exact ⟨h1, v2, h2⟩)
theorem FStep.byte13 (h : FStep w w1 K V W C T v l1 v1) (hl : l1.length ≤ 1073741824) : Calls Tryd.prog 112 #[.pointer (some ⟨W, 0, none⟩), .int .u8 13] w1
    (fun e w2 => e = .returned .nilIface ∧ ∃ v2, Hid (FStep w w2 K V W C T v (l1 ++ [13]) v2)) := h.byte 13 hl
theorem FStep.byte10 (h : FStep w w1 K V W C T v l1 v1) (hl : l1.length ≤ 1073741824) : Calls Tryd.prog 112 #[.pointer (some ⟨W, 0, none⟩), .int .u8 10] w1
    (fun e w2 => e = .returned .nilIface ∧ ∃ v2, Hid (FStep w w2 K V W C T v (l1 ++ [10]) v2)) := h.byte 10 hl
/-- What Flush leaves: the row is empty. -/
def FlushP (w : World) (K V W C T : Nat) (v : Value) (l1 : List UInt8) (e : Ending) (w2 : World) : Prop :=
  e = .returned .nilIface ∧ ∃ v2, Wr w2 K V W C v2 l1 [] ∧ Turned ([T, V, W, C] ++ ownL v) w w2 ∧ OwnNew w v v2
theorem FStep.flush (h : FStep w w1 K V W C T v l1 v1) (hl : l1.length ≤ 1073741824) : Calls Tryd.prog 57 #[.pointer (some ⟨W, 0, none⟩)] w1 (FlushP w K V W C T v l1) := by
  obtain ⟨lb, lw, hw, rfl⟩ := h.wl
  refine (flush_any K V W C v1 lb lw w1 hw (by rw [← List.length_append]; exact hl)).mono ?_
  rintro e w2 ⟨rfl, v2, g1, g2, g3⟩
  have h4 : Turned ([T, V, W, C] ++ ownL v1) w1 w2 := g2.mono (fun x hx => List.mem_cons_of_mem _ hx)
  exact ⟨rfl, v2, g1, h.tu.own h.own h4, h.own.trans h.tu.size g3⟩
/-- The three last bytes, out of a new row. -/
theorem FStep.dot {P : Nat} (h : FStep w w1 K V W C T v l1 v1) (hP : w1.heap.size = P) (hl : l1.length ≤ 1073741000) : Calls Tryd.prog 113 #[.pointer (some ⟨W, 0, none⟩), .slice (some ⟨P, 0, none⟩) 3 3] (w1.alloc (.cells #[.int .u8 46, .int .u8 13, .int .u8 10] 5))
    (fun e w2 => e = .returned (.tuple #[.int .i64 3, .nilIface]) ∧ ∃ v2, Hid (FStep w w2 K V W C T v (l1 ++ [46, 13, 10]) v2)) := by
  subst hP
  have h1 := h.plain ((Turned.refl [] w1).alloc (.cells #[.int .u8 46, .int .u8 13, .int .u8 10] 5))
  have hb := Blk.new w1 5 #[.int .u8 46, .int .u8 13, .int .u8 10]
  have hn : w1.heap.size ∉ [V, W, C] ++ ownL v1 := by
    obtain ⟨lb, lw, hw, _⟩ := h.wl
    obtain ⟨lr, hv⟩ := hw.vb.blk
    obtain ⟨cur, hc, _⟩ := hw.cb
    intro hm
    rcases List.mem_append.1 hm with hm | hm
    · have a1 := hv.lt
      have a2 := hw.wb.lt
      have a3 := hc.lt
      simp at hm
      omega
    · have h5 := mem_ownL hm
      rcases hw.vb.own.2 with ⟨rfl, _⟩ | ⟨g', cap, cu, rfl, _, hg, _⟩
      · cases h5
      · have : g' = w1.heap.size := by simpa [Value.ownBlock] using h5
        subst this
        have h6 : Blk w1 w1.heap.size 5 cu := hg
        have := h6.lt
        omega
  refine (writeRow_any K V W C v1 l1 [46, 13, 10] w1.heap.size 0 3 _ h1.wl ?_ hn hb.lt (by decide) (by decide) (Nat.le_refl _) (by decide) (by show l1.length + 3 ≤ _; omega)).mono ?_
  · intro j u hj
    rw [hb.cell]
    rcases j with _ | _ | _ | j
    · injection hj with hj; subst hj; rfl
    · injection hj with hj; subst hj; rfl
    · injection hj with hj; subst hj; rfl
    · cases hj
  · intro e w2 hP
    obtain ⟨g1, v2, g2⟩ := h1.then hP
    exact ⟨g1, v2, g2⟩
end

theorem dwot_same (w : World) (a : Addr) : (binOp .eql 145 (.pointer (some a)) (.pointer (some a))).run Tryd.prog w = .ok (.bool true) w := by
  have h2 : (Tryd.prog.info? 149).map (·.size) = some 2 := by kernel_rfl
  obtain ⟨j, hj, _⟩ := Option.map_eq_some_iff.1 h2
  exact run_eql_ptr_same w a Tryd.underlying145 hj

set_option maxRecDepth 100000 in
set_option maxHeartbeats 8000000 in
theorem dwClose_any (K V W C T D st : Nat) (v : Value) (l : List UInt8) (w : World) (h : DW w K V W C T D st v l) (hst : st = 0 ∨ st = 1 ∨ st = 3) (hl : l.length ≤ 1073740000) :
    Calls Tryd.prog 93 #[.pointer (some ⟨D, 0, none⟩)] w (FlushP w K V W C T v (l ++ ends st)) := by
  have HE : Hid (st ≠ 1 → FlushP w K V W C T v (l ++ [13] ++ [10] ++ [46, 13, 10]) = FlushP w K V W C T v (l ++ ends st)) := by
    intro h1
    rcases hst with rfl | rfl | rfl
    · simp [ends]
    · exact absurd rfl h1
    · simp [ends]
  have HE1 : Hid (st = 1 → FlushP w K V W C T v (l ++ [46, 13, 10]) = FlushP w K V W C T v (l ++ ends st)) := by
    rintro rfl
    simp [ends]
  obtain ⟨dT, dD, cD, fD⟩ := h.dw.cells
  have cT : w.cell? ⟨T, 1, none⟩ = some (.pointer (some ⟨D, 0, none⟩)) := by rw [h.dw.tb.cell]; rfl
  have fT := h.dw.tb.frozen 1
  have hne := h.dw.ne
  have hTv := h.wl.notIn h.dw.tb (by decide) (by decide) (by decide)
  have H1 : Hid (FStep w (w.setCell ⟨T, 1, none⟩ (.pointer none)) K V W C T v l v) := by
    have hT : Turned [T] w (w.setCell ⟨T, 1, none⟩ (.pointer none)) := (Turned.refl _ _).setCell (.inl (by simp)) _
    exact ⟨h.wl.off hT (fun x hx => by simp at hx; subst hx; exact hTv), hT.mono (by simp), OwnNew.refl _ _⟩
  have HL : Hid (l.length ≤ 1073740000) := hl
  have p1 := dwot_same w ⟨D, 0, none⟩
  clear h hTv hl
  rcases hst with rfl | rfl | rfl
  · go_enter Tryd.func93, Tryd.ntmps93
    have E1 := HE.out (by decide)
    have B13 := Lib.hid (H1.out.byte13 (by have := HL.out; omega))
    go_wp2_with (first | (go_at_call 112; (with_reducible refine B13.out.mono ?_); rintro e w2 ⟨rfl, v2, h2⟩))
    have B10 := Lib.hid (h2.out.byte10 (by have := HL.out; rw [List.length_append]; show l.length + 1 ≤ _; omega))
    go_wp2_with (first | (go_at_call 112; (with_reducible refine B10.out.mono ?_); rintro e w3 ⟨rfl, v3, h3⟩))
    have B1 := Lib.hid (h3.out.dot (P := w3.heap.size) rfl (by have := HL.out; rw [List.length_append, List.length_append]; show l.length + 1 + 1 ≤ _; omega))
    go_wp2_with (first | (go_at_call 113; (with_reducible refine B1.out.mono ?_); rintro e w4 ⟨rfl, v4, h4⟩))
    have F1 := Lib.hid (h4.out.flush (by have := HL.out; rw [List.length_append, List.length_append, List.length_append]; show l.length + 1 + 1 + 3 ≤ _; omega))
    go_wp2_with (first | (go_at_call 57; (with_reducible refine F1.out.mono ?_); intro e w5 hP; obtain ⟨rfl, hP⟩ := hP))
    go_ret
    rw [← E1]
    exact ⟨rfl, hP⟩
  · go_enter Tryd.func93, Tryd.ntmps93
    have E1 := HE1.out rfl
    have B1 := Lib.hid (H1.out.dot (P := w.heap.size) (by simp) (by have := HL.out; omega))
    go_wp2_with (first | (go_at_call 113; (with_reducible refine B1.out.mono ?_); rintro e w2 ⟨rfl, v2, h2⟩))
    have F1 := Lib.hid (h2.out.flush (by have := HL.out; rw [List.length_append]; show l.length + 3 ≤ _; omega))
    go_wp2_with (first | (go_at_call 57; (with_reducible refine F1.out.mono ?_); intro e w3 hP; obtain ⟨rfl, hP⟩ := hP))
    go_ret
    rw [← E1]
    exact ⟨rfl, hP⟩
  · go_enter Tryd.func93, Tryd.ntmps93
    have E1 := HE.out (by decide)
    have B13 := Lib.hid (H1.out.byte13 (by have := HL.out; omega))
    go_wp2_with (first | (go_at_call 112; (with_reducible refine B13.out.mono ?_); rintro e w2 ⟨rfl, v2, h2⟩))
    have B10 := Lib.hid (h2.out.byte10 (by have := HL.out; rw [List.length_append]; show l.length + 1 ≤ _; omega))
    go_wp2_with (first | (go_at_call 112; (with_reducible refine B10.out.mono ?_); rintro e w3 ⟨rfl, v3, h3⟩))
    have B1 := Lib.hid (h3.out.dot (P := w3.heap.size) rfl (by have := HL.out; rw [List.length_append, List.length_append]; show l.length + 1 + 1 ≤ _; omega))
    go_wp2_with (first | (go_at_call 113; (with_reducible refine B1.out.mono ?_); rintro e w4 ⟨rfl, v4, h4⟩))
    have F1 := Lib.hid (h4.out.flush (by have := HL.out; rw [List.length_append, List.length_append, List.length_append]; show l.length + 1 + 1 + 3 ≤ _; omega))
    go_wp2_with (first | (go_at_call 57; (with_reducible refine F1.out.mono ?_); intro e w5 hP; obtain ⟨rfl, hP⟩ := hP))
    go_ret
    rw [← E1]
    exact ⟨rfl, hP⟩
end Go.Proofs.YthobojpbdeepoaaDoor
