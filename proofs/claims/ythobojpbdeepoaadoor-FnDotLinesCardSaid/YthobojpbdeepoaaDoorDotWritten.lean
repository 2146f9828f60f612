/-
  The contract of impl.DotWritten.
-/
import Derived.Test.YthobojpbdeepoaaDoorParts
namespace Go.Proofs.YthobojpbdeepoaaDoor
open Go.RowKit

theorem dwr_ahead (a : Addr) (w : World) : (nilAhead 348 145 (.pointer (some a)) "Write").run Tryd.prog w = .ok (some false) w := by kernel_rfl
theorem dwr_method (a : Addr) (w : World) : (method 348 145 (.pointer (some a)) "Write").run Tryd.prog w = .ok (186, .pointer (some a)) w := by kernel_rfl
theorem dwc_method (a : Addr) (w : World) : (method 348 145 (.pointer (some a)) "Close").run Tryd.prog w = .ok (93, .pointer (some a)) w := by kernel_rfl

theorem Turned.up {S : List Nat} {w w1 w2 : World} (h : Turned [] w w1) (k : Turned S w1 w2) (hS : ∀ x, x ∈ S → w.heap.size ≤ x) : Turned [] w w2 :=
  ⟨k.os.trans h.os, k.tape.trans h.tape, k.output.trans h.output, Nat.le_trans h.size k.size, fun i hi _ => (k.block i (Nat.lt_of_lt_of_le hi h.size) (fun hm => by have := hS i hm; omega)).trans (h.block i hi (by simp))⟩

section
variable {w w0 w1 w2 : World} {K V W C T D st : Nat} {v : Value} {l x : List UInt8}
theorem Wl.high (h : Wl w K V W C v l) : ∀ y, y ∈ [V, W, C] ++ ownL v → K ≤ y := fun y hy => by
  obtain ⟨lb, lw, hw, _⟩ := h
  rcases List.mem_append.1 hy with hm | hm
  · have a1 := hw.vb.kv
    have a2 := hw.kw
    have a3 := hw.kc
    simp at hm
    omega
  · have h5 := mem_ownL hm
    exact (hw.vb.own.lt y h5).1
theorem Wl.low (h : Wl w K V W C v l) : ∀ y, y ∈ [V, W, C] ++ ownL v → y < w.heap.size := fun y hy => by
  obtain ⟨lb, lw, hw, _⟩ := h
  rcases List.mem_append.1 hy with hm | hm
  · obtain ⟨lr, hv⟩ := hw.vb.blk
    obtain ⟨cur, hc, _⟩ := hw.cb
    have a1 := hv.lt
    have a2 := hw.wb.lt
    have a3 := hc.lt
    simp at hm
    omega
  · have h5 := mem_ownL hm
    exact (hw.vb.own.lt y h5).2
theorem DW.off (h : DW w K V W C T D st v l) (hT : Turned [] w w1) : DW w1 K V W C T D st v l :=
  ⟨h.wl.off hT (by simp), ⟨h.dw.kt, h.dw.kd, hT.blk h.dw.tb (by simp), hT.blk h.dw.db (by simp)⟩⟩
/-- One part more. -/
theorem DW.part {q scap : Nat} {sa : Option Addr} (h : DW w K V W C T D st v l) (hT : Turned [] w0 w) (hK : w0.heap.size = K) (hst : st = 0 ∨ st = 1 ∨ st = 3) (hx : ∀ c, c ∈ x → c ≠ 13) (hTc : Turned [] (w.drewN q) w1)
    (hor : x = [] ∨ ∃ S so, sa = some ⟨S, so, none⟩ ∧ (w.drewN q).heap.size ≤ S ∧ S < w1.heap.size ∧ Row8 w1 S so x) (hl : l.length + 2 * x.length ≤ 1073741000) :
    Calls Tryd.prog 186 #[.pointer (some ⟨D, 0, none⟩), .slice sa x.length scap] w1 (fun e w2 => e = .returned (.tuple #[.int .i64 (x.length : Int), .nilIface]) ∧
      ∃ v2, Hid (DW w2 K V W C T D (encW x st).2 v2 (l ++ (encW x st).1) ∧ Turned [] w0 w2)) := by
  have hTw : Turned [] w w1 := ((Turned.refl [] w).drewN q).trans hTc
  have h1 := h.off hTw
  have hpost : ∀ (e : Ending) (w2 : World), (e = .returned (.tuple #[.int .i64 (x.length : Int), .nilIface]) ∧ ∃ v', DWStep w1 w2 K V W C T D v (encW x st).2 (l ++ (encW x st).1) v') → (e = .returned (.tuple #[.int .i64 (x.length : Int), .nilIface]) ∧
      ∃ v2, Hid (DW w2 K V W C T D (encW x st).2 v2 (l ++ (encW x st).1) ∧ Turned [] w0 w2)) := by
    rintro e w2 ⟨rfl, v', g⟩
    refine ⟨rfl, v', g.dw, (hT.trans hTw).up g.tu (fun y hy => ?_)⟩
    rw [hK]
    rcases List.mem_cons.1 hy with rfl | hy
    · exact h.dw.kd
    · exact h.wl.high y hy
  rcases hor with rfl | ⟨S, so, rfl, h2, h3, h4⟩
  · exact (dwWrite_any K V W C T D st v l [] sa 0 0 scap w1 h1 hst hx (fun h => by cases h) hl).mono hpost
  · refine (dwWrite_any K V W C T D st v l x _ S so scap w1 h1 hst hx (fun _ => ⟨rfl, ?_, h3, h4⟩) hl).mono hpost
    have h2' : w.heap.size ≤ S := h2
    intro hm
    rcases List.mem_cons.1 hm with rfl | hm
    · have := h.dw.db.lt
      omega
    · have := h.wl.low S hm
      omega
end

/-- The bytes that impl.DotWritten hands back, in a row of their own. -/
def WrittenPost (xs : List (List UInt8)) (w : World) (e : Ending) (w' : World) : Prop :=
  ∃ v, e = .returned v ∧ Turned [] w w' ∧ w'.ownsRow w.heap.size 5 1 v (enc xs.flatten).length (by8 (enc xs.flatten))

/-- What stands when m parts are written. -/
structure DTW (w : World) (V W C T D : Nat) (xs : List (List UInt8)) (m : Nat) (v : Value) (wr : World) : Prop where
  dw : DW wr w.heap.size V W C T D (encW (xs.take m).flatten 0).2 v (encW (xs.take m).flatten 0).1
  tu : Turned [] w wr
  le : m ≤ xs.length

theorem dt_start {w wa w2 w4 : World} {W C D : Nat} {cur : List Value} (xs : List (List UInt8)) (hwa : wa = w.alloc (.cells #[.slice none 0 0, .int .i64 0, .int .i8 0] 82))
    (hT : Turned [] wa w2) (hW : wa.heap.size ≤ W) (hC : wa.heap.size ≤ C) (hCb : Blk w2 C 5 cur.toArray) (hcl : cur.length = 4096)
    (hWb : Blk w2 W 151 #[.nilIface, .slice (some ⟨C, 0, none⟩) 4096 4096, .int .i64 0, .iface 85 (.pointer (some ⟨w.heap.size, 0, none⟩))])
    (hD : w2.heap.size ≤ D) (hT4 : Turned [w2.heap.size] (w2.alloc (.cells #[.pointer (some ⟨W, 0, none⟩), .pointer none] 147)) w4)
    (hTb : Blk w4 w2.heap.size 147 #[.pointer (some ⟨W, 0, none⟩), .pointer (some ⟨D, 0, none⟩)]) (hDb : Blk w4 D 149 #[.pointer (some ⟨w2.heap.size, 0, none⟩), .int .i64 0]) :
    DTW w w.heap.size W C w2.heap.size D xs 0 (.slice none 0 0) w4 := by
  have hsz : wa.heap.size = w.heap.size + 1 := by rw [hwa]; simp
  have hVa : Blk wa w.heap.size 82 #[.slice none 0 0, .int .i64 0, .int .i8 0] := by rw [hwa]; exact Blk.new w _ _
  have hV2 := hT.blk hVa (by simp)
  have l1 := hWb.lt
  have l2 := hCb.lt
  have l3 := hV2.lt
  have hTw : Turned [] w w2 := by
    have h1 : Turned [] w wa := by rw [hwa]; exact (Turned.refl [] w).alloc _
    exact h1.trans hT
  have s1 := hTw.size
  refine ⟨⟨⟨[], [], ⟨⟨Nat.le_refl _, ⟨0, ?_⟩, ⟨rfl, .inl ⟨rfl, rfl⟩⟩, .inl rfl⟩, ?_, ⟨cur, ?_, hcl, rfl⟩, Nat.zero_le _, by omega, by omega, by simp [Value.ownBlock]⟩, rfl⟩, ⟨by omega, by omega, hTb, hDb⟩⟩, (hTw.alloc _).up hT4 (fun x hx => by simp at hx; omega), Nat.zero_le _⟩
  · exact hT4.blk (hV2.alloc _) (by simp; omega)
  · exact hT4.blk (hWb.alloc _) (by simp; omega)
  · exact hT4.blk (hCb.alloc _) (by simp; omega)

theorem DTW.next {w w2 : World} {V W C T D m : Nat} {xs : List (List UInt8)} {v2 : Value} {x : List UInt8} (hx : xs[m]? = some x)
    (h : DW w2 w.heap.size V W C T D (encW x (encW (xs.take m).flatten 0).2).2 v2 ((encW (xs.take m).flatten 0).1 ++ (encW x (encW (xs.take m).flatten 0).2).1) ∧ Turned [] w w2) : DTW w V W C T D xs (m + 1) v2 w2 := by
  obtain ⟨hm, _⟩ := List.getElem?_eq_some_iff.1 hx
  refine ⟨?_, h.2, hm⟩
  rw [take_add_of hx, List.flatten_append, List.flatten_singleton, encW_append]
  exact h.1

set_option maxRecDepth 100000 in
set_option maxHeartbeats 8000000 in
theorem written_any (pa : Option Addr) (xs : List (List UInt8)) (cap : Nat) (w : World) (h : PartsAt w pa xs) (hn : xs.length ≤ 2147483647) (h13 : ∀ c, c ∈ xs.flatten → c ≠ 13) (hl : xs.flatten.length ≤ 65536) :
    Calls Tryd.prog 26 #[.slice pa xs.length cap] w (WrittenPost xs w) := by
  have HP := Lib.hid h
  have HN := Lib.hid hn
  have H13 := Lib.hid h13
  have HL := Lib.hid hl
  have NW := Lib.hid (nw_any w.heap.size (w.alloc (.cells #[.slice none 0 0, .int .i64 0, .int .i8 0] 82)))
  clear h hn h13 hl
  go_enter Tryd.func26, Tryd.ntmps26
  go_wp2_with (first | (go_at_call 53; (with_reducible refine NW.out.mono ?_); rintro e w2 ⟨W, C, cur, rfl, hT, hW, hC, hCb, hcl, hWb⟩))
  have TW := Lib.hid (tw_any W w2)
  have DO := Lib.hid (dwOpen_any w2.heap.size W _ (Blk.new w2 147 #[.pointer (some ⟨W, 0, none⟩), .pointer none]))
  have HS := Lib.hid (fun D w4 => dt_start (w4 := w4) (D := D) xs rfl hT hW hC hCb hcl hWb)
  have HSZ : Hid (w2.heap.size ≤ (w2.alloc (.cells #[.pointer (some ⟨W, 0, none⟩), .pointer none] 147)).heap.size) := by show _ ≤ _; simp
  clear hT hW hC hCb hcl hWb NW
  go_wp2_with (first | (go_at_call 54; (with_reducible refine TW.out.mono ?_); rintro e w3 ⟨rfl, rfl⟩) | (go_at_call 55; (with_reducible refine DO.out.mono ?_); rintro e w4 ⟨D, hD, rfl, hT4, hTb, hDb⟩))
  have H0 := Lib.hid (HS.out D w4 (Nat.le_trans HSZ.out hD) hT4 hTb hDb)
  obtain ⟨T, hTe⟩ : ∃ T, T = w2.heap.size := ⟨_, rfl⟩
  rw [← hTe] at H0
  clear hD hT4 hTb hDb HS HSZ TW DO hTe
  go_wp2_with fail
  go_loopg [15] xs.length (fun g i wr => ∃ m : Nat, ∃ v, i = .int .i64 (m : Int) ∧ DTW w w.heap.size W C T D xs m v wr ∧ xs.length - m ≤ g)
  case atStart => exact ⟨0, _, rfl, H0.out, Nat.le_refl _⟩
  case round =>
    obtain ⟨m, v, rfl, hr, hg⟩ := hrel
    have hm := hr.le
    by_cases hlt : m < xs.length
    · obtain ⟨x, hc⟩ : ∃ x, xs[m]? = some x := ⟨_, List.getElem?_eq_getElem hlt⟩
      obtain ⟨b, off, p, c, rfl, _, cc, hd⟩ := (HP.out.keep hr.tu) m x hc
      have d0 : (m : Int) < (xs.length : Int) := by omega
      have d1 : (0 : Int) ≤ (m : Int) := by omega
      have e1 : IntKind.i64.wrap ((m : Int) + 1) = (m : Int) + 1 := IntWalk.i64_in _ (by have := HN.out; omega)
      have HG : Hid (xs.length - (m + 1) ≤ gk - 1 ∧ 0 < gk) := ⟨by omega, by omega⟩
      have hxl : x.length ≤ xs.flatten.length := (List.sublist_flatten_of_mem (List.mem_of_getElem? hc)).length_le
      have htl : (xs.take m).flatten.length + x.length ≤ xs.flatten.length := by
        have h1 : (xs.take (m + 1)).flatten.length ≤ xs.flatten.length := by
          conv => rhs; rw [← List.take_append_drop (m + 1) xs, List.flatten_append, List.length_append]
          omega
        rw [take_add_of hc, List.flatten_append, List.flatten_singleton, List.length_append] at h1
        exact h1
      have CL := Lib.hid (clone_any p x c wr.drew (hd.drewN 1) (by have := HL.out; omega))
      have hst := encW_st (xs.take m).flatten 0 (.inl rfl) (fun y hy => H13.out y (by
        rw [← List.take_append_drop m xs, List.flatten_append]; exact List.mem_append_left _ hy))
      have hx13 : ∀ y, y ∈ x → y ≠ 13 := fun y hy => H13.out y (List.mem_flatten.2 ⟨x, List.mem_of_getElem? hc, hy⟩)
      have hll : (encW (xs.take m).flatten 0).1.length + 2 * x.length ≤ 1073741000 := by
        have h1 := encW_len (xs.take m).flatten 0
        have h2 := HL.out
        omega
      have PW := Lib.hid (fun q sa scap w1 h1 h2 => hr.dw.part (q := q) (sa := sa) (scap := scap) (w1 := w1) hr.tu rfl hst hx13 h1 h2 hll)
      have HX := Lib.hid (fun v2 w2 => DTW.next (w := w) (w2 := w2) (V := w.heap.size) (W := W) (C := C) (T := T) (D := D) (v2 := v2) (x := x) hc)
      have ma := dwr_ahead ⟨D, 0, none⟩
      have mm := dwr_method ⟨D, 0, none⟩
      clear hr hm hc hd hst hx13 hll hxl htl
      go_wp2_with fail
      go_region_held3 (fun w' => True) (trivial) (first | (go_at_call 56; (with_reducible refine CL.out.mono ?_); rintro e w1 ⟨sa, scap, rfl, hT1, hsc, hor⟩; have PW1 := Lib.hid (PW.out 1 sa scap w1 hT1 hor); clear hT1 hsc hor) | (go_at_call 186; (with_reducible refine PW1.out.mono ?_); rintro e w2 ⟨rfl, v2, hP⟩; have HP2 := Lib.hid (HX.out _ _ hP.out); clear hP))
      all_goals
        go_wp2_with fail
        go_roundg (gk - 1)
        case rel => exact ⟨m + 1, _, rfl, HP2.out, HG.out.1⟩
        case measure => have := HG.out; omega
    · have d0 : ¬ (m : Int) < (xs.length : Int) := by omega
      have hfull : xs.take m = xs := List.take_of_length_le (by omega)
      rw [show m = xs.length by omega] at d0 ⊢
      have hd := hr.dw
      have hT := hr.tu
      rw [hfull] at hd
      have hst := encW_st xs.flatten 0 (.inl rfl) H13.out
      have hel := encW_len xs.flatten 0
      have hends : (ends (encW xs.flatten 0).2).length ≤ 10 := by
        unfold ends
        split
        · decide
        · split <;> decide
      have hen : (encW xs.flatten 0).1 ++ ends (encW xs.flatten 0).2 = enc xs.flatten := rfl
      have hlen : (enc xs.flatten).length ≤ 1073740000 := by rw [← hen, List.length_append]; have := HL.out; omega
      have CO := Lib.hid (dwClose_any w.heap.size w.heap.size W C T D _ v _ wr hd hst (by have := HL.out; omega))
      have hhi : ∀ y, y ∈ [T, w.heap.size, W, C] ++ ownL v → w.heap.size ≤ y := fun y hy => by
        rcases List.mem_cons.1 hy with rfl | hy
        · exact hd.dw.kt
        · exact hd.wl.high y hy
      have HC : Hid (∀ e w2, FlushP wr w.heap.size w.heap.size W C T v ((encW xs.flatten 0).1 ++ ends (encW xs.flatten 0).2) e w2 → e = .returned .nilIface ∧ ∃ v2, Hid (Wr w2 w.heap.size w.heap.size W C v2 (enc xs.flatten) [] ∧ Turned [] w w2)) := by
        rintro e w2 ⟨rfl, v2, g1, g2, g3⟩
        exact ⟨rfl, v2, g1, hT.up g2 hhi⟩
      have HF : Hid (∀ v2 w2 e w3, Wr w2 w.heap.size w.heap.size W C v2 (enc xs.flatten) [] → Turned [] w w2 → FlushPost w.heap.size w.heap.size W C v2 (enc xs.flatten) [] w2 e w3 → e = .returned .nilIface ∧ ∃ v3, Hid (BufAt w3 w.heap.size w.heap.size v3 (enc xs.flatten) ∧ Turned [] w w3)) := by
        rintro v2 w2 e w3 h1 h2 ⟨rfl, v3, g1, g2, g3⟩
        rw [List.append_nil] at g1
        exact ⟨rfl, v3, g1.vb, h2.up g2 (fun y hy => Wl.high ⟨_, _, h1, rfl⟩ y hy)⟩
      have mm := dwc_method ⟨D, 0, none⟩
      clear hr hm hd hT hst hel hends hen hhi hfull
      have HLE := Lib.hid hlen
      clear hlen
      go_wp2_with (first | (go_at_call 93; (with_reducible refine CO.out.mono ?_); intro e w2 hP; obtain ⟨rfl, v2, h2⟩ := HC.out _ _ hP; clear hP))
      have FL := Lib.hid (flush_any w.heap.size w.heap.size W C v2 (enc xs.flatten) [] w2 h2.out.1 (by have := HLE.out; show _ + 0 ≤ _; omega))
      have HF2 := Lib.hid (HF.out v2 w2 · · h2.out.1 h2.out.2)
      go_wp2_with (first | (go_at_call 57; (with_reducible refine FL.out.mono ?_); intro e w3 hP; obtain ⟨rfl, v3, h3⟩ := HF2.out _ _ hP; clear hP))
      have BB := Lib.hid (bufBytes_any w.heap.size w.heap.size v3 (enc xs.flatten) w3 h3.out.1 (by have := HLE.out; omega))
      go_wp2_with (first | (go_at_call 58; (with_reducible refine BB.out.mono ?_); rintro e w4 ⟨rfl, q, rfl⟩))
      go_ret
      exact ⟨v3, rfl, h3.out.2.drewN q, own_keepS h3.out.1.own ((Turned.refl [] w3).drewN q) (by simp)⟩
end Go.Proofs.YthobojpbdeepoaaDoor
