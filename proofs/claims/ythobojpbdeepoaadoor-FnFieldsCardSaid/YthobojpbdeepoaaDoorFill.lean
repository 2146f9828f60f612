/-
  The contract of (*bufio.Reader).fill.
-/
import Derived.Test.YthobojpbdeepoaaDoorState
import Derived.Deep.RegionHeld3
import Derived.Deep.DeepCutAuto
namespace Go.Proofs.YthobojpbdeepoaaDoor
open Go.RowKit

theorem method_read (a : Addr) (w : World) : (method 348 121 (.pointer (some a)) "Read").run Tryd.prog w = .ok (181, .pointer (some a)) w := by kernel_rfl

theorem cellsOf {w : World} {B C Y : Nat} {r wp lb lr : Int} {er : Value}
    (h : Blk w B 163 #[.slice (some ⟨C, 0, none⟩) 4096 4096, .iface 121 (.pointer (some ⟨Y, 0, none⟩)), .int .i64 r, .int .i64 wp, er, .int .i64 lb, .int .i64 lr]) :
    w.cell? ⟨B, 0, none⟩ = some (.slice (some ⟨C, 0, none⟩) 4096 4096) ∧ w.cell? ⟨B, 1, none⟩ = some (.iface 121 (.pointer (some ⟨Y, 0, none⟩))) ∧ w.cell? ⟨B, 2, none⟩ = some (.int .i64 r) ∧
    w.cell? ⟨B, 3, none⟩ = some (.int .i64 wp) ∧ w.cell? ⟨B, 4, none⟩ = some er ∧ w.cell? ⟨B, 5, none⟩ = some (.int .i64 lb) ∧ w.cell? ⟨B, 6, none⟩ = some (.int .i64 lr) := by
  refine ⟨?_, ?_, ?_, ?_, ?_, ?_, ?_⟩ <;> (rw [h.cell]; rfl)

/-- B's cells, the pending error nil. -/
abbrev bCells (k : RK) (r wp lb lr : Int) (er : Value) : Array Value :=
  #[.slice (some ⟨k.C, 0, none⟩) 4096 4096, .iface 121 (.pointer (some ⟨k.Y, 0, none⟩)), .int .i64 r, .int .i64 wp, er, .int .i64 lb, .int .i64 lr]

theorem read_q (k : RK) (s : RS) (w : World) (h : Rd w k s) (hr : s.r = 0) (he : s.er = .nilIface) (S so : Nat) (hsa : k.sa = some ⟨S, so, none⟩) (hS : Row8 w S so k.d) (hSY : S ≠ k.Y) (hi : s.i < k.d.length) (m : Nat) (hm : m = min (k.d.length - s.i) (4096 - s.wp)) (q : Nat) :
    Calls Tryd.prog 181 #[.pointer (some ⟨k.Y, 0, none⟩), .slice (some ⟨k.C, s.wp, none⟩) (4096 - s.wp) (4096 - s.wp)] (w.drewN q) fun e w1 =>
      e = .returned (.tuple #[.int .i64 (m : Int), .nilIface]) ∧ Turned [k.Y, k.C] (w.drewN q) w1 ∧ Blk w1 k.B 163 (bCells k 0 s.wp s.lb s.lr .nilIface) ∧
      Blk w1 k.Y 161 #[.slice (some ⟨S, so, none⟩) k.d.length k.scap, .int .i64 ((s.i + m : Nat) : Int), .int .i64 (-1)] ∧ Blk w1 k.C 5 (splice s.cur s.wp (by8 ((k.d.drop s.i).take m))).toArray := by
  have hYB := h.yb
  unfold srcCells at hYB
  rw [hsa] at hYB
  have hb := h.bb
  unfold bufCells at hb
  rw [hr, he] at hb
  have hwl := h.wl
  have hdl := h.dl
  refine (read_some k.Y k.C s.wp (4096 - s.wp) (4096 - s.wp) S so k.d k.scap s.i s.pr s.cur (w.drewN q) (hYB.drewN q) (h.cb.drewN q) (by rw [h.cl]; omega) (hS.of_block rfl) (fun e => h.cy_ne e.symm) hSY hi h.dc (by omega) (by omega) m hm).mono ?_
  rintro e w1 ⟨he1, hT, hY, hC⟩
  exact ⟨he1, hT, hT.blk (hb.drewN q) (by simp; exact ⟨fun e => h.ky_ne e.symm, fun e => h.kc_ne e.symm⟩), hY, hC⟩

/-- What fill leaves: the buffer slid to its head, and more bytes in it, or the end told. -/
def FillPost (k : RK) (s : RS) (w : World) (e : Ending) (w' : World) : Prop :=
  e = .returned (.tuple #[]) ∧ Turned k.blocks w w' ∧ ∃ s', Rd w' k s' ∧ s'.pos = s.pos ∧ s'.r = 0 ∧ s'.lb = s.lb ∧
    ((s.wp - s.r < s'.wp ∧ s'.er = .nilIface) ∨ (s'.wp = s.wp - s.r ∧ s'.er = errAt k.ae ∧ s'.i = k.d.length))

theorem fill_post_some (k : RK) (s : RS) (w w1 : World) (h : Rd w k s) (hr : s.r = 0) (S so : Nat) (hsa : k.sa = some ⟨S, so, none⟩) (m : Nat) (hm : m = min (k.d.length - s.i) (4096 - s.wp)) (h1 : 1 ≤ m) (hT : Turned k.blocks w w1)
    (hB : Blk w1 k.B 163 (bCells k 0 s.wp s.lb s.lr .nilIface)) (hY : Blk w1 k.Y 161 #[.slice (some ⟨S, so, none⟩) k.d.length k.scap, .int .i64 ((s.i + m : Nat) : Int), .int .i64 (-1)])
    (hC : Blk w1 k.C 5 (splice s.cur s.wp (by8 ((k.d.drop s.i).take m))).toArray) :
    FillPost k s w (.returned (.tuple #[])) (w1.setCell ⟨k.B, 3, none⟩ (.int .i64 ((s.wp : Int) + (m : Int)))) := by
  have hwl := h.wl
  have hil := h.il
  have hbl := h.bl
  have hmd : m ≤ k.d.length - s.i := by omega
  have hT' := hT.setCell (p := ⟨k.B, 3, none⟩) (.inl (by simp [RK.blocks])) (.int .i64 ((s.wp : Int) + (m : Int)))
  have hlen : (by8 ((k.d.drop s.i).take m)).length = m := by rw [by8_length]; exact part_length hmd
  refine ⟨rfl, hT', { s with i := s.i + m, wp := s.wp + m, er := .nilIface, pr := -1, cur := splice s.cur s.wp (by8 ((k.d.drop s.i).take m)) }, ?_, ?_, hr, rfl, .inl ⟨by simp; omega, rfl⟩⟩
  · refine h.next hT' ?_ ?_ ?_ ?_ ?_ ?_ ?_ ?_ ?_ (.inl rfl)
    · have h3 := hB.set_ 3 (.int .i64 ((s.wp : Int) + (m : Int)))
      unfold bufCells
      simpa [hr] using h3
    · exact hC.far (by simpa using h.kc_ne) _
    · unfold srcCells
      rw [hsa]
      exact hY.far (by simpa using h.ky_ne) _
    · show (splice _ _ _).length = 4096
      rw [length_splice _ _ _ (by rw [hlen, h.cl]; omega), h.cl]
    · show s.r ≤ s.wp + m
      omega
    · show s.wp + m ≤ 4096
      omega
    · show s.i + m ≤ k.d.length
      omega
    · show s.wp + m - s.r ≤ s.i + m
      omega
    · intro j u hj hu
      have hpos : s.pos = s.i - s.wp := by unfold RS.pos; rw [hr]; rfl
      have hpos' : RS.pos { s with i := s.i + m, wp := s.wp + m, er := .nilIface, pr := -1, cur := splice s.cur s.wp (by8 ((k.d.drop s.i).take m)) } = s.i - s.wp := by
        show s.i + m - (s.wp + m - s.r) = _
        omega
      rw [hpos'] at hu
      show (splice s.cur s.wp (by8 ((k.d.drop s.i).take m)))[s.r + j]? = _
      have hj' : j < s.wp + m := by
        have : j < s.wp + m - s.r := hj
        omega
      rw [hr, Nat.zero_add]
      by_cases hlow : j < s.wp
      · rw [splice_low _ _ _ _ (by rw [h.cl]; omega) hlow]
        have h2 := h.buf j u (by omega) (by rw [hpos]; exact hu)
        rwa [hr, Nat.zero_add] at h2
      · obtain ⟨x, rfl⟩ : ∃ x, j = s.wp + x := ⟨j - s.wp, by omega⟩
        rw [splice_in _ _ _ _ (by rw [h.cl]; omega) (by rw [hlen]; omega)]
        refine by8_get ?_
        rw [List.getElem?_take_of_lt (by omega), List.getElem?_drop, ← hu]
        congr 1
        omega
  · show s.i + m - (s.wp + m - s.r) = s.i - (s.wp - s.r)
    omega

theorem readE_q (k : RK) (s : RS) (w : World) (h : Rd w k s) (hr : s.r = 0) (he : s.er = .nilIface) (hi : s.i = k.d.length) (q : Nat) :
    Calls Tryd.prog 181 #[.pointer (some ⟨k.Y, 0, none⟩), .slice (some ⟨k.C, s.wp, none⟩) (4096 - s.wp) (4096 - s.wp)] (w.drewN q) fun e w1 =>
      e = .returned (.tuple #[.int .i64 0, errAt k.ae]) ∧ Turned [] (w.drewN q) w1 ∧ Blk w1 k.B 163 (bCells k 0 s.wp s.lb s.lr .nilIface) := by
  have hYB := h.yb
  unfold srcCells at hYB
  have hb := h.bb
  unfold bufCells at hb
  rw [hr, he] at hb
  refine (read_eof k.Y k.C s.wp (4096 - s.wp) (4096 - s.wp) k.sa k.d.length k.scap s.i s.pr (w.drewN q) k.K k.ae (hYB.drewN q) ⟨h.eof.glob, h.eof.below, h.eof.cell, h.eof.row⟩ (by omega)).mono ?_
  rintro e w1 ⟨he1, hT⟩
  exact ⟨he1, hT, hT.blk (hb.drewN q) (by simp)⟩

theorem fill_post_eof (k : RK) (s : RS) (w w1 : World) (h : Rd w k s) (hr : s.r = 0) (hi : s.i = k.d.length) (hT : Turned [] w w1)
    (hB : Blk w1 k.B 163 (bCells k 0 s.wp s.lb s.lr .nilIface)) :
    FillPost k s w (.returned (.tuple #[])) ((w1.setCell ⟨k.B, 3, none⟩ (.int .i64 (s.wp : Int))).setCell ⟨k.B, 4, none⟩ (errAt k.ae)) := by
  have hT1 : Turned k.blocks w ((w1.setCell ⟨k.B, 3, none⟩ (.int .i64 (s.wp : Int))).setCell ⟨k.B, 4, none⟩ (errAt k.ae)) :=
    ((hT.mono (by simp)).setCell (.inl (by simp [RK.blocks])) _).setCell (.inl (by simp [RK.blocks])) _
  refine ⟨rfl, hT1, { s with er := errAt k.ae }, ?_, rfl, hr, rfl, .inr ⟨by show s.wp = s.wp - s.r; omega, rfl, hi⟩⟩
  refine h.next hT1 ?_ ?_ ?_ h.cl h.rw h.wl h.il h.bl h.buf (.inr ⟨rfl, hi⟩)
  · have h3 := (hB.set_ 3 (.int .i64 (s.wp : Int))).set_ 4 (errAt k.ae)
    unfold bufCells
    simpa [hr] using h3
  · exact ((hT.blk h.cb (by simp)).far (by simpa using h.kc_ne) _).far (by simpa using h.kc_ne) _
  · exact ((hT.blk h.yb (by simp)).far (by simpa using h.ky_ne) _).far (by simpa using h.ky_ne) _

/-- The buffer slid to its head. -/
def Slid (k : RK) (s : RS) (w wc : World) : Prop :=
  Turned k.blocks w wc ∧ ∃ s1, Rd wc k s1 ∧ s1.r = 0 ∧ s1.er = .nilIface ∧ s1.wp = s.wp - s.r ∧ s1.pos = s.pos ∧ s1.lb = s.lb
theorem Slid.drew {k : RK} {s : RS} {w wc : World} (h : Slid k s w wc) : Slid k s w wc.drew := by
  obtain ⟨hT, s1, h1, h2⟩ := h
  exact ⟨hT.drew, s1, h1.keepNew (Turned.refl _ _).drew, h2⟩
theorem FillPost.from_slid {k : RK} {s s1 : RS} {w wc : World} (hT : Turned k.blocks w wc) (hw : s1.wp = s.wp - s.r) (hr : s1.r = 0) (hp : s1.pos = s.pos) (hl : s1.lb = s.lb) {e : Ending} {w' : World} (h : FillPost k s1 wc e w') : FillPost k s w e w' := by
  obtain ⟨he, ht, s', h1, h2, h3, h4, h5⟩ := h
  refine ⟨he, hT.trans ht, s', h1, h2.trans hp, h3, h4.trans hl, ?_⟩
  rw [hr, Nat.sub_zero, hw] at h5
  exact h5

theorem slid_zero {k : RK} {s : RS} {w : World} (h : Rd w k s) (hr : s.r = 0) (he : s.er = .nilIface) : Slid k s w w :=
  ⟨Turned.refl _ _, s, h, hr, he, by omega, rfl, rfl⟩

theorem slid_post {k : RK} {s : RS} {w w1 : World} (h : Rd w k s) (he : s.er = .nilIface) (hT : Turned k.blocks w w1) (hB : Blk w1 k.B 163 (bCells k s.r s.wp s.lb s.lr .nilIface))
    (hY : Blk w1 k.Y 161 (srcCells k s)) (hC : Blk w1 k.C 5 (splice s.cur 0 (by8 ((k.d.drop s.pos).take (s.wp - s.r)))).toArray) :
    Slid k s w ((w1.setCell ⟨k.B, 3, none⟩ (.int .i64 ((s.wp : Int) - (s.r : Int)))).setCell ⟨k.B, 2, none⟩ (.int .i64 0)) := by
  have hT1 : Turned k.blocks w ((w1.setCell ⟨k.B, 3, none⟩ (.int .i64 ((s.wp : Int) - (s.r : Int)))).setCell ⟨k.B, 2, none⟩ (.int .i64 0)) :=
    (hT.setCell (.inl (by simp [RK.blocks])) _).setCell (.inl (by simp [RK.blocks])) _
  have hrw := h.rw
  have hwl := h.wl
  have hbl := h.bl
  have hil := h.il
  have hpl := h.pos_le
  have hlen : (by8 ((k.d.drop s.pos).take (s.wp - s.r))).length = s.wp - s.r := by rw [by8_length]; exact part_length (by omega)
  have hpos : RS.pos { s with r := 0, wp := s.wp - s.r, cur := splice s.cur 0 (by8 ((k.d.drop s.pos).take (s.wp - s.r))) } = s.pos := by
    show s.i - (s.wp - s.r - 0) = s.pos
    rfl
  refine ⟨hT1, { s with r := 0, wp := s.wp - s.r, cur := splice s.cur 0 (by8 ((k.d.drop s.pos).take (s.wp - s.r))) }, ?_, rfl, he, rfl, hpos, rfl⟩
  refine h.next hT1 ?_ ?_ ?_ ?_ (Nat.zero_le _) (by show s.wp - s.r ≤ 4096; omega) h.il ?_ ?_ (.inl he)
  · have h3 := (hB.set_ 3 (.int .i64 ((s.wp : Int) - (s.r : Int)))).set_ 2 (.int .i64 0)
    have e : ((s.wp : Int) - (s.r : Int)) = ((s.wp - s.r : Nat) : Int) := by omega
    rw [e] at h3 ⊢
    unfold bufCells
    simpa [he] using h3
  · exact (hC.far (by simpa using h.kc_ne) _).far (by simpa using h.kc_ne) _
  · exact (hY.far (by simpa using h.ky_ne) _).far (by simpa using h.ky_ne) _
  · show (splice _ _ _).length = 4096
    rw [length_splice _ _ _ (by rw [hlen, h.cl]; omega), h.cl]
  · show s.wp - s.r - 0 ≤ s.i
    omega
  · intro j u hj hu
    rw [hpos] at hu
    have hj' : j < s.wp - s.r := hj
    show (splice s.cur 0 (by8 ((k.d.drop s.pos).take (s.wp - s.r))))[0 + j]? = _
    rw [splice_in _ _ _ _ (Nat.zero_le _) (by rw [hlen]; omega)]
    refine by8_get ?_
    rw [List.getElem?_take_of_lt (by omega), List.getElem?_drop, hu]

theorem slid_full {k : RK} {s : RS} {w w1 : World} (h : Rd w k s) (he : s.er = .nilIface) (hr : s.r = 4096) (hT : Turned k.blocks w w1) (hB : Blk w1 k.B 163 (bCells k s.r s.wp s.lb s.lr .nilIface))
    (hY : Blk w1 k.Y 161 (srcCells k s)) (hC : Blk w1 k.C 5 (splice s.cur 0 []).toArray) :
    Slid k s w ((w1.setCell ⟨k.B, 3, none⟩ (.int .i64 0)).setCell ⟨k.B, 2, none⟩ (.int .i64 0)) := by
  have hrw := h.rw
  have hwl := h.wl
  have hw : s.wp = 4096 := by omega
  have h1 := slid_post h he hT hB hY (by rw [show s.wp - s.r = 0 from by omega]; exact hC)
  rwa [show ((s.wp : Int) - (s.r : Int)) = 0 from by omega] at h1

set_option maxRecDepth 100000 in
set_option maxHeartbeats 8000000 in
theorem fill_any (k : RK) (s : RS) (w : World) (h : Rd w k s) (he : s.er = .nilIface) (hn : s.wp - s.r < 4096) :
    Calls Tryd.prog 90 #[.pointer (some ⟨k.B, 0, none⟩)] w (FillPost k s w) := by
  go_enter Tryd.func90, Tryd.ntmps90
  obtain ⟨c0, c1, c2, c3, c4, c5, c6⟩ := h.cells
  rw [he] at c4
  go_upto_if 9 with (fail)
  go_cut [] (fun wc => Slid k s w wc)
  case first =>
    by_cases hr : s.r = 0
    · have HS := Lib.hid (slid_zero h hr he)
      have d0 : (s.r : Int) ≤ 0 := by omega
      clear h he hr
      go_wp2_with fail
      go_meet
      exact HS.out
    · have d0 : (0 : Int) < (s.r : Int) := by omega
      have d0' := d0
      have hrw := h.rw
      have hwl := h.wl
      have hbl := h.bl
      have hil := h.il
      have hpl := h.pos_le
      have b0 : (s.r : Int) ≤ (s.wp : Int) := by omega
      have b1 : (s.wp : Int) ≤ 4096 := by omega
      have SL : Hid ((by8 ((k.d.drop s.pos).take (s.wp - s.r))).length = s.wp - s.r) := by rw [by8_length]; exact part_length (by omega)
      have SN : Hid ((by8 ((k.d.drop s.pos).take (s.wp - s.r))).length = Nat.min (s.wp - s.r) 4096) := by
        rw [SL.out]; show _ = min _ _; omega
      have SF : Hid (0 + (by8 ((k.d.drop s.pos).take (s.wp - s.r))).length ≤ s.cur.length) := by rw [SL.out, h.cl]; show 0 + (s.wp - s.r) ≤ 4096; omega
      have S1 := Lib.hid (by8_one ((k.d.drop s.pos).take (s.wp - s.r)))
      have SD := Lib.hid h.cb.drew
      have SC : Hid (∀ j v, (by8 ((k.d.drop s.pos).take (s.wp - s.r)))[j]? = some v → w.drew.cell? ((⟨k.C, s.r, none⟩ : Addr).add j) = some v) := by
        intro j v hv
        unfold by8 at hv
        rw [List.getElem?_map] at hv
        obtain ⟨u, hu, rfl⟩ := Option.map_eq_some_iff.1 hv
        have hj : j < s.wp - s.r := by
          have h1 := (List.getElem?_eq_some_iff.1 hu).1
          rw [part_length (by omega)] at h1
          exact h1
        rw [List.getElem?_take_of_lt hj, List.getElem?_drop] at hu
        have h2 := h.buf j u hj hu
        have h3 : w.cell? ⟨k.C, s.r + j, none⟩ = some (.int .u8 (u.toNat : Int)) := by rw [h.cb.cell]; simpa using h2
        unfold Addr.add
        split
        · subst_vars; simpa using h3
        · exact h3
      have hT0 : Turned k.blocks w w.drew := (Turned.refl _ _).drew
      have HP := fun w1 hT hB hY hC => slid_post (w1 := w1) h he hT hB hY hC
      have HP := Lib.hid HP
      have HBB : Hid (Blk w k.B 163 (bCells k s.r s.wp s.lb s.lr .nilIface)) := by have hb := h.bb; unfold bufCells at hb; rwa [he] at hb
      have HYY := Lib.hid h.yb
      have HNE : Hid (k.B ≠ k.C ∧ k.Y ≠ k.C) := ⟨fun e => h.kc_ne e.symm, fun e => h.cy_ne e.symm⟩
      by_cases h4 : s.r = 4096
      · have hw4 : s.wp = 4096 := by omega
        have HP := fun w1 hT hB hY hC => slid_full (w1 := w1) h he h4 hT hB hY hC
        have HP := Lib.hid HP
        have H4 := Lib.hid h4
        have HW4 := Lib.hid hw4
        rw [h4] at c2
        rw [hw4] at c3
        clear h he hr h4 hw4 d0 b0 b1 hrw hwl hbl hil hpl
        have d0 : (0 : Int) < (s.r : Int) := d0'
        clear d0'
        go_wp2_with fail
        go_region_held3 (fun w' => w'.cell? ⟨k.B, 0, none⟩ = some (.slice (some ⟨k.C, 0, none⟩) 4096 4096) ∧ w'.cell? ⟨k.B, 2, none⟩ = some (.int .i64 ((4096 : Nat) : Int)) ∧ w'.cell? ⟨k.B, 3, none⟩ = some (.int .i64 ((4096 : Nat) : Int))) (go_keep)
          (first | (refine step_copy8 rfl (.tmp 13) (.tmp 26) 22 22 rfl 5 Tryd.underlying22 u8_size (some ⟨k.C, 0, none⟩) (some ⟨k.C, 0, none⟩) 4096 4096 0 0 (by simp [Act.eval]) (by simp [Act.eval]) k.C 0 s.cur 5 SD.out [] (by decide) (fun h => by simp at h) (by simp) (by simp) ?_; intro w1 hC1 hT1; obtain ⟨d0, d1, d2, d3, d4, d5, d6⟩ := cellsOf (hT1.out.blk HBB.out.drew (by simpa using HNE.out.1)); rw [H4.out] at d2; rw [HW4.out] at d3))
        have hB1 := hT1.out.blk HBB.out.drew (by simpa using HNE.out.1)
        have hY1 := hT1.out.blk HYY.out.drew (by simpa using HNE.out.2)
        have hT2 := hT0.trans (hT1.out.mono (fun x hx => by simp [RK.blocks] at hx ⊢; exact .inr (.inl hx)))
        have HS := Lib.hid (HP.out _ hT2 hB1 hY1 hC1.out)
        have f2 := hB1.frozen 2
        have f3 := hB1.frozen 3
        clear hT1 hT2 hB1 hY1 hC1 HP SL SN SF S1 SD SC c0 c1 c2 c3 c4 c5 c6
        go_wp2_with fail
        go_region
        go_wp2_with fail
        go_meet
        exact HS.out.drew
      · have b2 : ¬ 4096 = s.r := fun e => h4 e.symm
        clear h he hr h4
        go_wp2_with fail
        go_region_held3 (fun w' => w'.cell? ⟨k.B, 0, none⟩ = some (.slice (some ⟨k.C, 0, none⟩) 4096 4096) ∧ w'.cell? ⟨k.B, 2, none⟩ = some (.int .i64 (s.r : Int)) ∧ w'.cell? ⟨k.B, 3, none⟩ = some (.int .i64 (s.wp : Int))) (go_keep)
          (first | (refine step_copy8 rfl (.tmp 13) (.tmp 26) 22 22 rfl 5 Tryd.underlying22 u8_size (some ⟨k.C, 0, none⟩) (some ⟨k.C, s.r, none⟩) 4096 4096 (s.wp - s.r) (4096 - s.r) (by simp [Act.eval]) (by simp [Act.eval]) k.C 0 s.cur 5 SD.out (by8 ((k.d.drop s.pos).take (s.wp - s.r))) SN.out (fun _ => ⟨rfl, _, rfl, SC.out⟩) SF.out S1.out ?_; intro w1 hC1 hT1; obtain ⟨d0, d1, d2, d3, d4, d5, d6⟩ := cellsOf (hT1.out.blk HBB.out.drew (by simpa using HNE.out.1))))
        have hB1 := hT1.out.blk HBB.out.drew (by simpa using HNE.out.1)
        have hY1 := hT1.out.blk HYY.out.drew (by simpa using HNE.out.2)
        have hT2 := hT0.trans (hT1.out.mono (fun x hx => by simp [RK.blocks] at hx ⊢; exact .inr (.inl hx)))
        have HS := Lib.hid (HP.out _ hT2 hB1 hY1 hC1.out)
        have f2 := hB1.frozen 2
        have f3 := hB1.frozen 3
        clear hT1 hT2 hB1 hY1 hC1 HP SL SN SF S1 SD SC c0 c1 c2 c3 c4 c5 c6
        go_wp2_with fail
        go_region
        go_wp2_with fail
        go_meet
        exact HS.out.drew
  case rest =>
    obtain ⟨hT0, s1, h1R, hr, he1, hw, hp, hl⟩ := hcut
    have hST := Lib.hid hT0
    have hSW := Lib.hid hw
    have hSR := Lib.hid hr
    have hSP := Lib.hid hp
    have hSL := Lib.hid hl
    have hn : s1.wp < 4096 := by omega
    clear hT0 hw hp hl h he c0 c1 c2 c3 c4 c5 c6
    by_cases hi : s1.i < k.d.length
    · obtain ⟨S, so, hsa, hS, hSY⟩ : ∃ S so, k.sa = some ⟨S, so, none⟩ ∧ Row8 wc S so k.d ∧ S ≠ k.Y := by
        rcases h1R.src with h0 | ⟨S, so, e, _, _, h3, _, h5⟩
        · rw [h0] at hi; simp at hi
        · exact ⟨S, so, e, h5, h3⟩
      obtain ⟨m, hm⟩ : ∃ m, m = min (k.d.length - s1.i) (4096 - s1.wp) := ⟨_, rfl⟩
      obtain ⟨c0, c1, c2, c3, c4, c5, c6⟩ := h1R.cells
      rw [hr] at c2
      rw [he1] at c4
      have RQ := Lib.hid (read_q k s1 wc h1R hr he1 S so hsa hS hSY hi m hm)
      have h1 : 1 ≤ m := by omega
      have b4 : m ≤ 4096 := by omega
      have b0 : (0 : Int) ≤ (s1.wp : Int) := by omega
      have b1 : (s1.wp : Int) ≤ 4096 := by omega
      have b2 : s1.wp ≤ 4096 := by omega
      have b3 : ¬ 4096 = s1.wp := by omega
      have HP := fun w1 hT hB hY hC => fill_post_some k s1 wc w1 h1R hr S so hsa m hm h1 hT hB hY hC
      have HP := Lib.hid HP
      clear hr hm hsa he1 h1R
      have hmr := method_read ⟨k.Y, 0, none⟩
      go_wp2_with fail
      go_quiet (fail)
      go_wp2_with fail
      refine wp_loop_rounds 1 ?_
      rw [rounds_succ]
      go_wp2_with fail
      go_region_held3 (fun w' => w'.cell? ⟨k.B, 0, none⟩ = some (.slice (some ⟨k.C, 0, none⟩) 4096 4096) ∧ w'.cell? ⟨k.B, 1, none⟩ = some (.iface 121 (.pointer (some ⟨k.Y, 0, none⟩))) ∧ w'.cell? ⟨k.B, 3, none⟩ = some (.int .i64 (s1.wp : Int))) (go_keep)
        (first | (go_at_call 181; (with_reducible refine (RQ.out _).mono ?_); rintro e w1 ⟨rfl, hT1, hB1, hY1, hC1⟩; obtain ⟨d0, d1, d2, d3, d4, d5, d6⟩ := cellsOf hB1))
      have hT2 := ((Turned.refl k.blocks wc).drewN _).trans (hT1.mono (fun x hx => by simp [RK.blocks] at hx ⊢; rcases hx with rfl | rfl <;> simp))
      have HF := Lib.hid (HP.out _ hT2 hB1 hY1 hC1)
      have f3 := hB1.frozen 3
      clear hT1 hT2 hB1 hY1 hC1 HP
      go_wp2_with fail
      refine bodyPost_ret (results_none rfl _ _ _) rfl ?_
      exact FillPost.from_slid hST.out hSW.out hSR.out hSP.out hSL.out HF.out
    · have hi : s1.i = k.d.length := by have := h1R.il; omega
      obtain ⟨c0, c1, c2, c3, c4, c5, c6⟩ := h1R.cells
      rw [hr] at c2
      rw [he1] at c4
      have RQ := Lib.hid (readE_q k s1 wc h1R hr he1 hi)
      have b0 : (0 : Int) ≤ (s1.wp : Int) := by omega
      have b1 : (s1.wp : Int) ≤ 4096 := by omega
      have b2 : s1.wp ≤ 4096 := by omega
      have b3 : ¬ 4096 = s1.wp := by omega
      have HP := fun w1 hT hB => fill_post_eof k s1 wc w1 h1R hr hi hT hB
      have HP := Lib.hid HP
      clear hr hi he1 h1R
      have hmr := method_read ⟨k.Y, 0, none⟩
      go_wp2_with fail
      go_quiet (fail)
      go_wp2_with fail
      refine wp_loop_rounds 1 ?_
      rw [rounds_succ]
      go_wp2_with fail
      go_region_held3 (fun w' => w'.cell? ⟨k.B, 0, none⟩ = some (.slice (some ⟨k.C, 0, none⟩) 4096 4096) ∧ w'.cell? ⟨k.B, 1, none⟩ = some (.iface 121 (.pointer (some ⟨k.Y, 0, none⟩))) ∧ w'.cell? ⟨k.B, 3, none⟩ = some (.int .i64 (s1.wp : Int))) (go_keep)
        (first | (go_at_call 181; (with_reducible refine (RQ.out _).mono ?_); rintro e w1 ⟨rfl, hT1, hB1⟩; obtain ⟨d0, d1, d2, d3, d4, d5, d6⟩ := cellsOf hB1))
      have hT2 := ((Turned.refl [] wc).drewN _).trans hT1
      have HF := Lib.hid (HP.out _ hT2 hB1)
      have f3 := hB1.frozen 3
      have f4 := hB1.frozen 4
      clear hT1 hT2 hB1 HP
      go_wp2_with fail
      refine bodyPost_ret (results_none rfl _ _ _) rfl ?_
      exact FillPost.from_slid hST.out hSW.out hSR.out hSP.out hSL.out HF.out
end Go.Proofs.YthobojpbdeepoaaDoor
