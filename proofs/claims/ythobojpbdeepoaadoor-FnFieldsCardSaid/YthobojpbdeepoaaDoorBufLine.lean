/-
  The contract of (*bufio.Reader).ReadLine.
-/
import Derived.Test.YthobojpbdeepoaaDoorReadSlice
import Derived.OwnWalk
namespace Go.Proofs.YthobojpbdeepoaaDoor
open Go.RowKit

/-- A line without its one trailing carriage return. -/
def trimCR (l : List UInt8) : List UInt8 := if l[l.length - 1]? = some 13 then l.take (l.length - 1) else l

/-- What bufio's ReadLine leaves: nothing more; a whole line; the last piece, without a line feed; a full buffer. -/
def LinePost (k : RK) (s : RS) (w : World) (e : Ending) (w' : World) : Prop :=
  ∃ s', Rd w' k s' ∧ Turned k.blocks w w' ∧
   ((e = .returned (.tuple #[.slice none 0 0, .bool false, errAt k.ae]) ∧ s.pos = k.d.length ∧ s'.pos = s.pos) ∨
    (∃ off l cap more, e = .returned (.tuple #[.slice (some ⟨k.C, off, none⟩) l.length cap, .bool more, .nilIface]) ∧ l.length ≤ cap ∧ cap ≤ 4096 ∧ Row8 w' k.C off l ∧ off + l.length ≤ s'.r ∧
     ((more = false ∧ ∃ j, k.d[s.pos + j]? = some 10 ∧ NoNl k.d s.pos j ∧ l = trimCR ((k.d.drop s.pos).take j) ∧ s'.pos = s.pos + j + 1) ∨
      (more = false ∧ l ≠ [] ∧ l = k.d.drop s.pos ∧ NoNl k.d s.pos l.length ∧ s'.pos = k.d.length) ∨
      (more = true ∧ ∃ m, 4095 ≤ m ∧ m ≤ 4096 ∧ s.pos + m ≤ k.d.length ∧ NoNl k.d s.pos m ∧ l = (k.d.drop s.pos).take m ∧ s'.pos = s.pos + m ∧ (k.d[s.pos + (m - 1)]? = some 13 → k.d[s.pos + m]? = some 13)))))

section
variable {k : RK} {s s1 : RS} {fe : Addr} {w w1 : World} {off n cap : Nat} {er : Value}
theorem SliceOut.byte (h : SliceOut k s fe w off n cap er w1 s1) (j : Nat) (hj : j < n) : ∃ u : UInt8, k.d[s.pos + j]? = some u ∧ w1.cell? ⟨k.C, off + j, none⟩ = some (.int .u8 (u.toNat : Int)) := by
  have h1 := h.le
  obtain ⟨u, hu⟩ : ∃ u, k.d[s.pos + j]? = some u := ⟨_, List.getElem?_eq_getElem (by omega)⟩
  exact ⟨u, hu, h.row j u (by rw [List.getElem?_take_of_lt hj, List.getElem?_drop, hu])⟩
theorem SliceOut.len (h : SliceOut k s fe w off n cap er w1 s1) (m : Nat) (hm : m ≤ n) : ((k.d.drop s.pos).take m).length = m := by
  have h1 := h.le
  exact part_length (by omega)
theorem line_nl (h : SliceOut k s fe w off n cap .nilIface w1 s1) (h1 : 1 ≤ n) (h10 : k.d[s.pos + (n - 1)]? = some 10) (hno : NoNl k.d s.pos (n - 1)) (m : Nat)
    (hm : (m = n - 1 ∧ (2 ≤ n → k.d[s.pos + (n - 2)]? ≠ some 13)) ∨ (2 ≤ n ∧ m = n - 2 ∧ k.d[s.pos + (n - 2)]? = some 13)) :
    LinePost k s w (.returned (.tuple #[.slice (some ⟨k.C, off, none⟩) m cap, .bool false, .nilIface])) w1 := by
  have hmn : m ≤ n := by omega
  have hc := h.capn
  have hf := h.rr
  have e1 := h.len m hmn
  have e2 := h.len (n - 1) (by omega)
  have hl : trimCR ((k.d.drop s.pos).take (n - 1)) = (k.d.drop s.pos).take m := by
    unfold trimCR
    rw [e2]
    by_cases h2 : 2 ≤ n
    · rw [List.getElem?_take_of_lt (by omega), List.getElem?_drop, show n - 1 - 1 = n - 2 from by omega]
      rcases hm with ⟨rfl, h3⟩ | ⟨_, rfl, h3⟩
      · rw [if_neg (h3 h2)]
      · rw [if_pos h3, List.take_take, Nat.min_eq_left (by omega)]
    · have h3 : n = 1 := by omega
      subst h3
      have h4 : m = 0 := by omega
      subst h4
      simp
  have hrow : Row8 w1 k.C off ((k.d.drop s.pos).take m) := by
    have h5 := h.row.take m
    rwa [List.take_take, Nat.min_eq_left hmn] at h5
  refine ⟨s1, h.rd, h.turned, .inr ⟨off, (k.d.drop s.pos).take m, cap, false, by rw [e1], by omega, h.capm, hrow, by omega, .inl ⟨rfl, n - 1, h10, hno, hl.symm, ?_⟩⟩⟩
  rw [h.pos]
  omega
theorem line_last (h : SliceOut k s fe w off n cap er w1 s1) (h1 : 1 ≤ n) (hd : s.pos + n = k.d.length) (hno : NoNl k.d s.pos n) :
    LinePost k s w (.returned (.tuple #[.slice (some ⟨k.C, off, none⟩) n cap, .bool false, .nilIface])) w1 := by
  have hc := h.capn
  have hf := h.rr
  have e1 := h.len n (Nat.le_refl n)
  have e2 : (k.d.drop s.pos).take n = k.d.drop s.pos := List.take_of_length_le (by rw [List.length_drop]; omega)
  rw [e2] at e1
  have hrow := h.row
  rw [e2] at hrow
  refine ⟨s1, h.rd, h.turned, .inr ⟨off, k.d.drop s.pos, cap, false, by rw [e1], by omega, h.capm, hrow, by omega, .inr (.inl ⟨rfl, ?_, rfl, by rwa [e1], by rw [h.pos]; exact hd⟩)⟩⟩
  intro h0
  rw [h0] at e1
  simp at e1
  omega
theorem line_end (h : SliceOut k s fe w off 0 cap er w1 s1) (hd : s.pos + 0 = k.d.length) : LinePost k s w (.returned (.tuple #[.slice none 0 0, .bool false, errAt k.ae])) w1 :=
  ⟨s1, h.rd, h.turned, .inl ⟨rfl, hd, h.pos⟩⟩
theorem line_full (h : SliceOut k s fe w 0 4096 cap er w1 s1) (hno : NoNl k.d s.pos 4096) (h13 : k.d[s.pos + 4095]? ≠ some 13) :
    LinePost k s w (.returned (.tuple #[.slice (some ⟨k.C, 0, none⟩) 4096 cap, .bool true, .nilIface])) w1 := by
  have hc := h.capn
  have e1 := h.len 4096 (Nat.le_refl _)
  exact ⟨s1, h.rd, h.turned, .inr ⟨0, _, cap, true, by rw [e1], by rw [e1]; exact hc, h.capm, h.row, by rw [e1]; exact h.rr, .inr (.inr ⟨rfl, 4096, by decide, by decide, h.le, hno, rfl, h.pos, fun h2 => absurd h2 h13⟩)⟩⟩
/-- The state with the last byte laid back. -/
theorem Rd.back {w : World} {k : RK} {s : RS} (h : Rd w k s) (hr : 1 ≤ s.r) (hp : 1 ≤ s.pos) (hb : ∀ u, k.d[s.pos - 1]? = some u → s.cur[s.r - 1]? = some (.int .u8 (u.toNat : Int))) :
    Rd (w.setCell ⟨k.B, 2, none⟩ (.int .i64 ((s.r : Int) - 1))) k { s with r := s.r - 1 } ∧ RS.pos { s with r := s.r - 1 } = s.pos - 1 := by
  have hrw := h.rw
  have hbl := h.bl
  have hpl := h.pos_le
  have hpos : RS.pos { s with r := s.r - 1 } = s.pos - 1 := by
    show s.i - (s.wp - (s.r - 1)) = s.pos - 1
    omega
  refine ⟨h.upB ((Turned.refl _ _).setCell (.inl (by simp)) _) (by
    have h1 := h.bb.set_ 2 (.int .i64 ((s.r : Int) - 1))
    rw [show ((s.r : Int) - 1) = ((s.r - 1 : Nat) : Int) from by omega] at h1 ⊢
    unfold bufCells at *
    simpa using h1) rfl rfl rfl (by show s.r - 1 ≤ s.wp; omega) h.wl (by show s.wp - (s.r - 1) ≤ s.i; omega) ?_ h.er, hpos⟩
  intro j u hj hu
  rw [hpos] at hu
  have hj' : j < s.wp - (s.r - 1) := hj
  show s.cur[s.r - 1 + j]? = _
  rcases Nat.eq_zero_or_pos j with h0 | h0
  · subst h0
    exact hb u hu
  · have h1 := h.buf (j - 1) u (by omega) (by rw [← hu]; congr 1; omega)
    rw [show s.r - 1 + j = s.r + (j - 1) from by omega]
    exact h1
theorem line_back (h : SliceOut k s fe w 0 4096 cap er w1 s1) (hr : s1.r = 4096) (hno : NoNl k.d s.pos 4096) (h13 : k.d[s.pos + 4095]? = some 13) :
    LinePost k s w (.returned (.tuple #[.slice (some ⟨k.C, 0, none⟩) 4095 cap, .bool true, .nilIface])) (w1.setCell ⟨k.B, 2, none⟩ (.int .i64 4095)) := by
  have hc := h.capn
  have hle := h.le
  have hp := h.pos
  have e1 := h.len 4095 (by decide)
  have hrow : Row8 w1 k.C 0 ((k.d.drop s.pos).take 4095) := by
    have h5 := h.row.take 4095
    rwa [List.take_take, Nat.min_eq_left (by decide)] at h5
  have hn := h.rd.kc_ne
  obtain ⟨h1, h2⟩ := h.rd.back (by omega) (by omega) (fun u hu => by
    have h3 := h.row 4095 13 (by rw [List.getElem?_take_of_lt (by decide), List.getElem?_drop, h13])
    rw [hp, show s.pos + 4096 - 1 = s.pos + 4095 from by omega, h13] at hu
    injection hu with hu
    subst hu
    rw [h.rd.cb.cell] at h3
    rw [hr]
    simpa using h3)
  rw [hr, show (((4096 : Nat) : Int) - 1) = 4095 from rfl] at h1
  refine ⟨_, h1, h.turned.setCell (.inl (by simp [RK.blocks])) _, .inr ⟨0, _, cap, true, by rw [e1], by rw [e1]; omega, h.capm, hrow.of_block (Below.heap_setCell _ _ _ _ (by simpa using hn)), by rw [e1]; exact Nat.le_refl _, .inr (.inr ⟨rfl, 4095, by decide, by decide, by omega, fun j hj => hno j (by omega), rfl, ?_, fun _ => h13⟩)⟩⟩
  show RS.pos { s1 with r := 4096 - 1 } = _
  rw [← hr, h2, hp]
  omega
end

theorem u8_eq {u : UInt8} {c : UInt8} : (((u.toNat : Int)) == (c.toNat : Int)) = decide (u = c) := by
  by_cases h : u = c
  · subst h; simp
  · rw [decide_eq_false h]
    have : (u.toNat : Int) ≠ (c.toNat : Int) := fun e => h (UInt8.toNat_inj.1 (Int.ofNat.inj e))
    simpa using this

set_option maxRecDepth 100000 in
set_option maxHeartbeats 4000000 in
theorem bufLine_any (k : RK) (s : RS) (w : World) (fe : Addr) (h : Rd w k s) (hF : Sent w k.K 6 fe) (hfe : k.ae ≠ fe) :
    Calls Tryd.prog 95 #[.pointer (some ⟨k.B, 0, none⟩)] w (LinePost k s w) := by
  have hG := hF.glob
  have SL := readSlice_any k s w fe h hF hfe
  go_enter Tryd.func95, Tryd.ntmps95
  go_wp2_with fail
  go_at_call 115
  refine SL.mono ?_
  rintro e w1 ⟨off, n, cap, er, s1, rfl, hS⟩
  have hbe := hF.keep (h.below hS.turned)
  have hba := h.eof.keep (h.below hS.turned)
  have cF := hbe.cell
  have q1 := err_other hba hbe hfe
  have q2 := err_same w1 fe
  have q3 := run_eql_iface_nil_left (P := Tryd.prog) (w := w1) 182 (.pointer (some fe)) Tryd.underlying74
  have hcn := hS.capn
  have hfit := hS.fit
  have d0 : (0 : Int) ≤ (cap : Int) := by omega
  rcases hS.way with ⟨rfl, h1, h10, hno⟩ | ⟨rfl, hd, hno⟩ | ⟨rfl, rfl, rfl, hno, hr⟩
  · have g0 : ((n : Int) == 0) = false := by simp; omega
    obtain ⟨u, hu, cu⟩ := hS.byte (n - 1) (by omega)
    obtain rfl : u = 10 := by rw [h10] at hu; injection hu with hu; exact hu.symm
    have e1 : IntKind.i64.wrap ((n : Int) - 1) = (n : Int) - 1 := IntWalk.i64_in _ (by omega)
    have e2 : ((n : Int) - 1).toNat = n - 1 := by omega
    have g1 : (1 : Int) ≤ (n : Int) := by omega
    have g2 : (0 : Int) ≤ (n : Int) - 1 := by omega
    have g3 : (n : Int) ≤ (cap : Int) := by omega
    have g4 : (n : Int) - 1 ≤ (cap : Int) := by omega
    have HL := fun m hm => line_nl hS h1 h10 hno m hm
    by_cases h2 : 2 ≤ n
    · obtain ⟨u, hu, cu2⟩ := hS.byte (n - 2) (by omega)
      have e3 : IntKind.i64.wrap ((n : Int) - 2) = (n : Int) - 2 := IntWalk.i64_in _ (by omega)
      have e4 : ((n : Int) - 2).toNat = n - 2 := by omega
      have g5 : (1 : Int) < (n : Int) := by omega
      have g6 : (0 : Int) ≤ (n : Int) - 2 := by omega
      have g7 : (n : Int) - 2 ≤ (cap : Int) := by omega
      by_cases h13 : u = 13
      · subst h13
        have HF := Lib.hid (HL (n - 2) (.inr ⟨h2, rfl, hu⟩))
        clear HL h10 hno hS hbe hba SL h hF hfe hu
        go_wp2_with fail
        go_ret3
        exact HF.out
      · have HF := Lib.hid (HL (n - 1) (.inl ⟨rfl, fun _ => by rw [hu]; exact fun e => h13 (Option.some.inj e)⟩))
        have t13 : ((u.toNat : Int) == 13) = false := (u8_eq (c := 13)).trans (decide_eq_false h13)
        clear HL h10 hno hS hbe hba SL h hF hfe hu
        go_wp2_with fail
        go_ret3
        exact HF.out
    · have hn : n = 1 := by omega
      subst hn
      rw [show off + (1 - 1) = off from rfl] at cu
      have HF := Lib.hid (HL 0 (.inl ⟨rfl, fun h => absurd h h2⟩))
      clear HL h10 hno hS hbe hba SL h hF hfe
      go_wp2_with fail
      go_ret3
      exact HF.out
  · by_cases h0 : n = 0
    · subst h0
      have HF := Lib.hid (line_end hS hd)
      clear hno hS hbe hba SL h hF hfe
      go_wp2_with fail
      go_ret3
      exact HF.out
    · obtain ⟨u, hu, cu⟩ := hS.byte (n - 1) (by omega)
      have hne : u ≠ 10 := fun e => hno (n - 1) (by omega) (by rw [hu, e])
      have t10 : ((u.toNat : Int) == 10) = false := (u8_eq (c := 10)).trans (decide_eq_false hne)
      have HF := Lib.hid (line_last hS (by omega) hd hno)
      have g0 : ((n : Int) == 0) = false := by simp; omega
      have e1 : IntKind.i64.wrap ((n : Int) - 1) = (n : Int) - 1 := IntWalk.i64_in _ (by omega)
      have e2 : ((n : Int) - 1).toNat = n - 1 := by omega
      have g1 : (1 : Int) ≤ (n : Int) := by omega
      have g2 : (0 : Int) ≤ (n : Int) - 1 := by omega
      clear hno hS hbe hba SL h hF hfe hd hu hne h0
      go_wp2_with fail
      go_ret3
      exact HF.out
  · obtain ⟨u, hu, cu⟩ := hS.byte 4095 (by decide)
    rw [Nat.zero_add] at cu
    obtain ⟨c0, c1, c2, c3, c4, c5, c6⟩ := hS.rd.cells
    have f2 := hS.rd.frozen 2
    rw [hr] at c2
    have g3 : (4096 : Int) ≤ (cap : Int) := by omega
    have g4 : (4095 : Int) ≤ (cap : Int) := by omega
    by_cases h13 : u = 13
    · subst h13
      have HF := Lib.hid (line_back hS hr hno hu)
      clear hno hS hbe hba SL h hF hfe hu
      go_wp2_with fail
      go_ret3
      exact HF.out
    · have HF := Lib.hid (line_full hS hno (by rw [hu]; exact fun e => h13 (Option.some.inj e)))
      have t13 : ((u.toNat : Int) == 13) = false := (u8_eq (c := 13)).trans (decide_eq_false h13)
      clear hno hS hbe hba SL h hF hfe hu
      go_wp2_with fail
      go_ret3
      exact HF.out
end Go.Proofs.YthobojpbdeepoaaDoor
