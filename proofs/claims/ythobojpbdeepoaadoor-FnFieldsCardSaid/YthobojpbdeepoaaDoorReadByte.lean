/-
  The contracts of (*bufio.Reader).readErr, ReadByte and UnreadByte.
-/
import Derived.Test.YthobojpbdeepoaaDoorFill
import Derived.Deep.LoopGhost
namespace Go.Proofs.YthobojpbdeepoaaDoor
open Go.RowKit

theorem Rd.upB {w w1 : World} {k : RK} {s s' : RS} (h : Rd w k s) (hT : Turned [k.B] w w1) (hB : Blk w1 k.B 163 (bufCells k s')) (hc : s'.cur = s.cur) (hi : s'.i = s.i) (hp : s'.pr = s.pr)
    (rw : s'.r ≤ s'.wp) (wl : s'.wp ≤ 4096) (bl : s'.wp - s'.r ≤ s'.i) (buf : ∀ j u, j < s'.wp - s'.r → k.d[s'.pos + j]? = some u → s'.cur[s'.r + j]? = some (.int .u8 (u.toNat : Int))) (er : s'.er = .nilIface ∨ (s'.er = errAt k.ae ∧ s'.i = k.d.length)) : Rd w1 k s' :=
  h.next (hT.mono (by simp [RK.blocks])) hB (by rw [hc]; exact hT.blk h.cb (by simpa using h.kc_ne)) (by unfold srcCells; rw [hi, hp]; exact hT.blk h.yb (by simpa using h.ky_ne))
    (by rw [hc]; exact h.cl) rw wl (by rw [hi]; exact h.il) bl buf er

theorem Rd.set_lr {w : World} {k : RK} {s : RS} (h : Rd w k s) (x : Int) : Rd (w.setCell ⟨k.B, 6, none⟩ (.int .i64 x)) k { s with lr := x } :=
  h.upB ((Turned.refl _ _).setCell (.inl (by simp)) _) (by have h1 := h.bb.set_ 6 (.int .i64 x); unfold bufCells at *; simpa using h1) rfl rfl rfl h.rw h.wl h.bl h.buf h.er
theorem Rd.set_lb {w : World} {k : RK} {s : RS} (h : Rd w k s) (x : Int) : Rd (w.setCell ⟨k.B, 5, none⟩ (.int .i64 x)) k { s with lb := x } :=
  h.upB ((Turned.refl _ _).setCell (.inl (by simp)) _) (by have h1 := h.bb.set_ 5 (.int .i64 x); unfold bufCells at *; simpa using h1) rfl rfl rfl h.rw h.wl h.bl h.buf h.er
theorem Rd.set_nil {w : World} {k : RK} {s : RS} (h : Rd w k s) : Rd (w.setCell ⟨k.B, 4, none⟩ .nilIface) k { s with er := .nilIface } :=
  h.upB ((Turned.refl _ _).setCell (.inl (by simp)) _) (by have h1 := h.bb.set_ 4 .nilIface; unfold bufCells at *; simpa using h1) rfl rfl rfl h.rw h.wl h.bl h.buf (.inl rfl)
/-- n bytes of the buffer are taken. -/
theorem Rd.set_r {w : World} {k : RK} {s : RS} (h : Rd w k s) (n : Nat) (hn : s.r + n ≤ s.wp) : Rd (w.setCell ⟨k.B, 2, none⟩ (.int .i64 ((s.r + n : Nat) : Int))) k { s with r := s.r + n } := by
  have hbl := h.bl
  have hp : RS.pos { s with r := s.r + n } = s.pos + n := by
    show s.i - (s.wp - (s.r + n)) = s.i - (s.wp - s.r) + n
    omega
  refine h.upB ((Turned.refl _ _).setCell (.inl (by simp)) _) (by have h1 := h.bb.set_ 2 (.int .i64 ((s.r + n : Nat) : Int)); unfold bufCells at *; simpa using h1) rfl rfl rfl hn h.wl (by show s.wp - (s.r + n) ≤ s.i; omega) ?_ h.er
  intro j u hj hu
  rw [hp] at hu
  have hj' : j < s.wp - (s.r + n) := hj
  have h1 := h.buf (n + j) u (by omega) (by rw [← Nat.add_assoc]; exact hu)
  show s.cur[s.r + n + j]? = _
  rw [Nat.add_assoc]
  exact h1
theorem pos_add {s : RS} {n : Nat} (hn : s.r + n ≤ s.wp) (hb : s.wp - s.r ≤ s.i) : RS.pos { s with r := s.r + n } = s.pos + n := by
  show s.i - (s.wp - (s.r + n)) = s.i - (s.wp - s.r) + n
  omega
theorem Rd.drewN {w : World} {k : RK} {s : RS} (h : Rd w k s) (n : Nat) : Rd (w.drewN n) k s := h.keepNew ((Turned.refl _ _).drewN n)
theorem Rd.frozen {w : World} {k : RK} {s : RS} (h : Rd w k s) (i : Nat) : w.frozen? ⟨k.B, i, none⟩ = false := h.bb.frozen i
/-- The next byte, where the buffer has one. -/
theorem Rd.byte {w : World} {k : RK} {s : RS} (h : Rd w k s) (hlt : s.r < s.wp) : ∃ c : UInt8, k.d[s.pos]? = some c ∧ w.cell? ⟨k.C, s.r, none⟩ = some (.int .u8 (c.toNat : Int)) := by
  have h1 := h.pos_le
  have h2 := h.il
  obtain ⟨c, hc⟩ : ∃ c, k.d[s.pos]? = some c := ⟨_, List.getElem?_eq_getElem (by omega)⟩
  refine ⟨c, hc, ?_⟩
  have h3 := h.buf 0 c (by omega) hc
  rw [h.cb.cell]
  simpa using h3

theorem readErr_any (k : RK) (s : RS) (w : World) (h : Rd w k s) :
    Calls Tryd.prog 89 #[.pointer (some ⟨k.B, 0, none⟩)] w fun e w' => e = .returned s.er ∧ Turned [k.B] w w' ∧ Rd w' k { s with er := .nilIface } := by
  obtain ⟨c0, c1, c2, c3, c4, c5, c6⟩ := h.cells
  have f4 := h.frozen 4
  have H := Lib.hid h.set_nil
  have HT := Lib.hid ((Turned.refl [k.B] w).setCell (p := ⟨k.B, 4, none⟩) (.inl (by simp)) .nilIface)
  rcases h.er with he | ⟨he, _⟩
  · rw [he] at c4 ⊢
    clear h he
    go_enter Tryd.func89, Tryd.ntmps89
    go_wp2_with fail
    go_ret
    exact ⟨rfl, HT.out, H.out⟩
  · rw [he] at c4 ⊢
    clear h he
    go_enter Tryd.func89, Tryd.ntmps89
    go_wp2_with fail
    go_ret
    exact ⟨rfl, HT.out, H.out⟩

/-- What ReadByte leaves where a byte is to come. -/
def BytePost (k : RK) (s : RS) (c : UInt8) (w : World) (e : Ending) (w' : World) : Prop :=
  e = .returned (.tuple #[.int .u8 (c.toNat : Int), .nilIface]) ∧ Turned k.blocks w w' ∧ ∃ s', Rd w' k s' ∧ s'.pos = s.pos + 1 ∧ s'.lb = (c.toNat : Int) ∧ 1 ≤ s'.r

theorem byte_post {k : RK} {s s1 : RS} {c : UInt8} {w wr : World} (hR : Rd wr k s1) (hT : Turned k.blocks w wr) (hp : s1.pos = s.pos) (hlt : s1.r < s1.wp) (q : Nat) :
    BytePost k s c w (.returned (.tuple #[.int .u8 (c.toNat : Int), .nilIface])) (((wr.drewN q).setCell ⟨k.B, 2, none⟩ (.int .i64 ((s1.r : Int) + 1))).setCell ⟨k.B, 5, none⟩ (.int .i64 (c.toNat : Int))) := by
  have h1 := (hR.drewN q).set_r 1 (by omega)
  have h2 := h1.set_lb (c.toNat : Int)
  refine ⟨rfl, ((hT.drewN q).setCell (.inl (by simp [RK.blocks])) _).setCell (.inl (by simp [RK.blocks])) _, _, h2, ?_, rfl, Nat.le_add_left 1 s1.r⟩
  show RS.pos { s1 with r := s1.r + 1 } = s.pos + 1
  rw [pos_add (by omega) hR.bl, hp]

set_option maxHeartbeats 1000000 in
theorem readByte_some (k : RK) (s : RS) (w : World) (h : Rd w k s) (c : UInt8) (hc : k.d[s.pos]? = some c) :
    Calls Tryd.prog 74 #[.pointer (some ⟨k.B, 0, none⟩)] w (BytePost k s c w) := by
  obtain ⟨c0, c1, c2, c3, c4, c5, c6⟩ := h.cells
  have f6 := h.frozen 6
  go_enter Tryd.func74, Tryd.ntmps74
  go_wp2_with fail
  have hR0 := h.set_lr (-1)
  have hT0 := (Turned.refl k.blocks w).setCell (p := ⟨k.B, 6, none⟩) (.inl (by simp [RK.blocks])) (.int .i64 (-1))
  generalize World.setCell w ⟨k.B, 6, none⟩ (.int .i64 (-1)) = w1 at *
  clear c0 c1 c2 c3 c4 c5 c6 f6
  have HC := Lib.hid hc
  clear hc
  go_loopg [] 1 (fun g wr => ∃ s1, Rd wr k s1 ∧ Turned k.blocks w wr ∧ s1.pos = s.pos ∧ (g = 0 → s1.r < s1.wp) ∧ g ≤ 1)
  case atStart => exact ⟨_, hR0, hT0, rfl, (fun h => by cases h), Nat.le_refl _⟩
  case round =>
    clear hR0 hT0
    obtain ⟨s1, hR, hT, hp, hg, hg1⟩ := hrel
    obtain ⟨c0, c1, c2, c3, c4, c5, c6⟩ := hR.cells
    by_cases hlt : s1.r < s1.wp
    · obtain ⟨c', hc', hcell⟩ := hR.byte hlt
      obtain rfl : c' = c := by
        have h1 := HC.out
        rw [← hp, hc'] at h1
        exact Option.some.inj h1
      have HF := Lib.hid (fun q => byte_post (c := c') hR hT hp hlt q)
      have hwl := hR.wl
      have b0 : ((s1.r : Int) == (s1.wp : Int)) = false := by simp; omega
      have b1 : (0 : Int) ≤ (s1.r : Int) := by omega
      have b2 : (s1.r : Int) < 4096 := by omega
      have f2 := hR.frozen 2
      have f5 := hR.frozen 5
      have hc255 := u8_le c'
      clear hg hg1 hp hc' hR hT h
      go_wp2_with fail
      go_quiet (fail)
      go_wp2_with fail
      go_quiet (fail)
      go_wp2_with fail
      go_ret2
      exact HF.out _
    · have hrw := hR.rw
      have hwl := hR.wl
      have hpl := hR.pos_le
      have hil := hR.il
      have hpd : s1.pos < k.d.length := by rw [hp]; exact (List.getElem?_eq_some_iff.1 HC.out).1
      have he : s1.er = .nilIface := by
        rcases hR.er with he | ⟨_, hi⟩
        · exact he
        · omega
      have FQ := Lib.hid (fun q => fill_any k s1 (wr.drewN q) (hR.drewN q) he (by omega))
      have HG : Hid (gk = 1) := by
        show gk = 1
        rcases Nat.eq_zero_or_pos gk with h0 | h0
        · exact absurd (hg h0) hlt
        · omega
      have HP := Lib.hid hp
      have HPD := Lib.hid hpd
      have b0 : ((s1.r : Int) == (s1.wp : Int)) = true := by simp; omega
      rw [he] at c4
      clear hg hg1 hp hpd hR h he hpl hil
      go_wp2_with fail
      go_quiet (fail)
      go_wp2_with (go_at_call 90; (with_reducible refine (FQ.out _).mono ?_); rintro e w2 ⟨rfl, hT2, s2, hR2, hp2, hr2, hl2, hor⟩)
      have hT3 := (hT.drewN _).trans hT2
      have hlt2 : s2.r < s2.wp := by
        rcases hor with ⟨h1, _⟩ | ⟨h1, _, h3⟩
        · omega
        · exfalso
          have h4 := hR2.pos_le
          have h5 := HP.out
          have h6 := HPD.out
          omega
      go_roundg 0
      case rel => exact ⟨s2, hR2, hT3, hp2.trans HP.out, fun _ => hlt2, Nat.zero_le _⟩
      case measure => have := HG.out; omega

/-- What ReadByte leaves at the end of all. -/
def EofPost (k : RK) (w : World) (e : Ending) (w' : World) : Prop :=
  e = .returned (.tuple #[.int .u8 0, errAt k.ae]) ∧ Turned k.blocks w w' ∧ ∃ s', Rd w' k s' ∧ s'.pos = k.d.length

set_option maxHeartbeats 1000000 in
theorem readByte_eof (k : RK) (s : RS) (w : World) (h : Rd w k s) (hd : s.pos = k.d.length) :
    Calls Tryd.prog 74 #[.pointer (some ⟨k.B, 0, none⟩)] w (EofPost k w) := by
  obtain ⟨c0, c1, c2, c3, c4, c5, c6⟩ := h.cells
  have f6 := h.frozen 6
  go_enter Tryd.func74, Tryd.ntmps74
  go_wp2_with fail
  have hR0 := h.set_lr (-1)
  have hT0 := (Turned.refl k.blocks w).setCell (p := ⟨k.B, 6, none⟩) (.inl (by simp [RK.blocks])) (.int .i64 (-1))
  generalize World.setCell w ⟨k.B, 6, none⟩ (.int .i64 (-1)) = w1 at *
  clear c0 c1 c2 c3 c4 c5 c6 f6
  have HD := Lib.hid hd
  clear hd
  go_loopg [] 1 (fun g wr => ∃ s1, Rd wr k s1 ∧ Turned k.blocks w wr ∧ s1.pos = k.d.length ∧ (g = 0 → s1.er = errAt k.ae) ∧ g ≤ 1)
  case atStart => exact ⟨_, hR0, hT0, HD.out, (fun h => by cases h), Nat.le_refl _⟩
  case round =>
    clear hR0 hT0
    obtain ⟨s1, hR, hT, hp, hg, hg1⟩ := hrel
    obtain ⟨c0, c1, c2, c3, c4, c5, c6⟩ := hR.cells
    have hrw := hR.rw
    have hwl := hR.wl
    have hpl := hR.pos_le
    have hil := hR.il
    have heq : s1.r = s1.wp := by omega
    have b0 : ((s1.r : Int) == (s1.wp : Int)) = true := by simp; omega
    have HP := Lib.hid hp
    have HG := Lib.hid hg
    have HQ := Lib.hid heq
    clear hp hpl hil hg heq
    rcases hR.er with he | ⟨he, _⟩
    · have FQ := Lib.hid (fun q => fill_any k s1 (wr.drewN q) (hR.drewN q) he (by have := HQ.out; omega))
      have H1 : Hid (gk = 1) := by
        show gk = 1
        rcases Nat.eq_zero_or_pos gk with h0 | h0
        · have h1 := HG.out h0
          rw [he] at h1
          cases h1
        · omega
      rw [he] at c4
      clear hg1 hR h he
      go_wp2_with fail
      go_quiet (fail)
      go_wp2_with (go_at_call 90; (with_reducible refine (FQ.out _).mono ?_); rintro e w2 ⟨rfl, hT2, s2, hR2, hp2, hr2, hl2, hor⟩)
      have hT3 := (hT.drewN _).trans hT2
      have he2 : s2.er = errAt k.ae := by
        rcases hor with ⟨h1, _⟩ | ⟨_, h2, _⟩
        · exfalso
          have h4 := hR2.pos_le
          have h5 := HP.out
          have h6 := hR2.il
          omega
        · exact h2
      go_roundg 0
      case rel => exact ⟨s2, hR2, hT3, hp2.trans HP.out, fun _ => he2, Nat.zero_le _⟩
      case measure => have := H1.out; omega
    · have FQ := Lib.hid (fun q => readErr_any k s1 (wr.drewN q) (hR.drewN q))
      rw [he] at FQ
      rw [he] at c4
      clear hg1 hR h he
      go_wp2_with fail
      go_quiet (fail)
      go_wp2_with (go_at_call 89; (with_reducible refine (FQ.out _).mono ?_); rintro e w2 ⟨rfl, hT2, hR2⟩)
      go_ret2
      exact ⟨rfl, (hT.drewN _).trans (hT2.mono (by simp [RK.blocks])), _, hR2, HP.out⟩

theorem unread_post {k : RK} {s : RS} {w w1 : World} (h : Rd w k s) (c : UInt8) (hr : 1 ≤ s.r) (hp : 1 ≤ s.pos) (hc : k.d[s.pos - 1]? = some c) (hT : Turned k.blocks w w1) (hB : Blk w1 k.B 163 (bCells k ((s.r : Int) - 1) s.wp (c.toNat : Int) s.lr s.er))
    (hC : Blk w1 k.C 5 s.cur.toArray) (hY : Blk w1 k.Y 161 (srcCells k s)) :
    let W := (((w1.setCell ⟨k.C, s.r - 1, none⟩ (.int .u8 (c.toNat : Int))).setCell ⟨k.B, 5, none⟩ (.int .i64 (-1))).setCell ⟨k.B, 6, none⟩ (.int .i64 (-1))).drew
    Turned k.blocks w W ∧ ∃ s', Rd W k s' ∧ s'.pos + 1 = s.pos := by
  have hrw := h.rw
  have hwl := h.wl
  have hbl := h.bl
  have hpl := h.pos_le
  have hT2 : Turned k.blocks w (((w1.setCell ⟨k.C, s.r - 1, none⟩ (.int .u8 (c.toNat : Int))).setCell ⟨k.B, 5, none⟩ (.int .i64 (-1))).setCell ⟨k.B, 6, none⟩ (.int .i64 (-1))).drew :=
    (((hT.setCell (.inl (by simp [RK.blocks])) _).setCell (.inl (by simp [RK.blocks])) _).setCell (.inl (by simp [RK.blocks])) _).drew
  have hpos : RS.pos { s with r := s.r - 1, lb := -1, lr := -1, cur := s.cur.set (s.r - 1) (.int .u8 (c.toNat : Int)) } = s.pos - 1 := by
    show s.i - (s.wp - (s.r - 1)) = s.pos - 1
    omega
  refine ⟨hT2, { s with r := s.r - 1, lb := -1, lr := -1, cur := s.cur.set (s.r - 1) (.int .u8 (c.toNat : Int)) }, ?_, by rw [hpos]; omega⟩
  refine h.next hT2 ?_ ?_ ?_ (by simpa using h.cl) (by show s.r - 1 ≤ s.wp; omega) h.wl h.il (by show s.wp - (s.r - 1) ≤ s.i; omega) ?_ h.er
  · have h3 := (((hB.far (p := ⟨k.C, s.r - 1, none⟩) (by simpa using fun e => h.kc_ne e.symm) (.int .u8 (c.toNat : Int))).set_ 5 (.int .i64 (-1))).set_ 6 (.int .i64 (-1))).drew
    unfold bufCells
    have e : ((s.r : Int) - 1) = ((s.r - 1 : Nat) : Int) := by omega
    rw [e] at h3
    simpa using h3
  · have h3 := (((hC.set_ (s.r - 1) (.int .u8 (c.toNat : Int))).far (p := ⟨k.B, 5, none⟩) (by simpa using h.kc_ne) (.int .i64 (-1))).far (p := ⟨k.B, 6, none⟩) (by simpa using h.kc_ne) (.int .i64 (-1))).drew
    simpa using h3
  · exact (((hY.far (p := ⟨k.C, s.r - 1, none⟩) (by simpa using fun e => h.cy_ne e.symm) _).far (p := ⟨k.B, 5, none⟩) (by simpa using h.ky_ne) _).far (p := ⟨k.B, 6, none⟩) (by simpa using h.ky_ne) _).drew
  · intro j u hj hu
    rw [hpos] at hu
    have hj' : j < s.wp - (s.r - 1) := hj
    show (s.cur.set (s.r - 1) (.int .u8 (c.toNat : Int)))[s.r - 1 + j]? = _
    rcases Nat.eq_zero_or_pos j with h0 | h0
    · subst h0
      rw [Nat.add_zero] at hu ⊢
      rw [hc] at hu
      injection hu with hu
      subst hu
      rw [List.getElem?_set_self (by rw [h.cl]; omega)]
    · rw [List.getElem?_set_ne (by omega)]
      have h1 := h.buf (j - 1) u (by omega) (by rw [← hu]; congr 1; omega)
      rw [show s.r - 1 + j = s.r + (j - 1) from by omega]
      exact h1

/-- The byte that was taken last is laid back. -/
theorem unreadByte_any (k : RK) (s : RS) (w : World) (h : Rd w k s) (c : UInt8) (hl : s.lb = (c.toNat : Int)) (hr : 1 ≤ s.r) (hp : 1 ≤ s.pos) (hc : k.d[s.pos - 1]? = some c) :
    Calls Tryd.prog 114 #[.pointer (some ⟨k.B, 0, none⟩)] w fun e w' => e = .returned .nilIface ∧ Turned k.blocks w w' ∧ ∃ s', Rd w' k s' ∧ s'.pos + 1 = s.pos := by
  obtain ⟨c0, c1, c2, c3, c4, c5, c6⟩ := h.cells
  rw [hl] at c5
  have f2 := h.frozen 2
  have hrw := h.rw
  have hwl := h.wl
  have b0 : (s.r : Int) ≤ 4096 := by omega
  have b1 : (1 : Int) ≤ (s.r : Int) := by omega
  have b5 : (0 : Int) ≤ (s.r : Int) - 1 := by omega
  have b6 : (s.r : Int) - 1 < 4096 := by omega
  have b2 := u8_le c
  have b3 : (0 : Int) ≤ (c.toNat : Int) := by omega
  have b7 : IntKind.u8.wrap (c.toNat : Int) = (c.toNat : Int) := by rw [IntKind.wrap_u8]; omega
  have b4 : ((s.r : Int) == 0) = false := by simp; omega
  go_enter Tryd.func114, Tryd.ntmps114
  go_wp2_with fail
  have hB1 := h.bb.set_ 2 (.int .i64 ((s.r : Int) - 1))
  have hT1 := (Turned.refl k.blocks w).setCell (p := ⟨k.B, 2, none⟩) (.inl (by simp [RK.blocks])) (.int .i64 ((s.r : Int) - 1))
  have hC1 := h.cb.far (p := ⟨k.B, 2, none⟩) (by simpa using h.kc_ne) (.int .i64 ((s.r : Int) - 1))
  have hY1 := h.yb.far (p := ⟨k.B, 2, none⟩) (by simpa using h.ky_ne) (.int .i64 ((s.r : Int) - 1))
  generalize World.setCell w ⟨k.B, 2, none⟩ (.int .i64 ((s.r : Int) - 1)) = w1 at *
  have hB1' : Blk w1 k.B 163 (bCells k ((s.r : Int) - 1) s.wp (c.toNat : Int) s.lr s.er) := by unfold bufCells at hB1; rw [hl] at hB1; simpa using hB1
  clear c0 c1 c2 c3 c4 c5 c6 f2 hB1
  obtain ⟨c0, c1, c2, c3, c4, c5, c6⟩ := cellsOf hB1'
  have f5 := hB1'.frozen 5
  have f6 := hB1'.frozen 6
  obtain ⟨x, hx⟩ : ∃ x, s.cur[s.r - 1]? = some x := ⟨_, List.getElem?_eq_getElem (by rw [h.cl]; omega)⟩
  have hx1 : w1.cell? ⟨k.C, s.r - 1, none⟩ = some x := by rw [hC1.cell]; simpa using hx
  have fx := hC1.frozen (s.r - 1)
  have n1 := h.kc_ne
  have n2 : k.B ≠ k.C := fun e => n1 e.symm
  go_region_held3 (fun w' => w'.cell? ⟨k.B, 0, none⟩ = some (.slice (some ⟨k.C, 0, none⟩) 4096 4096) ∧ w'.cell? ⟨k.B, 2, none⟩ = some (.int .i64 ((s.r : Int) - 1)) ∧ w'.cell? ⟨k.B, 5, none⟩ = some (.int .i64 (c.toNat : Int))) (go_keep)
    ((fail))
  have HU := Lib.hid (unread_post h c hr hp hc hT1 hB1' hC1 hY1)
  clear c0 c1 c2 c3 c4 h hT1 hB1' hC1 hY1 hx hx1
  go_wp2_with fail
  go_ret
  exact ⟨rfl, HU.out⟩
end Go.Proofs.YthobojpbdeepoaaDoor
