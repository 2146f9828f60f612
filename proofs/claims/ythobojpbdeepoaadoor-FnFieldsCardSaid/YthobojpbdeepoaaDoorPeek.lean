/-
  The contract of bufio's Peek.
-/
import Derived.Test.YthobojpbdeepoaaDoorReadSlice
namespace Go.Proofs.YthobojpbdeepoaaDoor
open Go.RowKit

/-- What Peek shows: n bytes, or what is left with the end told. -/
def PeekPost (k : RK) (s : RS) (n : Nat) (w : World) (e : Ending) (w' : World) : Prop :=
  ∃ s' p m cap er, Rd w' k s' ∧ Turned k.blocks w w' ∧ s'.pos = s.pos ∧ e = .returned (.tuple #[.slice p m cap, er]) ∧ m ≤ s'.wp - s'.r ∧ m ≤ cap ∧ (0 < m → p = some ⟨k.C, s'.r, none⟩) ∧
    ((m = n ∧ er = .nilIface) ∨ (m < n ∧ s.pos + m = k.d.length ∧ er = errAt k.ae))

theorem slice_mid (b off cap i j : Nat) (hi : i ≤ j) (hj : j ≤ cap) (n : Nat) : ∃ q : Option Addr, (∀ W, (Instr.slice 22 (.slice (some ⟨b, off, none⟩) n cap) (some (.int .i64 (i : Int))) (some (.int .i64 (j : Int))) none).run Tryd.prog W = .ok (.slice q (j - i) (cap - i)) W) ∧ q.isSome ∧ (i < j → q = some ⟨b, off + i, none⟩) := by
  refine ⟨if cap = i then some ⟨b, off, none⟩ else some ⟨b, off + i, none⟩, fun W => ?_, ?_, ?_⟩
  · rw [run_slice_lh (P := Tryd.prog) (t := 22) (ht := by kernel_rfl) (kl := .i64) (kh := .i64) (l := (i : Int)) (h := (j : Int)) (h0 := by omega) (h1 := by omega) (h2 := by omega)]
    simp [go_sem, Addr.add]
    by_cases h0 : i = 0
    · subst h0; simp
    · simp [h0]
  · split <;> rfl
  · intro h; rw [if_neg (by omega)]

set_option maxRecDepth 100000 in
set_option maxHeartbeats 4000000 in
theorem peek_have (k : RK) (s : RS) (w : World) (n : Nat) (h : Rd w k s) (h1n : 1 ≤ n) (hn : n ≤ s.wp - s.r) :
    Calls Tryd.prog 98 #[.pointer (some ⟨k.B, 0, none⟩), .int .i64 (n : Int)] w fun e w' => ∃ s' cap, Rd w' k s' ∧ Turned [k.B] w w' ∧ s'.pos = s.pos ∧ s'.r = s.r ∧ s'.wp = s.wp ∧ s'.cur = s.cur ∧ n ≤ cap ∧ e = .returned (.tuple #[.slice (some ⟨k.C, s.r, none⟩) n cap, .nilIface]) := by
  have hwl0 := h.wl
  have hrw0 := h.rw
  obtain ⟨c0, c1, c2, c3, c4, c5, c6⟩ := h.cells
  have f5 := h.frozen 5
  have f6 := h.frozen 6
  go_enter Tryd.func98, Tryd.ntmps98
  go_wp2_with fail
  have hR0 := (h.set_lb (-1)).set_lr (-1)
  have hT0 := ((Turned.refl [k.B] w).setCell (p := ⟨k.B, 5, none⟩) (.inl (by simp)) (.int .i64 (-1))).setCell (p := ⟨k.B, 6, none⟩) (.inl (by simp)) (.int .i64 (-1))
  generalize World.setCell (World.setCell w ⟨k.B, 5, none⟩ (.int .i64 (-1))) ⟨k.B, 6, none⟩ (.int .i64 (-1)) = w1 at *
  clear c0 c1 c2 c3 c4 c5 c6 f5 f6
  go_loopg [] (n + 1) (fun g wr => ∃ s1, Rd wr k s1 ∧ Turned [k.B] w wr ∧ s1.pos = s.pos ∧ s1.r = s.r ∧ s1.wp = s.wp ∧ s1.cur = s.cur ∧ 0 ≤ g)
  case atStart => exact ⟨_, hR0, hT0, rfl, rfl, rfl, rfl, Nat.zero_le _⟩
  case round =>
    clear hR0 hT0
    obtain ⟨s1, hR, hT, hp, hr1, hw1, hc1, _⟩ := hrel
    obtain ⟨c0, c1, c2, c3, c4, c5, c6⟩ := hR.cells
    have hrw := hR.rw
    have hwl := hR.wl
    have e0 : IntKind.i64.wrap ((s1.wp : Int) - (s1.r : Int)) = ((s1.wp - s1.r : Nat) : Int) := by rw [IntWalk.i64_in _ (by omega)]; omega
    have hlt : ¬ s1.wp - s1.r < n := by omega
    have b0 : ¬ (((s1.wp - s1.r : Nat) : Int) < (n : Int)) := by omega
    have b2 : ¬ (4096 : Int) < (n : Int) := by omega
    have b3 : (0 : Int) ≤ (s1.r : Int) := by omega
    have e2 : IntKind.i64.wrap ((s1.r : Int) + (n : Int)) = ((s1.r + n : Nat) : Int) := by rw [IntWalk.i64_in _ (by omega)]; omega
    have HF : Hid (∀ q q2 m cap', m = n → n ≤ cap' → ∃ s' cap, Rd ((wr.drewN q).drewN q2) k s' ∧ Turned [k.B] w ((wr.drewN q).drewN q2) ∧ s'.pos = s.pos ∧ s'.r = s.r ∧ s'.wp = s.wp ∧ s'.cur = s.cur ∧ n ≤ cap ∧
        Ending.returned (.tuple #[.slice (some ⟨k.C, s1.r, none⟩) m cap', .nilIface]) = .returned (.tuple #[.slice (some ⟨k.C, s.r, none⟩) n cap, .nilIface])) := by
      intro q q2 m cap' e g3
      subst e
      exact ⟨_, cap', (hR.drewN q).drewN q2, (hT.drewN q).drewN q2, hp, hr1, hw1, hc1, g3, by rw [hr1]⟩
    clear hR hT hp h hr1 hw1 hc1 hn hwl0 hrw0
    have h5 : ¬ 4096 = s1.r := by omega
    go_wp2_with fail
    go_quiet (fail)
    go_wp2_with fail
    go_quiet (fail)
    go_wp2_with fail
    go_quiet (fail)
    go_wp2_with fail
    go_ret2
    refine HF.out _ _ _ _ ?_ ?_
    · omega
    · omega

set_option maxRecDepth 100000 in
set_option maxHeartbeats 4000000 in
theorem peek_any (k : RK) (s : RS) (w : World) (n : Nat) (h : Rd w k s) (h1n : 1 ≤ n) (hn : n ≤ 4096) :
    Calls Tryd.prog 98 #[.pointer (some ⟨k.B, 0, none⟩), .int .i64 (n : Int)] w (PeekPost k s n w) := by
  obtain ⟨c0, c1, c2, c3, c4, c5, c6⟩ := h.cells
  have f5 := h.frozen 5
  have f6 := h.frozen 6
  go_enter Tryd.func98, Tryd.ntmps98
  go_wp2_with fail
  have hR0 := (h.set_lb (-1)).set_lr (-1)
  have hT0 := ((Turned.refl k.blocks w).setCell (p := ⟨k.B, 5, none⟩) (.inl (by simp [RK.blocks])) (.int .i64 (-1))).setCell (p := ⟨k.B, 6, none⟩) (.inl (by simp [RK.blocks])) (.int .i64 (-1))
  generalize World.setCell (World.setCell w ⟨k.B, 5, none⟩ (.int .i64 (-1))) ⟨k.B, 6, none⟩ (.int .i64 (-1)) = w1 at *
  clear c0 c1 c2 c3 c4 c5 c6 f5 f6
  go_loopg [] (n + 1) (fun g wr => ∃ s1, Rd wr k s1 ∧ Turned k.blocks w wr ∧ s1.pos = s.pos ∧ (s1.er = .nilIface → n - (s1.wp - s1.r) + 1 ≤ g))
  case atStart => exact ⟨_, hR0, hT0, rfl, fun _ => by omega⟩
  case round =>
    clear hR0 hT0
    obtain ⟨s1, hR, hT, hp, hg⟩ := hrel
    obtain ⟨c0, c1, c2, c3, c4, c5, c6⟩ := hR.cells
    have hrw := hR.rw
    have hwl := hR.wl
    have e0 : IntKind.i64.wrap ((s1.wp : Int) - (s1.r : Int)) = ((s1.wp - s1.r : Nat) : Int) := by rw [IntWalk.i64_in _ (by omega)]; omega
    by_cases hlt : s1.wp - s1.r < n
    · have b0 : (((s1.wp - s1.r : Nat) : Int) < (n : Int)) := by omega
      have b1 : (((s1.wp - s1.r : Nat) : Int) < 4096) := by omega
      rcases hR.er with he | ⟨he, hi⟩
      · have FQ := Lib.hid (fun q => fill_any k s1 (wr.drewN q) (hR.drewN q) he (by omega))
        rw [he] at c4
        have HG := Lib.hid (hg he)
        have HT := Lib.hid hT
        have HP := Lib.hid hp
        clear hg hT hp hR h he
        go_wp2_with fail
        go_quiet (fail)
        go_wp2_with (go_at_call 90; (with_reducible refine (FQ.out _).mono ?_); rintro e w2 ⟨rfl, hT2, s2, hR2, hp2, hr2, hl2, hor⟩)
        have hT3 := (HT.out.drewN _).trans hT2
        have h1 : 1 ≤ gk := by have := HG.out; omega
        have h2 : s2.er = .nilIface → n - (s2.wp - s2.r) + 1 ≤ gk - 1 := by
          intro he2
          rcases hor with ⟨h3, _⟩ | ⟨_, h3, _⟩
          · have := HG.out; omega
          · rw [he2] at h3; cases h3
        go_roundg (gk - 1)
        case rel => exact ⟨s2, hR2, hT3, hp2.trans HP.out, h2⟩
        case measure => omega
      · have RE := Lib.hid (fun q => readErr_any k s1 (wr.drewN q) (hR.drewN q))
        rw [he] at RE
        rw [he] at c4
        have HF : Hid (∀ w2 q p cap', Rd w2 k { s1 with er := .nilIface } → Turned k.blocks w w2 → s1.wp - s1.r ≤ cap' → (0 < s1.wp - s1.r → p = some ⟨k.C, s1.r, none⟩) → PeekPost k s n w (.returned (.tuple #[.slice p (s1.wp - s1.r) cap', errAt k.ae])) (w2.drewN q)) := by
          intro w2 q p cap' g1 g2 g3 g4
          have hpl := hR.pos_le
          exact ⟨_, p, _, _, _, g1.drewN q, g2.drewN q, hp, rfl, Nat.le_refl _, g3, g4, .inr ⟨by omega, by rw [← hp]; omega, rfl⟩⟩
        have HT := Lib.hid hT
        have NE : ∀ W, (binOp .eql 74 (errAt k.ae) .nilIface).run Tryd.prog W = .ok (.bool false) W := by intro W; simp [go_sem]
        have b2 : ¬ (4096 : Int) < (n : Int) := by omega
        have b3 : (0 : Int) ≤ (s1.r : Int) := by omega
        have e2 : IntKind.i64.wrap ((s1.r : Int) + ((s1.wp - s1.r : Nat) : Int)) = (s1.wp : Int) := by rw [IntWalk.i64_in _ (by omega)]; omega
        clear hg hT hp hR h he hi
        go_wp2_with fail
        go_quiet (fail)
        go_wp2_with fail
        go_quiet (fail)
        go_wp2_with fail
        go_at_call 89
        refine (RE.out _).mono ?_
        rintro e w2 ⟨rfl, hT2, hR2⟩
        have HX := Lib.hid (fun q p cap' => HF.out w2 q p cap' hR2 ((HT.out.drewN _).trans (hT2.mono (by simp [RK.blocks]))))
        clear c0 c1 c2 c3 c4 c5 c6
        obtain ⟨c0, c1, c2, c3, c4, c5, c6⟩ := hR2.cells
        dsimp only at c2 c3
        clear hT2 hR2 HF HT RE
        by_cases h4 : s1.r = 4096
        · rw [h4] at c2
          have h0 : s1.wp - s1.r = 0 := by omega
          rw [h0] at HX
          go_wp2_with fail
          go_quiet (fail)
          go_wp2_with fail
          go_ret2
          exact HX.out _ _ _ (Nat.zero_le _) (fun h => absurd h (Nat.lt_irrefl 0))
        · have h5 : ¬ 4096 = s1.r := fun e => h4 e.symm
          go_wp2_with fail
          go_quiet (fail)
          go_wp2_with fail
          go_ret2
          exact HX.out _ _ _ (by omega) (fun h => rfl)
    · have b0 : ¬ (((s1.wp - s1.r : Nat) : Int) < (n : Int)) := by omega
      have b2 : ¬ (4096 : Int) < (n : Int) := by omega
      have b3 : (0 : Int) ≤ (s1.r : Int) := by omega
      have e2 : IntKind.i64.wrap ((s1.r : Int) + (n : Int)) = ((s1.r + n : Nat) : Int) := by rw [IntWalk.i64_in _ (by omega)]; omega
      have HF : Hid (∀ q q2 p m cap', m = n → n ≤ cap' → (0 < n → p = some ⟨k.C, s1.r, none⟩) → PeekPost k s n w (.returned (.tuple #[.slice p m cap', .nilIface])) ((wr.drewN q).drewN q2)) := by
        intro q q2 p m cap' e g3 g4
        subst e
        exact ⟨_, p, _, _, _, (hR.drewN q).drewN q2, (hT.drewN q).drewN q2, hp, rfl, by omega, g3, g4, .inl ⟨rfl, rfl⟩⟩
      clear hR hT hp hg h
      have h5 : ¬ 4096 = s1.r := by omega
      go_wp2_with fail
      go_quiet (fail)
      go_wp2_with fail
      go_quiet (fail)
      go_wp2_with fail
      go_quiet (fail)
      go_wp2_with fail
      go_ret2
      refine HF.out _ _ _ _ _ ?_ ?_ (fun h => rfl)
      · omega
      · omega
end Go.Proofs.YthobojpbdeepoaaDoor
