/-
  The contract of textproto's skipSpace.
-/
import Derived.Test.YthobojpbdeepoaaDoorPeek
import Derived.Test.YthobojpbdeepoaaDoorBlank
namespace Go.Proofs.YthobojpbdeepoaaDoor
open Go.RowKit

/-- What skipSpace leaves: m blanks are taken, no blank follows. -/
def SkipPost (k : RK) (s : RS) (w : World) (e : Ending) (w' : World) : Prop :=
  ∃ (s' : RS) (m : Nat), Rd w' k s' ∧ Turned k.blocks w w' ∧ e = .returned (.int .i64 (m : Int)) ∧ s'.pos = s.pos + m ∧ ((k.d.drop s.pos).take m).all blB = true ∧ (s'.pos = k.d.length ∨ ∃ c, k.d[s'.pos]? = some c ∧ blB c = false)

set_option maxRecDepth 100000 in
set_option maxHeartbeats 4000000 in
theorem skipSpace_any (k : RK) (s : RS) (w : World) (T : Nat) (h : Rd w k s) (hT : Tp w k T) :
    Calls Tryd.prog 101 #[.pointer (some ⟨T, 0, none⟩)] w (SkipPost k s w) := by
  go_enter Tryd.func101, Tryd.ntmps101
  go_wp2_with fail
  go_loopg [3] (k.d.length - s.pos) (fun g v wr => ∃ (s1 : RS) (m : Nat), Rd wr k s1 ∧ Turned k.blocks w wr ∧ v = .int .i64 (m : Int) ∧ s1.pos = s.pos + m ∧ ((k.d.drop s.pos).take m).all blB = true ∧ k.d.length - s1.pos ≤ g)
  case atStart => exact ⟨s, 0, h, Turned.refl _ _, rfl, rfl, rfl, Nat.le_refl _⟩
  case round =>
    obtain ⟨s1, m, hR, hTu, rfl, hp, hall, hg⟩ := hrel
    have hTr := hT.keep h hTu
    obtain ⟨buf, hTb⟩ := hTr.blk
    have cT : wr.cell? ⟨T, 0, none⟩ = some (.pointer (some ⟨k.B, 0, none⟩)) := by rw [hTb.cell]; rfl
    have hpl := hR.pos_le
    have hil := hR.il
    have hdl := h.dl
    by_cases hd : s1.pos = k.d.length
    · have BL := readByte_eof k s1 wr hR hd
      go_wp2_with fail
      go_at_call 74
      refine BL.mono ?_
      rintro e w1 ⟨rfl, hT2, s2, hR2, hp2⟩
      have HF : Hid (SkipPost k s w (.returned (.int .i64 (m : Int))) w1) := ⟨s2, m, hR2, hTu.trans hT2, rfl, by omega, hall, .inl hp2⟩
      clear h hT hR hTu hp hall hg hTr hTb BL hT2 hR2
      go_wp2_with fail
      go_ret
      exact HF.out
    · obtain ⟨c, hc⟩ : ∃ c, k.d[s1.pos]? = some c := ⟨_, List.getElem?_eq_getElem (by omega)⟩
      have BL := readByte_some k s1 wr hR c hc
      cases hb : blB c
      · have hnb : ((c.toNat : Int) != 32) = true ∧ ((c.toNat : Int) != 9) = true := by
          unfold blB blI at hb
          simpa using hb
        obtain ⟨t1, t2⟩ := hnb
        go_wp2_with fail
        go_at_call 74
        refine BL.mono ?_
        rintro e w1 ⟨rfl, hT2, s2, hR2, hp2, hl2, h12⟩
        have UB := unreadByte_any k s2 w1 hR2 c hl2 h12 (by omega) (by rw [hp2]; exact hc)
        have hTr1 := hTr.keep hR hT2
        obtain ⟨buf1, hTb1⟩ := hTr1.blk
        have cT1 : w1.cell? ⟨T, 0, none⟩ = some (.pointer (some ⟨k.B, 0, none⟩)) := by rw [hTb1.cell]; rfl
        have HF : Hid (∀ w2 s3, Turned k.blocks w1 w2 → Rd w2 k s3 → s3.pos + 1 = s2.pos → SkipPost k s w (.returned (.int .i64 (m : Int))) w2) := by
          intro w2 s3 g1 g2 g3
          have e3 : s3.pos = s1.pos := by omega
          exact ⟨s3, m, g2, (hTu.trans hT2).trans g1, rfl, by omega, hall, .inr ⟨c, by rw [e3]; exact hc, hb⟩⟩
        clear h hT hR hTu hp hall hg hTr hTb BL hT2 hR2 hl2 h12 hTr1 hTb1 hc hb cT
        go_wp2_with fail
        go_at_call 114
        refine UB.mono ?_
        rintro e w2 ⟨rfl, hT3, s3, hR3, hp3⟩
        have HX := Lib.hid (HF.out w2 s3 hT3 hR3 hp3)
        clear hT3 hR3 hp3 HF UB
        go_wp2_with fail
        go_ret
        exact HX.out
      · have hnb : ((c.toNat : Int) != 32) = false ∨ (((c.toNat : Int) != 32) = true ∧ ((c.toNat : Int) != 9) = false) := by
          unfold blB blI at hb
          simp only [Bool.or_eq_true, beq_iff_eq] at hb
          simp only [bne_iff_ne, bne_eq_false_iff_eq]
          omega
        go_wp2_with fail
        go_at_call 74
        refine BL.mono ?_
        rintro e w1 ⟨rfl, hT2, s2, hR2, hp2, _, _⟩
        have hall1 : ((k.d.drop s.pos).take (m + 1)).all blB = true := by
          rw [List.take_add_one, List.getElem?_drop, ← hp, hc, List.all_append, hall]
          simp [hb]
        have HN := Lib.hid hall1
        have HS : Hid (Rd w1 k s2 ∧ Turned k.blocks w w1 ∧ s2.pos = s.pos + (m + 1)) := ⟨hR2, hTu.trans hT2, by omega⟩
        have b4 : IntKind.i64.wrap ((m : Int) + 1) = ((m + 1 : Nat) : Int) := by rw [IntWalk.i64_in _ (by omega)]; omega
        clear h hT hR hTu hall hall1 hTr hTb BL hT2 hR2 hc hb cT
        rcases hnb with t1 | ⟨t1, t2⟩
        all_goals
          go_wp2_with fail
          go_roundg (gk - 1)
          case rel => exact ⟨s2, m + 1, HS.out.1, HS.out.2.1, rfl, HS.out.2.2, HN.out, by omega⟩
          case measure => omega
end Go.Proofs.YthobojpbdeepoaaDoor
