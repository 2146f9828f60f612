/-
  The contract of upcomingHeaderKeys: some number from 0 to 1000; nothing is read.
-/
import Derived.Test.YthobojpbdeepoaaDoorCut
import Derived.Deep.DeepCutAuto
import Derived.Lib.SlBytesConst
import Derived.Lib.SmallJoins
import Derived.Deep.CutBlock
namespace Go.Proofs.YthobojpbdeepoaaDoor
open Go.RowKit

/-- What upcomingHeaderKeys answers. -/
def UpPost (k : RK) (s : RS) (w : World) (e : Ending) (w' : World) : Prop :=
  ∃ (n : Nat) (s' : RS), n ≤ 1000 ∧ Rd w' k s' ∧ Turned k.blocks w w' ∧ s'.pos = s.pos ∧ e = .returned (.int .i64 (n : Int))

theorem rowP_new {w w' : World} {q : Option Addr} {l : List UInt8} (h : RowP w q l) (ht : Turned [] w w') : RowP w' q l := by
  rcases h with h | ⟨b, off, h1, h2⟩
  · exact .inl h
  · refine .inr ⟨b, off, h1, fun j u hj => ?_⟩
    have hc := h2 j u hj
    exact (ht.cell (p := ⟨b, off + j, none⟩) (World.block_lt_of_cell? _ _ hc) (by simp)).trans hc
theorem rd_new {w w' : World} {k : RK} {s : RS} (h : Rd w k s) (ht : Turned [] w w') : Rd w' k s := h.keepOff ht (by simp) (by simp) (by simp) (fun x hx => by cases hx)
/-- A constant's bytes. -/
theorem conv_lit (W : World) (x : Value) : (convert 22 22 (.slice (some ⟨W.heap.size, 0, none⟩) 1 1)).run Tryd.prog (W.alloc (.cells #[x] 5)) = .ok (.slice (some ⟨W.heap.size, 0, none⟩) 1 1) (W.alloc (.cells #[x] 5 (1, 2))) :=
  Lib.run_convert_bytes_const W 22 5 #[x] 1 1 Tryd.underlying22 Tryd.underlying5
/-- One line is cut off. -/
theorem cut_next {b off cap : Nat} {l : List UInt8} {c : UInt8} {w w' : World} {e : Ending} (h : CutPost b off cap l c w e w') (hr : Row8 w b off l) (h0 : l ≠ []) (hc : l.length ≤ cap) :
    ∃ ll q l' c' fb, e = .returned (.tuple #[.slice (some ⟨b, off, none⟩) ll cap, .slice q l'.length c', .bool fb]) ∧ ll ≤ l.length ∧ RowP w' q l' ∧ l'.length < l.length ∧ l'.length ≤ c' ∧ ∃ n, w' = w.drewN n := by
  obtain ⟨⟨n, rfl⟩, hor⟩ := h
  have hpos : 0 < l.length := List.length_pos_iff.2 h0
  rcases hor with ⟨j, qa, hj, hno, rfl, hq⟩ | ⟨hno, rfl⟩
  · have hjl := (List.getElem?_eq_some_iff.1 hj).1
    refine ⟨j, some qa, l.drop (j + 1), _, true, by rw [List.length_drop], by omega, ?_, by rw [List.length_drop]; omega, by rw [List.length_drop]; omega, n, rfl⟩
    by_cases hz : l.drop (j + 1) = []
    · exact .inl hz
    · have : 0 < (l.drop (j + 1)).length := List.length_pos_iff.2 hz
      rw [List.length_drop] at this
      refine .inr ⟨b, off + (j + 1), by rw [hq this], fun i u hi => ?_⟩
      rw [List.getElem?_drop] at hi
      have := hr _ u hi
      rw [Nat.add_assoc]
      exact this
  · exact ⟨l.length, none, [], 0, false, rfl, Nat.le_refl _, .inl rfl, hpos, Nat.le_refl _, n, rfl⟩

set_option maxRecDepth 100000 in
set_option maxHeartbeats 4000000 in
theorem upcoming_any (k : RK) (s : RS) (w : World) (T : Nat) (h : Rd w k s) (hT : Tp w k T) :
    Calls Tryd.prog 102 #[.pointer (some ⟨T, 0, none⟩)] w (UpPost k s w) := by
  have PK := peek_any k s w 1 h (by decide) (by decide)
  go_enter Tryd.func102, Tryd.ntmps102
  obtain ⟨buf, hTb⟩ := hT.blk
  have cT : w.cell? ⟨T, 0, none⟩ = some (.pointer (some ⟨k.B, 0, none⟩)) := by rw [hTb.cell]; rfl
  go_wp2_with fail
  go_at_call 98
  refine PK.mono ?_
  rintro e w1 ⟨s1, p1, m1, cap1, er1, hR1, hT1, hp1, rfl, _, _, _, hor⟩
  have hTp1 := hT.keep h hT1
  obtain ⟨buf1, hTb1⟩ := hTp1.blk
  have cT1 : w1.cell? ⟨T, 0, none⟩ = some (.pointer (some ⟨k.B, 0, none⟩)) := by rw [hTb1.cell]; rfl
  have BQ := buffered_any k s1 w1 hR1
  have hrw1 := hR1.rw
  have hwl1 := hR1.wl
  clear PK cT hTb hor
  go_wp2_with fail
  go_at_call 97
  refine BQ.mono ?_
  rintro e w2 ⟨rfl, q2, rfl⟩
  clear BQ
  obtain ⟨n, hn⟩ : ∃ n : Nat, (s1.wp : Int) - (s1.r : Int) = (n : Int) := ⟨s1.wp - s1.r, by omega⟩
  rw [hn]
  have HNN : Hid (n = s1.wp - s1.r) := by show _ = _; omega
  clear hn
  by_cases h0 : n = 0
  · have b0 : ((n : Int) == 0) = true := by simp [h0]
    have HF : Hid (∀ q, UpPost k s w (.returned (.int .i64 0)) (w1.drewN q)) := fun q => ⟨0, s1, by omega, hR1.drewN q, hT1.drewN q, hp1, rfl⟩
    clear hR1 hT1 hTp1 hTb1 h hT
    go_wp2_with fail
    go_ret
    exact HF.out _
  · have b0 : ((n : Int) == 0) = false := by simp; omega
    have cT2 : (w1.drewN q2).cell? ⟨T, 0, none⟩ = some (.pointer (some ⟨k.B, 0, none⟩)) := cT1
    have PH := peek_have k s1 (w1.drewN q2) n (hR1.drewN q2) (by omega) (by rw [HNN.out]; exact Nat.le_refl _)
    go_wp2_with fail
    go_at_call 98
    refine PH.mono ?_
    rintro e w3 ⟨s3, cap3, hR3, hT3, hp3, hr3, hw3, _, hcap3, rfl⟩
    have hTu3 : Turned k.blocks w w3 := (hT1.drewN q2).trans (hT3.mono (by simp [RK.blocks]))
    have hrow : Row8 w3 k.C s1.r ((k.d.drop s3.pos).take n) := fun j u hj => by
      rw [List.getElem?_take] at hj
      split at hj
      · rename_i hjn
        rw [List.getElem?_drop] at hj
        have hnn := HNN.out
        have := hR3.buf j u (by omega) hj
        rw [hR3.cb.cell, ← hr3]
        simpa using this
      · cases hj
    have hlen : ((k.d.drop s3.pos).take n).length = n := by
      have h5 := hR3.pos_le
      have h6 := hR3.il
      have hnn := HNN.out
      rw [List.length_take, List.length_drop]
      omega
    have H0 : Hid (∃ l : List UInt8, l.length = n ∧ RowP w3 (some ⟨k.C, s1.r, none⟩) l ∧ Rd w3 k s3 ∧ Turned k.blocks w w3 ∧ s3.pos = s.pos) := ⟨_, hlen, .inr ⟨_, _, rfl, hrow⟩, hR3, hTu3, by rw [hp3]; exact hp1⟩
    have HN4 : Hid (n ≤ 4096 ∧ n ≤ cap3) := ⟨by rw [HNN.out]; omega, hcap3⟩
    clear PH hR1 hT1 hTp1 hTb1 cT1 cT2 hR3 hT3 hTu3 hrow hlen h hT hrw1 hwl1 hr3 hw3
    go_wp2_with fail
    go_loopg [2, 4] n (fun g u2 u4 wr => ∃ (N : Nat) (q : Option Addr) (l : List UInt8) (c : Nat), u2 = .int .i64 (N : Int) ∧ N ≤ 1000 ∧ u4 = .slice q l.length c ∧ l.length ≤ c ∧ l.length ≤ 4096 ∧ RowP wr q l ∧ Rd wr k s3 ∧ Turned k.blocks w wr ∧ s3.pos = s.pos ∧ l.length ≤ g)
    case atStart =>
      obtain ⟨l, rfl, g1, g2, g3, g4⟩ := H0.out
      exact ⟨0, _, l, _, rfl, by omega, rfl, HN4.out.2, HN4.out.1, g1, g2, g3, g4, Nat.le_refl _⟩
    case round =>
      clear H0 HN4
      obtain ⟨N, q, l, c, rfl, hN, rfl, hlc, hl4, hrp, hR, hTu, hps, hg⟩ := hrel
      have HF : Hid (∀ x : Nat, x ≤ 1000 → ∀ w', Turned [] wr w' → UpPost k s w (.returned (.int .i64 (x : Int))) w') := fun x hx w' ht => ⟨x, s3, hx, rd_new hR ht, hTu.trans (ht.mono (by simp)), hps, rfl⟩
      by_cases hl0 : l = []
      · subst hl0
        have HFF := HF.out N hN wr (Turned.refl _ _)
        have HFG := Lib.hid HFF
        clear HFF hrp hR hTu HF
        go_wp2_with fail
        go_ret
        exact HFG.out
      · have hpos : 0 < l.length := List.length_pos_iff.2 hl0
        have b1 : (0 : Int) < (l.length : Int) := by omega
        by_cases hN1 : N < 1000
        · have b2 : (N : Int) < 1000 := by omega
          rcases hrp with hz | ⟨b, off, rfl, hrow⟩
          · exact absurd hz hl0
          have hrow2 : Row8 (wr.alloc (.cells #[.int .u8 10] 5 (1, 2))) b off l := by
            rcases rowP_new (.inr ⟨b, off, rfl, hrow⟩ : RowP wr (some ⟨b, off, none⟩) l) ((Turned.refl [] wr).alloc (.cells #[.int .u8 10] 5 (1, 2))) with hz | ⟨b', off', he, hr'⟩
            · exact absurd hz hl0
            · injection he with he
              injection he with e1 e2
              subst e1 e2
              exact hr'
          have hsep : (wr.alloc (.cells #[.int .u8 10] 5 (1, 2))).cell? ⟨wr.heap.size, 0, none⟩ = some (.int .u8 ((10 : UInt8).toNat : Int)) := World.cell?_alloc_mark wr #[.int .u8 10] 5 (1, 2) 0
          have BC := bytesCut_any b off c wr.heap.size 1 l 10 (wr.alloc (.cells #[.int .u8 10] 5 (1, 2))) hrow2 hsep hlc (by omega)
          have HNX := Lib.hid (fun e w' (hp : CutPost b off c l 10 (wr.alloc (.cells #[.int .u8 10] 5 (1, 2))) e w') => cut_next hp hrow2 hl0 hlc)
          obtain ⟨x0, hx0⟩ : ∃ x, l[0]? = some x := ⟨_, List.getElem?_eq_getElem hpos⟩
          have hc0 := hrow2 0 x0 hx0
          rw [Nat.add_zero] at hc0
          have HKP : Hid (∀ w', Turned [] wr w' → Rd w' k s3 ∧ Turned k.blocks w w' ∧ s3.pos = s.pos) := fun w' ht => ⟨rd_new hR ht, hTu.trans (ht.mono (by simp)), hps⟩
          have HT0 : Hid (∀ m, Turned [] wr ((wr.alloc (.cells #[.int .u8 10] 5 (1, 2))).drewN m)) := fun m => ((Turned.refl [] wr).alloc _).drewN m
          have HG : Hid (l.length ≤ gk ∧ l.length ≤ 4096) := ⟨hg, hl4⟩
          clear hrow hrow2 hsep hR hTu hx0 hg hl4
          have hcv := conv_lit wr (.int .u8 10)
          go_wp2_with fail
          go_at_call 104
          refine BC.mono ?_
          intro e w5 hp
          obtain ⟨ll, q5, l5, c5, fb, rfl, hll, hrp5, hlt5, hlc5, m5, rfl⟩ := HNX.out e w5 hp
          have HT5 := Lib.hid (HT0.out m5)
          have hc5 : ((wr.alloc (.cells #[.int .u8 10] 5 (1, 2))).drewN m5).cell? ⟨b, off, none⟩ = some (.int .u8 (x0.toNat : Int)) := hc0
          have HREL : Hid (∀ N' : Nat, N' ≤ 1000 → ∃ (N : Nat) (q : Option Addr) (l : List UInt8) (c : Nat), Value.int .i64 (N' : Int) = .int .i64 (N : Int) ∧ N ≤ 1000 ∧ Value.slice q5 l5.length c5 = .slice q l.length c ∧ l.length ≤ c ∧ l.length ≤ 4096 ∧ RowP ((wr.alloc (.cells #[.int .u8 10] 5 (1, 2))).drewN m5) q l ∧
              Rd ((wr.alloc (.cells #[.int .u8 10] 5 (1, 2))).drewN m5) k s3 ∧ Turned k.blocks w ((wr.alloc (.cells #[.int .u8 10] 5 (1, 2))).drewN m5) ∧ s3.pos = s.pos ∧ l.length ≤ gk - 1) := by
            intro N' hN'
            obtain ⟨k1, k2, k3⟩ := HKP.out _ HT5.out
            have := HG.out
            exact ⟨N', q5, l5, c5, rfl, hN', rfl, hlc5, by omega, hrp5, k1, k2, k3, by omega⟩
          have HM : Hid (0 < gk) := by have := HG.out; show _ < _; omega
          have HFN := Lib.hid (fun x hx => HF.out x hx _ HT5.out)
          have b3 : ¬ (ll : Int) < 0 := by omega
          have hllc : ll ≤ c := by omega
          clear BC HNX hp hrp5 hlt5 hlc5 hc0 HT0 HKP HF HG hcv hll
          by_cases hz : ll = 0
          · subst hz
            go_wp2_with fail
            go_ret
            exact HFN.out N hN
          · have b4 : ((ll : Int) == 0) = false := by simp; omega
            have b5 : (0 : Int) < (ll : Int) := by omega
            by_cases h13 : ll = 1 ∧ x0 = 13
            · obtain ⟨rfl, rfl⟩ := h13
              go_wp2_with fail
              go_ret
              exact HFN.out N hN
            · have HNO := Lib.hid h13
              clear h13
              have HR0 := HREL.out N (by omega)
              have HR1 := HREL.out (N + 1) (by omega)
              have HRA := Lib.hid HR0
              have HRB := Lib.hid HR1
              have e1 : IntKind.i64.wrap ((N : Int) + 1) = (N : Int) + 1 := IntWalk.i64_in _ (by omega)
              clear HR0 HR1 HREL HFN
              have blank : ((ll : Int) == 1 && ((x0.toNat : Int) == 13)) = false := by
                cases h1 : ((ll : Int) == 1)
                · rfl
                · cases h2 : ((x0.toNat : Int) == 13)
                  · rfl
                  · exfalso
                    refine HNO.out ⟨by have := eq_of_beq h1; omega, ?_⟩
                    rw [← UInt8.toNat_inj]
                    have := eq_of_beq h2
                    show x0.toNat = 13
                    omega
              rcases (show ((ll : Int) == 1) = false ∨ (((ll : Int) == 1) = true ∧ ((x0.toNat : Int) == 13) = false) by
                cases h1 : ((ll : Int) == 1)
                · exact .inl rfl
                · rw [h1] at blank
                  exact .inr ⟨rfl, by simpa using blank⟩) with g1 | ⟨g1, g2⟩
              all_goals
                clear blank
                cases g3 : ((x0.toNat : Int) == 32)
                · cases g4 : ((x0.toNat : Int) == 9)
                  · go_wp2_with fail
                    go_roundg (gk - 1)
                    case rel => exact HRB.out
                    case measure => have := HM.out; omega
                  · go_wp2_with fail
                    go_roundg (gk - 1)
                    case rel => exact HRA.out
                    case measure => have := HM.out; omega
                · go_wp2_with fail
                  go_roundg (gk - 1)
                  case rel => exact HRA.out
                  case measure => have := HM.out; omega
        · have b2 : ¬ (N : Int) < 1000 := by omega
          have HFF := HF.out N hN wr (Turned.refl _ _)
          have HFG := Lib.hid HFF
          clear HFF hrp hR hTu HF
          go_wp2_with fail
          go_ret
          exact HFG.out
end Go.Proofs.YthobojpbdeepoaaDoor
