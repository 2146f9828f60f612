/-
  The contract of bufio.Writer's Write of a short row.
-/
import Derived.Test.YthobojpbdeepoaaDoorWriteByte
namespace Go.Proofs.YthobojpbdeepoaaDoor
open Go.RowKit

section
variable {w w1 : World} {K V W C : Nat} {v : Value} {lb lw ps : List UInt8}
/-- More bytes in the row: behind a copy into it. -/
theorem Wr.copied (h : Wr w K V W C v lb lw) (hfit : lw.length + ps.length ≤ 4096) {cur : List Value} (hc : Blk w C 5 cur.toArray) (hcl : cur.length = 4096) (hcx : cur.take lw.length = by8 lw) (hT : Turned [C] w w1) (hC : Blk w1 C 5 (splice cur lw.length (by8 ps)).toArray) :
    (w1.cell? ⟨W, 0, none⟩ = some .nilIface ∧ w1.cell? ⟨W, 1, none⟩ = some (.slice (some ⟨C, 0, none⟩) 4096 4096) ∧ w1.cell? ⟨W, 2, none⟩ = some (.int .i64 (lw.length : Int)) ∧ w1.cell? ⟨W, 3, none⟩ = some (.iface 85 (.pointer (some ⟨V, 0, none⟩)))) ∧ w1.frozen? ⟨W, 2, none⟩ = false ∧
    Hid (Wr (w1.setCell ⟨W, 2, none⟩ (.int .i64 ((lw.length : Int) + (ps.length : Int)))) K V W C v lb (lw ++ ps) ∧ Turned ([V, W, C] ++ ownL v) w (w1.setCell ⟨W, 2, none⟩ (.int .i64 ((lw.length : Int) + (ps.length : Int))))) := by
  have hwc := h.wc
  have h8 : (by8 ps).length = ps.length := by8_length ps
  have hW1 := hT.blk h.wb (by simpa using hwc)
  obtain ⟨lr, hv⟩ := h.vb.blk
  have hT2 : Turned [W, C] w (w1.setCell ⟨W, 2, none⟩ (.int .i64 ((lw.length : Int) + (ps.length : Int)))) := (hT.mono (by simp)).setCell (.inl (by simp)) _
  refine ⟨⟨by rw [hW1.cell]; rfl, by rw [hW1.cell]; rfl, by rw [hW1.cell]; rfl, by rw [hW1.cell]; rfl⟩, hW1.frozen 2, ⟨⟨h.vb.kv, ⟨lr, hT2.blk hv (by simp; exact ⟨h.vw, h.vc⟩)⟩, own_keepS h.vb.own hT2 (fun x hx he => ?_), h.vb.nz⟩, ?_, ⟨splice cur lw.length (by8 ps), hC.far (by simpa using hwc.symm) _, ?_, ?_⟩, by rw [List.length_append]; exact hfit, h.kw, h.kc, h.ne⟩, hT2.mono (fun x hx => by simp at hx ⊢; omega)⟩
  · simp at hx
    rcases hx with rfl | rfl
    · refine h.wo ?_
      cases v <;> simp [Value.ownBlock] at he
      rename_i a n c
      cases a
      · simp at he
      · simp at he
        simp [ownL, he]
    · exact h.ne he.symm
  · have h2 := hW1.set_ 2 (.int .i64 ((lw.length : Int) + (ps.length : Int)))
    simpa using h2
  · rw [length_splice _ _ _ (by omega), hcl]
  · have e : by8 (lw ++ ps) = by8 lw ++ by8 ps := by unfold by8; rw [List.map_append]
    unfold splice
    rw [e, hcx, List.length_append, ← List.append_assoc, List.take_left' (by rw [List.length_append, by8_length, by8_length])]
end

theorem buffd_any (K V W C : Nat) (v : Value) (lb lw : List UInt8) (w : World) (h : Wr w K V W C v lb lw) :
    Calls Tryd.prog 129 #[.pointer (some ⟨W, 0, none⟩)] w fun e w' => e = .returned (.int .i64 (lw.length : Int)) ∧ w = w' := by
  obtain ⟨c0, c1, c2, c3⟩ := h.cells
  clear h
  go_enter Tryd.func129, Tryd.ntmps129
  go_wp2_with fail
  go_ret
  exact ⟨rfl, rfl⟩

/-- What a round of Write's loop keeps. -/
structure WRR (w : World) (K V W C P : Nat) (v : Value) (l cs : List UInt8) (g : Nat) (v1 : Value) (lb lw ps : List UInt8) (o : Nat) (wr : World) : Prop where
  wt : Wr wr K V W C v1 lb lw
  eq : lb ++ lw ++ ps = l ++ cs
  row : Row8 wr P o ps
  tu : Turned ([V, W, C] ++ ownL v) w wr
  own : OwnNew w v v1
  le : ps.length ≤ cs.length
  pos : 1 ≤ ps.length
  fit : g = 0 → lw.length + ps.length ≤ 4096
  g1 : g ≤ 1

set_option maxRecDepth 100000 in
set_option maxHeartbeats 8000000 in
theorem writeRow_any (K V W C : Nat) (v : Value) (l cs : List UInt8) (P o0 c0 : Nat) (w : World) (h : Wl w K V W C v l) (hr : Row8 w P o0 cs) (hP : P ∉ [V, W, C] ++ ownL v) (hPs : P < w.heap.size) (hn : 1 ≤ cs.length) (hn2 : cs.length ≤ 4096) (hcc : cs.length ≤ c0) (hcm : c0 ≤ 1099511627776) (hl : l.length + cs.length ≤ 1073741824) :
    Calls Tryd.prog 113 #[.pointer (some ⟨W, 0, none⟩), .slice (some ⟨P, o0, none⟩) cs.length c0] w (WPost K V W C v (l ++ cs) (.tuple #[.int .i64 (cs.length : Int), .nilIface]) w) := by
  have h0 : ∃ lb lw, WRR w K V W C P v l cs 1 v lb lw cs o0 w := by
    obtain ⟨lb, lw, h1, rfl⟩ := h
    exact ⟨lb, lw, h1, rfl, hr, Turned.refl _ _, OwnNew.refl _ _, Nat.le_refl _, hn, (fun h => by cases h), Nat.le_refl _⟩
  have hll : l.length + cs.length = (l ++ cs).length := by rw [List.length_append]
  clear h hr
  go_enter Tryd.func113, Tryd.ntmps113
  go_wp2_with fail
  go_loopg [1, 4] 1 (fun g p nn wr => ∃ v1 lb lw ps o c, WRR w K V W C P v l cs g v1 lb lw ps o wr ∧ p = .slice (some ⟨P, o, none⟩) ps.length c ∧ nn = .int .i64 ((cs.length - ps.length : Nat) : Int) ∧ ps.length ≤ c ∧ c ≤ 1099511627776)
  case atStart =>
    obtain ⟨lb, lw, h1⟩ := h0
    exact ⟨v, lb, lw, cs, o0, c0, h1, rfl, by simp, hcc, hcm⟩
  case round =>
    obtain ⟨v1, lb, lw, ps, o, c, hr, rfl, rfl, hpc, hcc2⟩ := hrel
    have AV := avail_any K V W C v1 lb lw wr hr.wt
    obtain ⟨k0, k1, k2, k3⟩ := hr.wt.cells
    have hlw := hr.wt.lwl
    have hpos := hr.pos
    have hle := hr.le
    obtain ⟨cur, hc, hcl, hcx⟩ := hr.wt.cb
    have hPn := hP
    simp at hPn
    have hPC : P ≠ C := hPn.2.2.1
    have hT0 := hr.tu.size
    by_cases hfit : lw.length + ps.length ≤ 4096
    · have t1 : ¬ 4096 - (lw.length : Int) < (ps.length : Int) := by omega
      have HC := Lib.hid (fun q w1 => (hr.wt.drewN q).copied (w1 := w1) hfit (hc.drewN q) hcl hcx)
      have HF : Hid (∀ q W1, (Wr W1 K V W C v1 lb (lw ++ ps) ∧ Turned ([V, W, C] ++ ownL v1) (wr.drewN q) W1) → WPost K V W C v (l ++ cs) (.tuple #[.int .i64 (cs.length : Int), .nilIface]) w (.returned (.tuple #[.int .i64 (cs.length : Int), .nilIface])) W1) := by
        rintro q W1 ⟨h1, h2⟩
        have hT1 : Turned ([V, W, C] ++ ownL v) w W1 := hr.tu.own hr.own (((Turned.refl _ _).drewN q).trans h2)
        exact ⟨rfl, v1, ⟨lb, lw ++ ps, h1, by rw [← hr.eq, List.append_assoc]⟩, hT1, hr.own⟩
      have SN : Hid ((by8 ps).length = Nat.min ps.length (4096 - lw.length)) := by
        show _ = min _ _
        rw [by8_length]; omega
      have SF : Hid (lw.length + (by8 ps).length ≤ cur.length) := by show _ ≤ _; rw [by8_length]; omega
      have SC : Hid (∀ q j v, (by8 ps)[j]? = some v → (wr.drewN q).cell? ((⟨P, o, none⟩ : Addr).add j) = some v) := by
        intro q j v hj
        unfold by8 at hj
        rw [List.getElem?_map] at hj
        obtain ⟨x, hx, rfl⟩ := Option.map_eq_some_iff.1 hj
        rw [Addr.add_lit2]
        exact hr.row j x hx
      have S1 := Lib.hid (by8_one ps)
      have SD := Lib.hid (fun q => hc.drewN q)
      have SL : Hid ((by8 ps).length = ps.length) := by8_length ps
      have b0 : (0 : Int) ≤ (lw.length : Int) := by omega
      have b1 : (lw.length : Int) ≤ 4096 := by omega
      have b2 : ¬ 4096 = lw.length := by omega
      have e1 : IntKind.i64.wrap ((lw.length : Int) + (ps.length : Int)) = (lw.length : Int) + (ps.length : Int) := IntWalk.i64_in _ (by omega)
      obtain ⟨m, hm⟩ : ∃ m : Nat, m = cs.length - ps.length := ⟨_, rfl⟩
      rw [← hm]
      have e2 : IntKind.i64.wrap ((m : Int) + (ps.length : Int)) = (cs.length : Int) := (IntWalk.i64_in _ (by omega)).trans (by omega)
      clear hr hc hcx hP hPn hm hll
      go_wp2_with (go_at_call 128; (with_reducible refine AV.mono ?_); rintro e w1 ⟨rfl, q, rfl⟩)
      go_region_held3 (fun w' => w'.cell? ⟨W, 1, none⟩ = some (.slice (some ⟨C, 0, none⟩) 4096 4096) ∧ w'.cell? ⟨W, 2, none⟩ = some (.int .i64 (lw.length : Int))) (go_keep)
        (first | (refine step_copy8 rfl (.tmp 80) (.tmp 81) 22 22 rfl 5 Tryd.underlying22 u8_size (some ⟨C, lw.length, none⟩) (some ⟨P, o, none⟩) (4096 - lw.length) (4096 - lw.length) ps.length c (by simp [Act.eval]) (by simp [Act.eval]) C lw.length cur 5 (SD.out (q + 1)) (by8 ps) SN.out (fun _ => ⟨rfl, _, rfl, SC.out (q + 1)⟩) SF.out S1.out ?_; intro w2 hC2 hT2; rw [SL.out]; obtain ⟨⟨d0, d1, d2, d3⟩, g2, hW⟩ := HC.out (q + 1) _ hT2.out hC2.out))
      have HW := Lib.hid (HF.out _ _ hW.out)
      clear hC2 hT2 hW HC HF SN SF SC S1 SD
      go_wp2_with fail
      go_ret2
      exact HW.out
    · have t1 : 4096 - (lw.length : Int) < (ps.length : Int) := by omega
      obtain ⟨a, ha1, ha2⟩ : ∃ a, a + lw.length ≤ 4096 ∧ 4096 ≤ a + lw.length := ⟨4096 - lw.length, by omega, by omega⟩
      have hta : (ps.take a).length = a := by rw [List.length_take]; omega
      by_cases hfull : lw.length = 4096
      · have HC : Hid (∀ q w1, Turned [C] (wr.drewN q) w1 → Blk w1 C 5 (splice cur 0 []).toArray → (w1.cell? ⟨W, 0, none⟩ = some .nilIface ∧ w1.cell? ⟨W, 1, none⟩ = some (.slice (some ⟨C, 0, none⟩) 4096 4096) ∧ w1.cell? ⟨W, 2, none⟩ = some (.int .i64 4096) ∧ w1.cell? ⟨W, 3, none⟩ = some (.iface 85 (.pointer (some ⟨V, 0, none⟩)))) ∧ w1.frozen? ⟨W, 2, none⟩ = false ∧
            Hid (Wr (w1.setCell ⟨W, 2, none⟩ (.int .i64 4096)) K V W C v1 lb lw ∧ Turned ([V, W, C] ++ ownL v1) (wr.drewN q) (w1.setCell ⟨W, 2, none⟩ (.int .i64 4096)))) := by
          intro q w1 h1 h2
          have h3 := (hr.wt.drewN q).copied (ps := []) (w1 := w1) (by simp; omega) (hc.drewN q) hcl hcx h1 (by rw [splice_nil] at h2; rw [show by8 [] = [] from rfl, splice_nil]; exact h2)
          rw [hfull] at h3
          simpa using h3
        have HF : Hid (∀ q W1 e W2, (Wr W1 K V W C v1 lb lw ∧ Turned ([V, W, C] ++ ownL v1) (wr.drewN q) W1) → FlushPost K V W C v1 lb lw W1 e W2 → e = .returned .nilIface ∧ Hid (∃ v2, WRR w K V W C P v l cs 0 v2 (lb ++ lw) [] ps o W2)) := by
          rintro q W1 e W2 ⟨h1, h2⟩ ⟨rfl, v2, h3, h4, h5⟩
          have hTq : Turned ([V, W, C] ++ ownL v1) wr W1 := ((Turned.refl _ _).drewN q).trans h2
          have hT1 : Turned ([V, W, C] ++ ownL v) w W1 := hr.tu.own hr.own hTq
          have hT2 := hT1.own hr.own h4
          have ho2 : OwnNew w v v2 := hr.own.trans hT1.size h5
          refine ⟨rfl, v2, h3, ?_, ?_, hT2, ho2, hr.le, hr.pos, fun _ => by show 0 + _ ≤ _; omega, by omega⟩
          · rw [List.append_nil, ← hr.eq]
          · have e1 : W2.heap[P]? = w.heap[P]? := hT2.block P hPs hP
            have e2 : wr.heap[P]? = w.heap[P]? := hr.tu.block P hPs hP
            exact hr.row.of_block (e1.trans e2.symm)
        have FL := Lib.hid (fun q W1 (h : Wr W1 K V W C v1 lb lw ∧ Turned ([V, W, C] ++ ownL v1) (wr.drewN q) W1) => flush_any K V W C v1 lb lw W1 h.1 (by
          have h6 := congrArg List.length hr.eq
          simp only [List.length_append] at h6 hll ⊢
          omega))
        have hgk : Hid (gk = 1) := by
          show gk = 1
          have := hr.g1
          rcases Nat.eq_zero_or_pos gk with h6 | h6
          · exact absurd (hr.fit h6) hfit
          · omega
        have BF := Lib.hid (fun q => buffd_any K V W C v1 lb lw (wr.drewN q) (hr.wt.drewN q))
        rw [hfull] at AV k2 BF
        have SD := Lib.hid (fun q => hc.drewN q)
        obtain ⟨m, hm⟩ : ∃ m : Nat, m = cs.length - ps.length := ⟨_, rfl⟩
        rw [← hm]
        have HM := Lib.hid hm
        have b9 : (0 : Int) ≤ (m : Int) := by omega
        have e2 : IntKind.i64.wrap (m : Int) = (m : Int) := IntWalk.i64_in _ (by omega)
        have b5 : ¬ c = 0 := by omega
        have b6 : (0 : Int) < (ps.length : Int) := by omega
        have HPC := Lib.hid (⟨hpc, hcc2⟩ : ps.length ≤ c ∧ c ≤ 1099511627776)
        clear hr hc hcx hP hPn hm hll hta hfull t1 ha1 ha2 hfit hlw
        go_wp2_with (first | (go_at_call 128; (with_reducible refine AV.mono ?_); rintro e w1 ⟨rfl, q, rfl⟩) | (go_at_call 129; (with_reducible refine (BF.out _).mono ?_); rintro e w1 ⟨rfl, rfl⟩))
        go_region_held3 (fun w' => w'.cell? ⟨W, 1, none⟩ = some (.slice (some ⟨C, 0, none⟩) 4096 4096) ∧ w'.cell? ⟨W, 2, none⟩ = some (.int .i64 ((4096 : Nat) : Int))) (go_keep)
          (first | (refine step_copy8 rfl (.tmp 43) (.tmp 44) 22 22 rfl 5 Tryd.underlying22 u8_size (some ⟨C, 0, none⟩) (some ⟨P, o, none⟩) 0 0 ps.length c (by simp [Act.eval]) (by simp [Act.eval]) C 0 cur 5 (SD.out (q + 1)) [] (by simp) (fun h => by simp at h) (by simp) (by simp) ?_; intro w2 hC2 hT2; obtain ⟨⟨d0, d1, d2, d3⟩, g2, hW⟩ := HC.out (q + 1) _ hT2.out hC2.out))
        have FL2 := Lib.hid (FL.out (q + 1) _ hW.out)
        have HF2 := Lib.hid (HF.out (q + 1) _ · · hW.out)
        clear hC2 hT2 hW HC HF SD FL
        go_wp2_with (go_at_call 57; (with_reducible refine FL2.out.mono ?_); intro e w4 hP4; obtain ⟨rfl, hR⟩ := HF2.out _ _ hP4; clear hP4)
        go_roundg 0
        case rel =>
          obtain ⟨v2, hR2⟩ := hR.out
          exact ⟨v2, _, _, ps, o, c, hR2, rfl, by rw [← HM.out], HPC.out.1, HPC.out.2⟩
        case measure => have := hgk.out; omega
      · have hpl : ps.length - a = (ps.drop a).length := by rw [List.length_drop]
        have BF := Lib.hid (fun q => buffd_any K V W C v1 lb lw (wr.drewN q) (hr.wt.drewN q))
        have t2 : ((lw.length : Int) == 0) = false := beq_eq_false_iff_ne.2 (by omega)
        have HC := Lib.hid (fun q w1 => (hr.wt.drewN q).copied (ps := ps.take a) (w1 := w1) (by rw [hta]; omega) (hc.drewN q) hcl hcx)
        have HF : Hid (∀ q W1 e W2, (Wr W1 K V W C v1 lb (lw ++ ps.take a) ∧ Turned ([V, W, C] ++ ownL v1) (wr.drewN q) W1) → FlushPost K V W C v1 lb (lw ++ ps.take a) W1 e W2 → e = .returned .nilIface ∧ Hid (∃ v2, WRR w K V W C P v l cs 0 v2 (lb ++ (lw ++ ps.take a)) [] (ps.drop a) (o + a) W2)) := by
          rintro q W1 e W2 ⟨h1, h2⟩ ⟨rfl, v2, h3, h4, h5⟩
          have hTq : Turned ([V, W, C] ++ ownL v1) wr W1 := ((Turned.refl _ _).drewN q).trans h2
          have hT1 : Turned ([V, W, C] ++ ownL v) w W1 := hr.tu.own hr.own hTq
          have hT2 := hT1.own hr.own h4
          have ho2 : OwnNew w v v2 := hr.own.trans hT1.size h5
          refine ⟨rfl, v2, h3, ?_, ?_, hT2, ho2, by rw [List.length_drop]; omega, by rw [List.length_drop]; omega, fun _ => by show 0 + _ ≤ _; rw [List.length_drop]; omega, by omega⟩
          · rw [List.append_nil, ← hr.eq, List.append_assoc, List.append_assoc, List.append_assoc, List.take_append_drop]
          · have hrow : Row8 W2 P o ps := by
              have e1 : W2.heap[P]? = w.heap[P]? := hT2.block P hPs hP
              have e2 : wr.heap[P]? = w.heap[P]? := hr.tu.block P hPs hP
              exact hr.row.of_block (e1.trans e2.symm)
            exact hrow.drop _
        have FL := Lib.hid (fun q W1 (h : Wr W1 K V W C v1 lb (lw ++ ps.take a) ∧ Turned ([V, W, C] ++ ownL v1) (wr.drewN q) W1) => flush_any K V W C v1 lb (lw ++ ps.take a) W1 h.1 (by
          have h6 := congrArg List.length hr.eq
          simp only [List.length_append] at h6 hll ⊢
          rw [hta]; omega))
        have HL : Hid ((ps.drop a).length = ps.length - a ∧ (cs.length - ps.length + a = cs.length - (ps.drop a).length)) := ⟨by rw [List.length_drop], by rw [List.length_drop]; omega⟩
        have hgk : Hid (gk = 1) := by
          show gk = 1
          have := hr.g1
          rcases Nat.eq_zero_or_pos gk with h6 | h6
          · exact absurd (hr.fit h6) hfit
          · omega
        have SN : Hid ((by8 (ps.take a)).length = Nat.min ps.length (4096 - lw.length)) := by
          show _ = min _ _
          rw [by8_length, hta]; omega
        have SF : Hid (lw.length + (by8 (ps.take a)).length ≤ cur.length) := by show _ ≤ _; rw [by8_length, hta]; omega
        have SC : Hid (∀ q j v, (by8 (ps.take a))[j]? = some v → (wr.drewN q).cell? ((⟨P, o, none⟩ : Addr).add j) = some v) := by
          intro q j v hj
          unfold by8 at hj
          rw [List.getElem?_map] at hj
          obtain ⟨x, hx, rfl⟩ := Option.map_eq_some_iff.1 hj
          rw [Addr.add_lit2]
          exact (hr.row.take a) j x hx
        have S1 := Lib.hid (by8_one (ps.take a))
        have SD := Lib.hid (fun q => hc.drewN q)
        have SL : Hid ((by8 (ps.take a)).length = a) := by show _ = _; rw [by8_length, hta]
        have HLT : Hid ((ps.take a).length = a) := hta
        have b0 : (0 : Int) ≤ (lw.length : Int) := by omega
        have b1 : (lw.length : Int) ≤ 4096 := by omega
        have e1 : IntKind.i64.wrap ((lw.length : Int) + (a : Int)) = (lw.length : Int) + (a : Int) := IntWalk.i64_in _ (by omega)
        obtain ⟨m, hm⟩ : ∃ m : Nat, m = cs.length - ps.length := ⟨_, rfl⟩
        rw [← hm] at HL
        rw [← hm]
        have e2 : IntKind.i64.wrap ((m : Int) + (a : Int)) = (m : Int) + (a : Int) := IntWalk.i64_in _ (by omega)
        have b3 : (a : Int) ≤ (ps.length : Int) := by omega
        have b4 : (0 : Int) ≤ (a : Int) := by omega
        have b5 : ¬ c = a := by omega
        have HD : Hid ((ps.drop a).length ≤ c - a ∧ c - a ≤ 1099511627776) := ⟨by rw [List.length_drop]; omega, by omega⟩
        have b2 : ¬ 4096 = lw.length := by omega
        clear hr hc hcx hP hPn hm hll hta hpl
        go_wp2_with (first | (go_at_call 128; (with_reducible refine AV.mono ?_); rintro e w1 ⟨rfl, q, rfl⟩) | (go_at_call 129; (with_reducible refine (BF.out _).mono ?_); rintro e w1 ⟨rfl, rfl⟩))
        go_region_held3 (fun w' => w'.cell? ⟨W, 1, none⟩ = some (.slice (some ⟨C, 0, none⟩) 4096 4096) ∧ w'.cell? ⟨W, 2, none⟩ = some (.int .i64 (lw.length : Int))) (go_keep)
          (first | (refine step_copy8 rfl (.tmp 43) (.tmp 44) 22 22 rfl 5 Tryd.underlying22 u8_size (some ⟨C, lw.length, none⟩) (some ⟨P, o, none⟩) (4096 - lw.length) (4096 - lw.length) ps.length c (by simp [Act.eval]) (by simp [Act.eval]) C lw.length cur 5 (SD.out (q + 1)) (by8 (ps.take a)) SN.out (fun _ => ⟨rfl, _, rfl, SC.out (q + 1)⟩) SF.out S1.out ?_; intro w2 hC2 hT2; rw [SL.out]; obtain ⟨⟨d0, d1, d2, d3⟩, g2, hW⟩ := HC.out (q + 1) _ hT2.out hC2.out))
        rw [HLT.out] at hW
        have FL2 := Lib.hid (FL.out (q + 1) _ hW.out)
        have HF2 := Lib.hid (HF.out (q + 1) _ · · hW.out)
        clear hC2 hT2 hW HC HF SN SF SC S1 SD FL
        go_wp2_with (go_at_call 57; (with_reducible refine FL2.out.mono ?_); intro e w4 hP4; obtain ⟨rfl, hR⟩ := HF2.out _ _ hP4; clear hP4)
        go_roundg 0
        case rel =>
          obtain ⟨v2, hR2⟩ := hR.out
          exact ⟨v2, _, _, ps.drop a, o + a, c - a, hR2, by rw [HL.out.1], by rw [← HL.out.2]; go_num, HD.out.1, HD.out.2⟩
        case measure => have := hgk.out; omega
end Go.Proofs.YthobojpbdeepoaaDoor
