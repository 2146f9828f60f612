/-
  The contract of spec.Insert: a field goes behind all whose keys are not greater.
-/
import Derived.Test.YthobojpbdeepoaaDoorFullApp
import Derived.Test.YthobojpbdeepoaaDoorImplFields
import Derived.Deep.QuietTactic
import Derived.BigQuiet
import Derived.Deep.RegionHeld3
namespace Go.Proofs.YthobojpbdeepoaaDoor
open Go.RowKit

theorem sfld_row : (Tryd.prog.info? 67).map (fun i => (i.zero, i.size, i.bytes)) = some (some (.agg #[.string ⟨#[]⟩, .string ⟨#[]⟩]), 2, 32) := by kernel_rfl
/-- What spec.Insert answers. -/
def InsPost (w : World) (o : List Fd) (e : Ending) (w' : World) : Prop :=
  ∃ v', e = .returned v' ∧ Turned [] w w' ∧ w'.ownsRow w.heap.size 67 2 v' o.length (fc o)

set_option maxRecDepth 100000 in
set_option maxHeartbeats 4000000 in
theorem insert_any (p : Option Addr) (c base : Nat) (l : List Fd) (fk fv : ByteArray) (w : World) (h : w.ownsRow base 67 2 (.slice p l.length c) l.length (fc l)) (hs : Sorted l) (hl : l.length ≤ 1000000) :
    Calls Tryd.prog 44 #[.slice p l.length c, .agg #[.string fk, .string fv]] w (InsPost w (insF l (lst fk, lst fv))) := by
  obtain ⟨i0, hi, hz0, hz1, hz2⟩ := info_parts sfld_row
  have HOwn := Lib.hid h
  have HSO := Lib.hid hs
  obtain ⟨W, hW⟩ : ∃ W, W = w.alloc (.cells #[.string fk, .string fv] 67) := ⟨_, rfl⟩
  have HW := Lib.hid hW
  have hT : Turned [] w W := by rw [hW]; exact (Turned.refl [] w).alloc _
  have hown := ownsN_keep h hT
  obtain ⟨_, _, hfe, hpc, hcm, hpn, hps, hpcell⟩ := ownsN_slice hown
  injection hfe with e1 _ e3
  subst e1 e3
  have c0 : ∀ q, (W.drewN q).cell? ⟨w.heap.size, 0, none⟩ = some (.string fk) := fun q => by rw [hW]; simp
  have c1 : ∀ q, (W.drewN q).cell? ⟨w.heap.size, 1, none⟩ = some (.string fv) := fun q => by rw [hW]; simp
  have HPC := Lib.hid hpcell
  have HPS := Lib.hid hps
  have HT := Lib.hid hT
  have HWS : Hid (W.heap.size = w.heap.size + 1) := by rw [hW]; simp [Hid]
  have HOW := Lib.hid hown
  clear h hT hps hpcell hs hown hW
  go_enter Tryd.func44, Tryd.ntmps44
  go_upto_block 0 with fail
  rw [← HW.out]
  clear HW
  go_cut [5] (fun u wc => (∃ q, wc = W.drewN q) ∧ ∃ m : Nat, u = .int .i64 (m : Int) ∧ m ≤ l.length ∧ l.take m = l.filter (fun f => !gtL f.1 (lst fk)) ∧ l.drop m = l.filter (fun f => gtL f.1 (lst fk)))
  case first =>
    go_wp2_with fail
    go_loopg [5] l.length (fun g v wr => (∃ q, wr = W.drewN q) ∧ ∃ m : Nat, v = .int .i64 (m : Int) ∧ m ≤ l.length ∧ (∀ f, f ∈ l.drop m → gtL f.1 (lst fk) = true) ∧ m ≤ g)
    case atStart => exact ⟨⟨0, rfl⟩, l.length, rfl, Nat.le_refl _, by simp, Nat.le_refl _⟩
    case round =>
      obtain ⟨⟨q0, rfl⟩, m, rfl, hm, hgt, hg⟩ := hrel
      cases m with
      | zero =>
        have HX := Lib.hid (cut_at HSO.out hgt (fun f h0 => absurd rfl h0) hm)
        clear hgt
        go_wp2_with fail
        go_quiet (fail)
        go_wp2_with fail
        go_meet
        exact ⟨⟨_, World.drewN_drewN ..⟩, 0, rfl, Nat.zero_le _, HX.out.1, HX.out.2⟩
      | succ q =>
        obtain ⟨f, hf⟩ : ∃ f, l[q]? = some f := ⟨_, List.getElem?_eq_getElem (by omega)⟩
        obtain ⟨g0, rfl, hc0⟩ := HPC.out _ _ (fc_at hf).1
        unfold tv at hc0
        have hc1 : ∀ q2, (W.drewN q2).cell? ⟨g0, q * 2, none⟩ = some (.string ⟨f.1.toArray⟩) := fun _ => hc0
        have HGT := Lib.hid hgt
        have RG := fun W => run_gt (P := Tryd.prog) 9 f.1 fk W
        have HQ : Hid (q ≤ gk - 1 ∧ 0 < gk ∧ q + 1 ≤ l.length) := ⟨by omega, by omega, hm⟩
        have HFf := Lib.hid hf
        clear hgt hf hc0
        cases hgv : gtL f.1 (lst fk)
        · rw [hgv] at RG
          have HX := Lib.hid (cut_at HSO.out HGT.out (fun z _ hz => by
            rw [Nat.add_sub_cancel, HFf.out] at hz
            exact Option.some.inj hz ▸ hgv) hm)
          clear hgv
          go_wp2_with fail
          go_quiet (fail)
          go_wp2_with fail
          go_meet
          exact ⟨⟨_, World.drewN_drewN ..⟩, q + 1, rfl, HQ.out.2.2, HX.out.1, HX.out.2⟩
        · rw [hgv] at RG
          have HX : Hid (∀ z, z ∈ l.drop q → gtL z.1 (lst fk) = true) := by
            intro z hz
            have h1 := HQ.out.2.2
            rw [List.drop_eq_getElem_cons (by omega)] at hz
            rcases List.mem_cons.1 hz with rfl | hz
            · have h2 := HFf.out
              rw [List.getElem?_eq_getElem (by omega)] at h2
              rw [Option.some.inj h2]; exact hgv
            · exact HGT.out z hz
          clear hgv
          go_wp2_with fail
          go_quiet (fail)
          go_wp2_with fail
          go_roundg (gk - 1)
          case rel => exact ⟨⟨_, rfl⟩, q, by go_num, by have := HQ.out; omega, HX.out, HQ.out.1⟩
          case measure => have := HQ.out; omega
  case rest =>
    obtain ⟨⟨q0, rfl⟩, m, rfl, hm, htk, hdr⟩ := hcut
    have hWs : W.heap.size = w.heap.size + 1 := HWS.out
    have HFL : Hid ((fc (l.drop m)).length = (l.length - m) * 2) := by show _ = _; rw [fc_length, List.length_drop]
    have HLN : Hid (1 + (l.length - m) ≤ maxLen ∧ (1 + (l.length - m)) * 32 ≤ 140737488355328) := ⟨by unfold maxLen; omega, by omega⟩
    have HOWN : Hid (∀ q, ((W.drewN q).alloc (.cells #[.string fk, .string fv] 67)).ownsRow (w.heap.size + 1) 67 2 (.slice (some ⟨W.heap.size, 0, none⟩) 1 1) 1 [.string fk, .string fv]) := fun q =>
      World.ownsRow_lit (W.drewN q) #[.string fk, .string fv] 1 (by show _ ≤ W.heap.size; omega) (by unfold maxLen; omega) rfl
    have HBS : Hid (∀ q x, w.heap.size + 1 ≤ ((W.drewN q).alloc x).heap.size) := fun q x => by simp; omega
    have HN2 : Hid (([Value.string fk, .string fv] ++ fc (l.drop m)).length = (1 + (l.length - m)) * 2 ∧ 0 < 1 + (l.length - m) ∧ (∀ u ∈ [Value.string fk, .string fv] ++ fc (l.drop m), u.oneCell' = true) ∧ m + (1 + (l.length - m)) ≤ maxLen ∧ (m + (1 + (l.length - m))) * 32 ≤ 140737488355328) := by
      refine ⟨by rw [List.length_append, HFL.out]; simp; omega, by omega, ?_, by unfold maxLen; omega, by omega⟩
      intro u hu
      rcases List.mem_append.1 hu with hu | hu
      · simp only [List.mem_cons, List.not_mem_nil, or_false] at hu
        rcases hu with rfl | rfl <;> rfl
      · exact fc_one _ u hu
    have HTKL : Hid ((fc (l.take m)).length = m * 2) := by show _ = _; rw [fc_length, List.length_take, Nat.min_eq_left hm]
    have HFin : Hid (∀ w5 v2 w6, Turned [] w w5 → w6.ownsRow w.heap.size 67 2 v2 (m + (1 + (l.length - m))) (fc (l.take m) ++ ([.string fk, .string fv] ++ fc (l.drop m))) → w5.grownBy w6 none → InsPost w (insF l (lst fk, lst fv)) (.returned v2) w6) := by
      intro w5 v2 w6 hT5 ho hg
      refine ⟨v2, rfl, hT5.grown hg (fun x hx => by cases hx), ?_⟩
      have e : insF l (lst fk, lst fv) = l.take m ++ ([(lst fk, lst fv)] ++ l.drop m) := by
        unfold insF insG
        rw [htk, hdr]; rfl
      have e2 : fc [(lst fk, lst fv)] = [.string fk, .string fv] := by show [tv (lst fk), tv (lst fv)] = _; rw [tv_of, tv_of]
      have e3 : (insF l (lst fk, lst fv)).length = m + (1 + (l.length - m)) := by
        rw [e, List.length_append, List.length_append, List.length_take, List.length_drop, Nat.min_eq_left hm]; rfl
      rw [e3, e, fc_append, fc_append, e2]
      exact ho
    have HX5 : Hid (∀ q v1 w5, w5.ownsRow (w.heap.size + 1) 67 2 v1 (1 + (l.length - m)) ([.string fk, .string fv] ++ fc (l.drop m)) → ((W.drewN q).alloc (.cells #[.string fk, .string fv] 67)).grownBy w5 (Value.ownBlock (.slice (some ⟨W.heap.size, 0, none⟩) 1 1)) →
        (v1.ownBlock = Value.ownBlock (.slice (some ⟨W.heap.size, 0, none⟩) 1 1) ∨ v1.ownBlock = some ((W.drewN q).alloc (.cells #[.string fk, .string fv] 67)).heap.size) →
        ∃ g5 c5, v1 = .slice (some ⟨g5, 0, none⟩) (1 + (l.length - m)) c5 ∧ Hid (Turned [] w w5) ∧ Hid (∀ ad, p = some ad → ∀ j u, (fc (l.take m))[j]? = some u → w5.cell? (ad.add j) = some u) ∧
          Hid (∀ j u, ([.string fk, .string fv] ++ fc (l.drop m))[j]? = some u → w5.cell? ((⟨g5, 0, none⟩ : Addr).add j) = some u) ∧ Hid (w.heap.size < w5.heap.size) ∧ w5.cell? ⟨w.heap.size, 0, none⟩ = some (.string fk) ∧ w5.cell? ⟨w.heap.size, 1, none⟩ = some (.string fv)) := by
      intro q v1 w5 ho hg _
      have hold : ∀ b, b < W.heap.size → w5.heap[b]? = W.heap[b]? := fun b hb => by
        have h1 := hg.block b (by simp; omega) (by simp [Value.ownBlock]; omega)
        rw [h1]
        exact Below.heap_alloc (W.drewN q) _ _ hb
      have hT5 : Turned [] w w5 := by
        have h1 : Turned [] w ((W.drewN q).alloc (.cells #[.string fk, .string fv] 67)) := (HT.out.drewN q).alloc _
        exact h1.grown hg (fun x hx => .inr (by simp [Value.ownBlock] at hx; omega))
      obtain ⟨p5, c5, rfl, _, _, hn5, hs5, hc5⟩ := ownsN_slice ho
      have hp5 : ∃ g5, p5 = some ⟨g5, 0, none⟩ := by
        cases p5 with
        | none => have := (hn5 rfl).1; omega
        | some a5 => obtain ⟨g5, rfl, _⟩ := hs5 a5 rfl; exact ⟨g5, rfl⟩
      obtain ⟨g5, rfl⟩ := hp5
      refine ⟨g5, c5, rfl, hT5, ?_, ?_, by have := hg.size; simp at this; show _ < _; omega, ?_, ?_⟩
      · rintro ad rfl j u hj
        have hj2 : (fc l)[j]? = some u := by
          rw [← fc_take, List.getElem?_take] at hj
          split at hj
          · exact hj
          · cases hj
        obtain ⟨g0, h0, _, hlt⟩ := HPS.out ad rfl
        obtain ⟨g', he, hc⟩ := HPC.out j u hj2
        injection he with he
        subst he
        injection h0 with h0
        subst h0
        rw [Addr.add_lit, Nat.zero_add]
        exact (World.cell?_of_block (w := W) (hold g' hlt)).trans hc
      · intro j u hj
        obtain ⟨g', he, hc⟩ := hc5 j u hj
        injection he with he
        injection he with he
        subst he
        rw [Addr.add_lit, Nat.zero_add]
        exact hc
      · exact (World.cell?_of_block (w := W) (hold w.heap.size (by omega))).trans (c0 0)
      · exact (World.cell?_of_block (w := W) (hold w.heap.size (by omega))).trans (c1 0)
    clear htk hdr
    have b1 : (0 : Int) ≤ (m : Int) := by omega
    have b2 : (m : Int) ≤ (c : Int) := by omega
    have b3 : (m : Int) ≤ (l.length : Int) := by omega
    rcases p with _ | a
    · obtain ⟨h1, rfl⟩ := hpn rfl
      obtain rfl : m = 0 := by omega
      have ho : l = [] := List.eq_nil_of_length_eq_zero h1
      subst ho
      go_wp2_with fail
      go_region_held3 (fun w' => w'.cell? ⟨w.heap.size, 0, none⟩ = some (.string fk) ∧ w'.cell? ⟨w.heap.size, 1, none⟩ = some (.string fv)) (go_keep) (first
        | (refine step_append_cells _ rfl (.tmp 28) (.tmp 31) 57 rfl (w.heap.size + 1) 67 i0 (.agg #[.string ⟨#[]⟩, .string ⟨#[]⟩]) 2 32 Tryd.underlying57 hi hz0 hz1 hz2 rfl (by decide) _ 1 [.string fk, .string fv] (by simp [Act.eval]) (HOWN.out (q0 + 1)) none 0 0 ((fc (List.drop 0 []))) (by simp [Act.eval]) HFL.out (fun _ => ⟨rfl, rfl⟩) (fun ad h => by cases h) (fc_one _) HLN.out.1 HLN.out.2 (HBS.out (q0 + 1) (.cells #[.string fk, .string fv] 67)) ?_; intro v1 w5 ho1 hg1 ha1; obtain ⟨g5, c5, rfl, HT5, HP5, HV5, HS5, d0, d1⟩ := HX5.out _ v1 w5 ho1 hg1 ha1; clear ho1 hg1 ha1 HX5 HOWN)
        | (refine step_append_full _ rfl (.tmp 26) (.tmp 32) 57 rfl w.heap.size 67 i0 (.agg #[.string ⟨#[]⟩, .string ⟨#[]⟩]) 2 32 Tryd.underlying57 hi hz0 hz1 hz2 rfl (by decide) none 0 (fc (List.take 0 [])) (by simp [Act.eval]) HTKL.out (fun _ => rfl) HP5.out ⟨g5, 0, none⟩ (1 + (0)) c5 ([.string fk, .string fv] ++ fc (List.drop 0 [])) (by simp [Act.eval]) HN2.out.1 HN2.out.2.1 HV5.out HN2.out.2.2.1 HN2.out.2.2.2.1 HN2.out.2.2.2.2 (Nat.le_of_lt HS5.out) ?_; intro v2 w6 ho2 hg2; have d0' := (World.cell?_of_block (a := ⟨w.heap.size, 0, none⟩) (hg2.block w.heap.size HS5.out (by simp))).trans d0; have d1' := (World.cell?_of_block (a := ⟨w.heap.size, 1, none⟩) (hg2.block w.heap.size HS5.out (by simp))).trans d1; have HF := Lib.hid (HFin.out w5 v2 w6 HT5.out ho2 hg2); clear ho2 hg2 HT5 HP5 HV5 HS5 HFin d0 d1))
      go_wp2_with fail
      go_ret
      exact HF.out
    · obtain ⟨g0, rfl, hg1, hg2⟩ := HPS.out a rfl
      by_cases hcm2 : c = m
      · obtain rfl : c = l.length := by omega
        obtain rfl : m = l.length := by omega
        rw [Nat.sub_self, List.drop_length, fc_nil] at HFL HN2 HFin HX5
        rw [Nat.sub_self] at HLN
        go_wp2_with fail
        go_region_held3 (fun w' => w'.cell? ⟨w.heap.size, 0, none⟩ = some (.string fk) ∧ w'.cell? ⟨w.heap.size, 1, none⟩ = some (.string fv)) (go_keep) (first
          | (refine step_append_cells _ rfl (.tmp 28) (.tmp 31) 57 rfl (w.heap.size + 1) 67 i0 (.agg #[.string ⟨#[]⟩, .string ⟨#[]⟩]) 2 32 Tryd.underlying57 hi hz0 hz1 hz2 rfl (by decide) _ 1 [.string fk, .string fv] (by simp [Act.eval]) (HOWN.out (q0 + 1)) (some ⟨g0, 0, none⟩) 0 0 ([]) (by simp [Act.eval]) HFL.out (fun h => by cases h) (fun ad _ j u hu => by simp at hu) (fun u hu => by cases hu) HLN.out.1 HLN.out.2 (HBS.out (q0 + 1) (.cells #[.string fk, .string fv] 67)) ?_; intro v1 w5 ho1 hg1 ha1; obtain ⟨g5, c5, rfl, HT5, HP5, HV5, HS5, d0, d1⟩ := HX5.out _ v1 w5 ho1 hg1 ha1; clear ho1 hg1 ha1 HX5 HOWN)
          | (refine step_append_full _ rfl (.tmp 26) (.tmp 32) 57 rfl w.heap.size 67 i0 (.agg #[.string ⟨#[]⟩, .string ⟨#[]⟩]) 2 32 Tryd.underlying57 hi hz0 hz1 hz2 rfl (by decide) (some ⟨g0, 0, none⟩) l.length (fc (l.take l.length)) (by simp [Act.eval]) HTKL.out (fun h => by cases h) HP5.out ⟨g5, 0, none⟩ (1 + (0)) c5 ([.string fk, .string fv] ++ []) (by simp [Act.eval]) HN2.out.1 HN2.out.2.1 HV5.out HN2.out.2.2.1 HN2.out.2.2.2.1 HN2.out.2.2.2.2 (Nat.le_of_lt HS5.out) ?_; intro v2 w6 ho2 hg2; have d0' := (World.cell?_of_block (a := ⟨w.heap.size, 0, none⟩) (hg2.block w.heap.size HS5.out (by simp))).trans d0; have d1' := (World.cell?_of_block (a := ⟨w.heap.size, 1, none⟩) (hg2.block w.heap.size HS5.out (by simp))).trans d1; have HF := Lib.hid (HFin.out w5 v2 w6 HT5.out ho2 hg2); clear ho2 hg2 HT5 HP5 HV5 HS5 HFin d0 d1))
        go_wp2_with fail
        go_ret
        exact HF.out
      · have HNW : Hid (∀ q j u, (fc (l.drop m))[j]? = some u → ((W.drewN q).alloc (.cells #[.string fk, .string fv] 67)).cell? ((⟨g0, m * 2, none⟩ : Addr).add j) = some u) := by
          intro q j u hj
          rw [← fc_drop, List.getElem?_drop] at hj
          obtain ⟨g', hge, hc⟩ := HPC.out _ _ hj
          injection hge with hge
          injection hge with hge
          subst hge
          rw [Addr.add_lit]
          exact (World.cell?_of_block (w := W) (Below.heap_alloc (W.drewN q) _ _ hg2)).trans hc
        go_wp2_with fail
        go_region_held3 (fun w' => w'.cell? ⟨w.heap.size, 0, none⟩ = some (.string fk) ∧ w'.cell? ⟨w.heap.size, 1, none⟩ = some (.string fv)) (go_keep) (first
          | (refine step_append_cells _ rfl (.tmp 28) (.tmp 31) 57 rfl (w.heap.size + 1) 67 i0 (.agg #[.string ⟨#[]⟩, .string ⟨#[]⟩]) 2 32 Tryd.underlying57 hi hz0 hz1 hz2 rfl (by decide) _ 1 [.string fk, .string fv] (by simp [Act.eval]) (HOWN.out (q0 + 1)) (some ⟨g0, m * 2, none⟩) (l.length - m) (c - m) ((fc (l.drop m))) (by simp [Act.eval]) HFL.out (fun h => by cases h) (fun ad h => by cases h; exact HNW.out (q0 + 1)) (fc_one _) HLN.out.1 HLN.out.2 (HBS.out (q0 + 1) (.cells #[.string fk, .string fv] 67)) ?_; intro v1 w5 ho1 hg1 ha1; obtain ⟨g5, c5, rfl, HT5, HP5, HV5, HS5, d0, d1⟩ := HX5.out _ v1 w5 ho1 hg1 ha1; clear ho1 hg1 ha1 HX5 HOWN)
          | (refine step_append_full _ rfl (.tmp 26) (.tmp 32) 57 rfl w.heap.size 67 i0 (.agg #[.string ⟨#[]⟩, .string ⟨#[]⟩]) 2 32 Tryd.underlying57 hi hz0 hz1 hz2 rfl (by decide) (some ⟨g0, 0, none⟩) m (fc (l.take m)) (by simp [Act.eval]) HTKL.out (fun h => by cases h) HP5.out ⟨g5, 0, none⟩ (1 + ((l.length - m))) c5 ([.string fk, .string fv] ++ fc (l.drop m)) (by simp [Act.eval]) HN2.out.1 HN2.out.2.1 HV5.out HN2.out.2.2.1 HN2.out.2.2.2.1 HN2.out.2.2.2.2 (Nat.le_of_lt HS5.out) ?_; intro v2 w6 ho2 hg2; have d0' := (World.cell?_of_block (a := ⟨w.heap.size, 0, none⟩) (hg2.block w.heap.size HS5.out (by simp))).trans d0; have d1' := (World.cell?_of_block (a := ⟨w.heap.size, 1, none⟩) (hg2.block w.heap.size HS5.out (by simp))).trans d1; have HF := Lib.hid (HFin.out w5 v2 w6 HT5.out ho2 hg2); clear ho2 hg2 HT5 HP5 HV5 HS5 HFin d0 d1))
        go_wp2_with fail
        go_ret
        exact HF.out
end Go.Proofs.YthobojpbdeepoaaDoor
