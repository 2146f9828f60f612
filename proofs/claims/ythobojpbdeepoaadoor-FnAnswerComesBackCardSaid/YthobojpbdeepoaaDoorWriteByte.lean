/-
  The contracts of bufio.Writer's WriteByte and of its Write of three bytes.
-/
import Derived.Test.YthobojpbdeepoaaDoorWriter
namespace Go.Proofs.YthobojpbdeepoaaDoor
open Go.RowKit

/-- A bufio.Writer to which l has been written. -/
def Wl (w : World) (K V W C : Nat) (v : Value) (l : List UInt8) : Prop := ∃ lb lw, Wr w K V W C v lb lw ∧ l = lb ++ lw
/-- What a call that writes leaves: l' has been written. -/
def WPost (K V W C : Nat) (v : Value) (l' : List UInt8) (r : Value) (w : World) (e : Ending) (w' : World) : Prop :=
  e = .returned r ∧ ∃ v', Wl w' K V W C v' l' ∧ Turned ([V, W, C] ++ ownL v) w w' ∧ OwnNew w v v'

theorem take_set_snoc {α : Type} (L : List α) (n : Nat) (x : α) (h : n < L.length) : (L.set n x).take (n + 1) = L.take n ++ [x] := by
  apply List.ext_getElem?
  intro i
  rw [List.getElem?_take, List.getElem?_set]
  by_cases h1 : i < n
  · rw [if_pos (by omega), if_neg (by omega), List.getElem?_append_left (by rw [List.length_take]; omega), List.getElem?_take_of_lt h1]
  · by_cases h2 : i = n
    · subst h2
      rw [if_pos (by omega), if_pos rfl, if_pos h, List.getElem?_append_right (by rw [List.length_take]; omega), List.length_take, Nat.min_eq_left (by omega), Nat.sub_self]; rfl
    · rw [if_neg (by omega), List.getElem?_append_right (by rw [List.length_take]; omega), List.length_take, Nat.min_eq_left (by omega)]
      obtain ⟨k, hk⟩ : ∃ k, i - n = k + 1 := ⟨i - n - 1, by omega⟩
      rw [hk]; rfl

section
variable {w w1 : World} {K V W C : Nat} {v : Value} {lb lw l : List UInt8}
/-- One byte more in the row. -/
theorem Wr.push (h : Wr w K V W C v lb lw) (c : UInt8) (hlt : lw.length < 4096) (q : Nat) : Wr (((w.drewN q).setCell ⟨C, lw.length, none⟩ (.int .u8 (c.toNat : Int))).setCell ⟨W, 2, none⟩ (.int .i64 ((lw.length : Int) + 1))) K V W C v lb (lw ++ [c]) ∧
    Turned ([V, W, C] ++ ownL v) w (((w.drewN q).setCell ⟨C, lw.length, none⟩ (.int .u8 (c.toNat : Int))).setCell ⟨W, 2, none⟩ (.int .i64 ((lw.length : Int) + 1))) := by
  have hwc := h.wc
  have hT : Turned [W, C] w (((w.drewN q).setCell ⟨C, lw.length, none⟩ (.int .u8 (c.toNat : Int))).setCell ⟨W, 2, none⟩ (.int .i64 ((lw.length : Int) + 1))) := (((Turned.refl _ _).drewN q).setCell (.inl (by simp)) _).setCell (.inl (by simp)) _
  obtain ⟨lr, hv⟩ := h.vb.blk
  obtain ⟨cur, hc, hcl, hcx⟩ := h.cb
  refine ⟨⟨⟨h.vb.kv, ⟨lr, hT.blk hv (by simp; exact ⟨h.vw, h.vc⟩)⟩, own_keepS h.vb.own hT (fun x hx he => ?_), h.vb.nz⟩, ?_, ⟨cur.set lw.length (.int .u8 (c.toNat : Int)), ?_, by rw [List.length_set, hcl], ?_⟩, by rw [List.length_append, List.length_singleton]; omega, h.kw, h.kc, h.ne⟩, hT.mono (fun x hx => by simp at hx ⊢; omega)⟩
  · simp at hx
    rcases hx with rfl | rfl
    · refine h.wo ?_
      cases v <;> simp [Value.ownBlock] at he
      rename_i a n c
      cases a
      · simp at he
      · simp at he
        simp [ownL, he]
    · exact h.ne he.symm
  · have h2 := ((h.wb.drewN q).far (p := ⟨C, lw.length, none⟩) (by simpa using hwc) (.int .u8 (c.toNat : Int))).set_ 2 (.int .i64 ((lw.length : Int) + 1))
    simpa using h2
  · have h2 := ((hc.drewN q).set_ lw.length (.int .u8 (c.toNat : Int))).far (p := ⟨W, 2, none⟩) (by simpa using hwc.symm) (.int .i64 ((lw.length : Int) + 1))
    simpa using h2
  · have e : by8 (lw ++ [c]) = by8 lw ++ [.int .u8 (c.toNat : Int)] := by unfold by8; rw [List.map_append]; rfl
    rw [List.length_append, e, ← hcx]
    exact take_set_snoc cur lw.length _ (by omega)
/-- The cell that the byte goes to. -/
theorem Wr.room (h : Wr w K V W C v lb lw) (hlt : lw.length < 4096) : (∃ x, w.cell? ⟨C, lw.length, none⟩ = some x) ∧ w.frozen? ⟨C, lw.length, none⟩ = false := by
  obtain ⟨cur, hc, hcl, hcx⟩ := h.cb
  refine ⟨⟨cur[lw.length]'(by omega), ?_⟩, hc.frozen _⟩
  rw [hc.cell, List.getElem?_toArray, List.getElem?_eq_getElem (by omega)]
end

set_option maxRecDepth 100000 in
set_option maxHeartbeats 4000000 in
theorem writeByte_any (K V W C : Nat) (v : Value) (l : List UInt8) (c : UInt8) (w : World) (h : Wl w K V W C v l) (hl : l.length ≤ 1073741824) :
    Calls Tryd.prog 112 #[.pointer (some ⟨W, 0, none⟩), .int .u8 (c.toNat : Int)] w (WPost K V W C v (l ++ [c]) .nilIface w) := by
  obtain ⟨lb, lw, h, rfl⟩ := h
  rw [List.length_append] at hl
  have AV := avail_any K V W C v lb lw w h
  obtain ⟨c0, c1, c2, c3⟩ := h.cells
  have hlw := h.lwl
  by_cases hlt : lw.length < 4096
  · have HP := Lib.hid (fun q => h.push c hlt q)
    obtain ⟨⟨x, cx⟩, fx⟩ := h.room hlt
    have f2 := h.wb.frozen 2
    have n1 := h.wc
    have n2 : C ≠ W := fun e => n1 e.symm
    have HF : Hid (∀ q, WPost K V W C v (lb ++ lw ++ [c]) .nilIface w (.returned .nilIface) (((w.drewN q).setCell ⟨C, lw.length, none⟩ (.int .u8 (c.toNat : Int))).setCell ⟨W, 2, none⟩ (.int .i64 ((lw.length : Int) + 1)))) :=
      fun q => ⟨rfl, v, ⟨lb, lw ++ [c], (HP.out q).1, by rw [List.append_assoc]⟩, (HP.out q).2, OwnNew.refl _ _⟩
    have b0 : (0 : Int) ≤ (lw.length : Int) := by omega
    have b1 : (lw.length : Int) < 4096 := by omega
    have b2 : ¬ 4096 - (lw.length : Int) ≤ 0 := by omega
    have e1 : IntKind.i64.wrap ((lw.length : Int) + 1) = (lw.length : Int) + 1 := IntWalk.i64_in _ (by omega)
    clear h HP
    go_enter Tryd.func112, Tryd.ntmps112
    go_wp2_with (go_at_call 128; (with_reducible refine AV.mono ?_); rintro e w1 ⟨rfl, q, rfl⟩)
    go_region_held3 (fun w' => w'.cell? ⟨W, 1, none⟩ = some (.slice (some ⟨C, 0, none⟩) 4096 4096) ∧ w'.cell? ⟨W, 2, none⟩ = some (.int .i64 (lw.length : Int))) (go_keep) ((fail))
    go_wp2_with fail
    go_ret
    exact HF.out _
  · have h4 : lw.length = 4096 := by omega
    have FL := Lib.hid (fun q => flush_any K V W C v lb lw (w.drewN q) (h.drewN q) (by omega))
    have b2 : 4096 - (lw.length : Int) ≤ 0 := by omega
    have HF : Hid (∀ q e w1, FlushPost K V W C v lb lw (w.drewN q) e w1 → e = .returned .nilIface ∧ (w1.cell? ⟨W, 0, none⟩ = some .nilIface ∧ w1.cell? ⟨W, 1, none⟩ = some (.slice (some ⟨C, 0, none⟩) 4096 4096) ∧ w1.cell? ⟨W, 2, none⟩ = some (.int .i64 0)) ∧ (∃ x, w1.cell? ⟨C, 0, none⟩ = some x) ∧ w1.frozen? ⟨C, 0, none⟩ = false ∧ w1.frozen? ⟨W, 2, none⟩ = false ∧
        Hid (∀ q, WPost K V W C v (lb ++ lw ++ [c]) .nilIface w (.returned .nilIface) (((w1.drewN q).setCell ⟨C, 0, none⟩ (.int .u8 (c.toNat : Int))).setCell ⟨W, 2, none⟩ (.int .i64 1)))) := by
      rintro q e w1 ⟨rfl, v', h1, hT, ho⟩
      obtain ⟨d0, d1, d2, d3⟩ := h1.cells
      obtain ⟨hx, fx⟩ := h1.room (by decide)
      refine ⟨rfl, ⟨d0, d1, d2⟩, hx, fx, h1.wb.frozen 2, fun q' => ?_⟩
      obtain ⟨g1, g2⟩ := h1.push c (by decide) q'
      have hT0 : Turned ([V, W, C] ++ ownL v) w w1 := ((Turned.refl _ _).drewN q).trans hT
      exact ⟨rfl, v', ⟨lb ++ lw, [c], g1, rfl⟩, hT0.own ho g2, ho⟩
    have n1 := h.wc
    have n2 : C ≠ W := fun e => n1 e.symm
    clear h h4 hlt hlw
    go_enter Tryd.func112, Tryd.ntmps112
    go_wp2_with (first | (go_at_call 128; (with_reducible refine AV.mono ?_); rintro e w1 ⟨rfl, q, rfl⟩) | (go_at_call 57; (with_reducible refine (FL.out _).mono ?_); intro e w1 hP; obtain ⟨rfl, ⟨d0, d1, d2⟩, ⟨x, cx⟩, fx, f2, hF⟩ := HF.out _ _ _ hP; clear hP))
    go_region_held3 (fun w' => w'.cell? ⟨W, 1, none⟩ = some (.slice (some ⟨C, 0, none⟩) 4096 4096) ∧ w'.cell? ⟨W, 2, none⟩ = some (.int .i64 0)) (go_keep) ((fail))
    go_wp2_with fail
    go_ret
    exact hF.out _
end Go.Proofs.YthobojpbdeepoaaDoor
