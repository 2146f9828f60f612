/-
  The contracts of bufio.Writer over a bytes.Buffer: Available, Flush, WriteByte.
-/
import Derived.Test.YthobojpbdeepoaaDoorBufWrite
import Derived.Deep.RegionHeld3
namespace Go.Proofs.YthobojpbdeepoaaDoor
open Go.RowKit

/-- A bufio.Writer at W with its row C over the buffer at V: lb is in the buffer, lw waits in the row. -/
structure Wr (w : World) (K V W C : Nat) (v : Value) (lb lw : List UInt8) : Prop where
  vb : BufAt w K V v lb
  wb : Blk w W 151 #[.nilIface, .slice (some ⟨C, 0, none⟩) 4096 4096, .int .i64 (lw.length : Int), .iface 85 (.pointer (some ⟨V, 0, none⟩))]
  cb : ∃ cur : List Value, Blk w C 5 cur.toArray ∧ cur.length = 4096 ∧ cur.take lw.length = by8 lw
  lwl : lw.length ≤ 4096
  kw : K ≤ W
  kc : K ≤ C
  ne : v.ownBlock ≠ some C

/-- The blocks that may turn. -/
abbrev wrB (V W C : Nat) (v : Value) : List Nat := V :: W :: C :: ownL v
/-- The buffer's row is the old one or new. -/
def OwnNew (w : World) (v v' : Value) : Prop := ∀ x, v'.ownBlock = some x → v.ownBlock = some x ∨ w.heap.size ≤ x
theorem OwnNew.refl (w : World) (v : Value) : OwnNew w v v := fun _ h => .inl h
theorem OwnNew.trans {w w1 : World} {v v1 v2 : Value} (h : OwnNew w v v1) (hs : w.heap.size ≤ w1.heap.size) (k : OwnNew w1 v1 v2) : OwnNew w v v2 := fun x hx => by
  rcases k x hx with h1 | h1
  · exact h x h1
  · exact .inr (Nat.le_trans hs h1)
theorem Turned.own {S : List Nat} {w w1 w2 : World} {v v1 : Value} (h : Turned (S ++ ownL v) w w1) (ho : OwnNew w v v1) (k : Turned (S ++ ownL v1) w1 w2) : Turned (S ++ ownL v) w w2 := by
  refine ⟨k.os.trans h.os, k.tape.trans h.tape, k.output.trans h.output, Nat.le_trans h.size k.size, fun i hi hn => (k.block i (Nat.lt_of_lt_of_le hi h.size) (fun hx => ?_)).trans (h.block i hi hn)⟩
  rcases List.mem_append.1 hx with hx | hx
  · exact hn (List.mem_append_left _ hx)
  · rcases ho i (mem_ownL hx) with h1 | h1
    · refine hn (List.mem_append_right _ ?_)
      cases v <;> simp [Value.ownBlock] at h1
      rename_i a n c
      cases a
      · simp at h1
      · simp at h1
        simp [ownL, h1]
    · omega

section
variable {w w1 : World} {K V W C : Nat} {v : Value} {lb lw : List UInt8}
theorem Wr.vw (h : Wr w K V W C v lb lw) : V ≠ W := by
  obtain ⟨lr, hb⟩ := h.vb.blk
  exact hb.ne_ h.wb (by decide)
theorem Wr.vc (h : Wr w K V W C v lb lw) : V ≠ C := by
  obtain ⟨lr, hb⟩ := h.vb.blk
  obtain ⟨cur, hc, _⟩ := h.cb
  exact hb.ne_ hc (by decide)
theorem Wr.wc (h : Wr w K V W C v lb lw) : W ≠ C := by
  obtain ⟨cur, hc, _⟩ := h.cb
  exact h.wb.ne_ hc (by decide)
theorem Wr.wo (h : Wr w K V W C v lb lw) : W ∉ ownL v := fun hx => by
  have h1 := mem_ownL hx
  rcases h.vb.own.2 with ⟨rfl, _⟩ | ⟨g, cap, cur, rfl, _, hg, _⟩
  · cases h1
  · have : g = W := by simpa [Value.ownBlock] using h1
    subst this
    have h2 : Blk w g 5 cur := hg
    exact h.wb.ne_ h2 (by decide) rfl
theorem Wr.cells (h : Wr w K V W C v lb lw) : w.cell? ⟨W, 0, none⟩ = some .nilIface ∧ w.cell? ⟨W, 1, none⟩ = some (.slice (some ⟨C, 0, none⟩) 4096 4096) ∧ w.cell? ⟨W, 2, none⟩ = some (.int .i64 (lw.length : Int)) ∧
    w.cell? ⟨W, 3, none⟩ = some (.iface 85 (.pointer (some ⟨V, 0, none⟩))) := by
  refine ⟨?_, ?_, ?_, ?_⟩ <;> (rw [h.wb.cell]; rfl)
theorem Wr.drewN (h : Wr w K V W C v lb lw) (q : Nat) : Wr (w.drewN q) K V W C v lb lw := by
  obtain ⟨lr, hb⟩ := h.vb.blk
  obtain ⟨cur, hc, h2⟩ := h.cb
  exact ⟨⟨h.vb.kv, ⟨lr, hb.drewN q⟩, own_keepS h.vb.own ((Turned.refl [] w).drewN q) (by simp), h.vb.nz⟩, h.wb.drewN q, ⟨cur, hc.drewN q, h2⟩, h.lwl, h.kw, h.kc, h.ne⟩
end

theorem avail_any (K V W C : Nat) (v : Value) (lb lw : List UInt8) (w : World) (h : Wr w K V W C v lb lw) :
    Calls Tryd.prog 128 #[.pointer (some ⟨W, 0, none⟩)] w fun e w' => e = .returned (.int .i64 (4096 - (lw.length : Int))) ∧ ∃ q, w' = w.drewN q := by
  obtain ⟨c0, c1, c2, c3⟩ := h.cells
  have hl := h.lwl
  have e1 : IntKind.i64.wrap (4096 - (lw.length : Int)) = 4096 - (lw.length : Int) := IntWalk.i64_in _ (by omega)
  clear h
  go_enter Tryd.func128, Tryd.ntmps128
  go_wp2_with fail
  go_quiet (fail)
  go_wp2_with fail
  go_ret
  exact ⟨rfl, _, rfl⟩

theorem buf_method (a : Addr) (w : World) : (method 348 85 (.pointer (some a)) "Write").run Tryd.prog w = .ok (171, .pointer (some a)) w := by kernel_rfl

/-- What Flush leaves. -/
def FlushPost (K V W C : Nat) (v : Value) (lb lw : List UInt8) (w : World) (e : Ending) (w' : World) : Prop :=
  e = .returned .nilIface ∧ ∃ v', Wr w' K V W C v' (lb ++ lw) [] ∧ Turned ([V, W, C] ++ ownL v) w w' ∧ OwnNew w v v'

theorem flush_post {K V W C : Nat} {v : Value} {lb lw : List UInt8} {w wd w1 : World} {e : Ending} (h : Wr w K V W C v lb lw) (hT : Turned [] w wd) (hb : BWPost K V v lb lw wd e w1) :
    e = .returned (.tuple #[.int .i64 (lw.length : Int), .nilIface]) ∧ (w1.cell? ⟨W, 0, none⟩ = some .nilIface ∧ w1.cell? ⟨W, 1, none⟩ = some (.slice (some ⟨C, 0, none⟩) 4096 4096) ∧ w1.cell? ⟨W, 2, none⟩ = some (.int .i64 (lw.length : Int)) ∧ w1.cell? ⟨W, 3, none⟩ = some (.iface 85 (.pointer (some ⟨V, 0, none⟩)))) ∧
      w1.frozen? ⟨W, 2, none⟩ = false ∧ Hid (FlushPost K V W C v lb lw w (.returned .nilIface) (w1.setCell ⟨W, 2, none⟩ (.int .i64 0))) := by
  obtain ⟨rfl, v', hV, hT1, ho⟩ := hb
  have hwv := h.vw
  have hcv := h.vc
  have hwc := h.wc
  have hwo := h.wo
  obtain ⟨cur, hc, hcl, hcx⟩ := h.cb
  have hW1 : Blk w1 W 151 _ := hT1.blk (hT.blk h.wb (by simp)) (by simp; exact ⟨fun e => hwv e.symm, hwo⟩)
  have hCo : C ∉ ownL v := fun hx => h.ne (mem_ownL hx)
  have hC1 : Blk w1 C 5 cur.toArray := hT1.blk (hT.blk hc (by simp)) (by simp; exact ⟨fun e => hcv e.symm, hCo⟩)
  have hs0 := hT.size
  refine ⟨rfl, ⟨by rw [hW1.cell]; rfl, by rw [hW1.cell]; rfl, by rw [hW1.cell]; rfl, by rw [hW1.cell]; rfl⟩, hW1.frozen 2, rfl, v', ⟨?_, ?_, ⟨cur, hC1.far (by simpa using hwc.symm) _, hcl, rfl⟩, Nat.zero_le _, h.kw, h.kc, ?_⟩, ?_, ?_⟩
  · obtain ⟨lr, hv⟩ := hV.blk
    refine ⟨hV.kv, ⟨lr, hv.far (by simpa using hwv) _⟩, own_keepS hV.own ((Turned.refl [W] w1).setCell (.inl (by simp)) _) (fun x hx he => ?_), hV.nz⟩
    simp at hx
    subst hx
    rcases hV.own.2 with ⟨rfl, _⟩ | ⟨g, cap, cu, rfl, _, hg, _⟩
    · cases he
    · have : g = x := by simpa [Value.ownBlock] using he.symm
      subst this
      have h2 : Blk w1 g 5 cu := hg
      exact hW1.ne_ h2 (by decide) rfl
  · simpa using hW1.set_ 2 (.int .i64 0)
  · intro he
    rcases ho C he with h1 | h1
    · exact h.ne h1
    · have := hc.lt; omega
  · exact ((hT.mono (by simp)).trans (hT1.mono (fun x hx => by
      rcases List.mem_cons.1 hx with rfl | hx
      · simp
      · exact List.mem_append_right _ hx))).setCell (.inl (by simp)) _
  · intro x hx
    rcases ho x hx with h1 | h1
    · exact .inl h1
    · exact .inr (Nat.le_trans hs0 h1)

set_option maxRecDepth 100000 in
set_option maxHeartbeats 4000000 in
theorem flush_any (K V W C : Nat) (v : Value) (lb lw : List UInt8) (w : World) (h : Wr w K V W C v lb lw) (hl : lb.length + lw.length ≤ 1073741824) :
    Calls Tryd.prog 57 #[.pointer (some ⟨W, 0, none⟩)] w (FlushPost K V W C v lb lw w) := by
  obtain ⟨c0, c1, c2, c3⟩ := h.cells
  by_cases h0 : lw.length = 0
  · have hnil : lw = [] := List.eq_nil_of_length_eq_zero h0
    subst hnil
    have HF : Hid (FlushPost K V W C v lb [] w (.returned .nilIface) w) := ⟨rfl, v, by simpa using h, Turned.refl _ _, OwnNew.refl _ _⟩
    clear h
    go_enter Tryd.func57, Tryd.ntmps57
    go_wp2_with fail
    go_ret
    exact HF.out
  · have t0 : ((lw.length : Int) == 0) = false := beq_eq_false_iff_ne.2 (by omega)
    have hlw := h.lwl
    obtain ⟨cur, hc, hcl, hcx⟩ := h.cb
    have hrow : Row8 w C 0 lw := by
      intro j u hu
      have h2 := hc.cell (0 + j)
      have h3 : cur[j]? = some (.int .u8 (u.toNat : Int)) := by
        have h4 := by8_get hu
        rw [← hcx] at h4
        rw [List.getElem?_take] at h4
        split at h4
        · exact h4
        · cases h4
      rw [Nat.zero_add] at h2 ⊢
      rw [h2]; simpa using h3
    obtain ⟨lr, hvb⟩ := h.vb.blk
    have hTd : Turned [] w w.drew := (Turned.refl _ _).drew
    have BW := Lib.hid (bufWrite_any K V v lb lw C 0 4096 w.drew ⟨h.vb.kv, ⟨lr, hvb.drew⟩, own_keepS h.vb.own hTd (by simp), h.vb.nz⟩ (hrow.of_block rfl) h.vc.symm h.ne hc.lt (by omega) hl)
    have HF := Lib.hid (fun e w1 => flush_post (e := e) (w1 := w1) h hTd)
    have bm := buf_method ⟨V, 0, none⟩
    have b0 : (0 : Int) ≤ (lw.length : Int) := by omega
    have b1 : (lw.length : Int) ≤ 4096 := by omega
    clear h hc hcx hcl hrow hvb hTd
    go_enter Tryd.func57, Tryd.ntmps57
    go_wp2_with fail
    go_region_held3 (fun w' => w'.cell? ⟨W, 0, none⟩ = some .nilIface ∧ w'.cell? ⟨W, 1, none⟩ = some (.slice (some ⟨C, 0, none⟩) 4096 4096) ∧ w'.cell? ⟨W, 2, none⟩ = some (.int .i64 (lw.length : Int)) ∧ w'.cell? ⟨W, 3, none⟩ = some (.iface 85 (.pointer (some ⟨V, 0, none⟩)))) (go_keep)
      (first | (go_at_call 171; (with_reducible refine BW.out.mono ?_); intro e w1 hP; obtain ⟨rfl, ⟨d0, d1, d2, d3⟩, f2, hF⟩ := HF.out _ _ hP; clear hP))
    clear BW HF
    go_wp2_with fail
    go_ret
    exact hF.out
end Go.Proofs.YthobojpbdeepoaaDoor
