/-
  The contracts of (*textproto.dotWriter).Write and Close.
-/
import Derived.Test.YthobojpbdeepoaaDoorWriteRow
namespace Go.Proofs.YthobojpbdeepoaaDoor
open Go.RowKit

/-- A dotWriter at D in state st over the textproto.Writer at T. -/
structure Dw (w : World) (K T D W st : Nat) : Prop where
  kt : K ≤ T
  kd : K ≤ D
  tb : Blk w T 147 #[.pointer (some ⟨W, 0, none⟩), .pointer (some ⟨D, 0, none⟩)]
  db : Blk w D 149 #[.pointer (some ⟨T, 0, none⟩), .int .i64 (st : Int)]

section
variable {w w1 : World} {K V W C T D st : Nat} {v : Value} {l : List UInt8}
theorem Wl.notIn (h : Wl w K V W C v l) {g : Nat} {t : TypeId} {cs : Array Value} (hb : Blk w g t cs) (h1 : t ≠ 82) (h2 : t ≠ 151) (h3 : t ≠ 5) : g ∉ [V, W, C] ++ ownL v := by
  obtain ⟨lb, lw, hw, _⟩ := h
  obtain ⟨lr, hv⟩ := hw.vb.blk
  obtain ⟨cur, hc, _⟩ := hw.cb
  intro hm
  rcases List.mem_append.1 hm with hm | hm
  · simp at hm
    rcases hm with rfl | rfl | rfl
    · exact hb.ne_ hv h1 rfl
    · exact hb.ne_ hw.wb h2 rfl
    · exact hb.ne_ hc h3 rfl
  · have h5 := mem_ownL hm
    rcases hw.vb.own.2 with ⟨rfl, _⟩ | ⟨g', cap, cu, rfl, _, hg, _⟩
    · cases h5
    · have : g' = g := by simpa [Value.ownBlock] using h5
      subst this
      have h6 : Blk w g' 5 cu := hg
      exact hb.ne_ h6 h3 rfl
theorem mem_own {v : Value} {x : Nat} (h : v.ownBlock = some x) : x ∈ ownL v := by
  cases v <;> simp [Value.ownBlock] at h
  rename_i a n c
  cases a
  · simp at h
  · simp at h
    simp [ownL, h]
/-- The writer behind changes elsewhere. -/
theorem Wl.off (h : Wl w K V W C v l) {S : List Nat} (hT : Turned S w w1) (hS : ∀ x, x ∈ S → x ∉ [V, W, C] ++ ownL v) : Wl w1 K V W C v l := by
  obtain ⟨lb, lw, hw, he⟩ := h
  obtain ⟨lr, hv⟩ := hw.vb.blk
  obtain ⟨cur, hc, h2⟩ := hw.cb
  have hn : ∀ y, y ∈ [V, W, C] ++ ownL v → y ∉ S := fun y hy hs => hS y hs hy
  exact ⟨lb, lw, ⟨⟨hw.vb.kv, ⟨lr, hT.blk hv (hn V (by simp))⟩, own_keepS hw.vb.own hT (fun x hx he2 => hS x hx (List.mem_append_right _ (mem_own he2.symm))), hw.vb.nz⟩, hT.blk hw.wb (hn W (by simp)), ⟨cur, hT.blk hc (hn C (by simp)), h2⟩, hw.lwl, hw.kw, hw.kc, hw.ne⟩, he⟩
theorem Dw.ne (h : Dw w K T D W st) : T ≠ D := h.tb.ne_ h.db (by decide)
theorem Dw.keep (h : Dw w K T D W st) (hw : Wl w K V W C v l) (hT : Turned ([V, W, C] ++ ownL v) w w1) : Dw w1 K T D W st :=
  ⟨h.kt, h.kd, hT.blk h.tb (hw.notIn h.tb (by decide) (by decide) (by decide)), hT.blk h.db (hw.notIn h.db (by decide) (by decide) (by decide))⟩
theorem Dw.to (h : Dw w K T D W st) (st' : Nat) : Dw (w.setCell ⟨D, 1, none⟩ (.int .i64 (st' : Int))) K T D W st' :=
  ⟨h.kt, h.kd, h.tb.far (by simpa using h.ne) _, by simpa using h.db.set_ 1 (.int .i64 (st' : Int))⟩
theorem Dw.cells (h : Dw w K T D W st) : w.cell? ⟨T, 0, none⟩ = some (.pointer (some ⟨W, 0, none⟩)) ∧ w.cell? ⟨D, 0, none⟩ = some (.pointer (some ⟨T, 0, none⟩)) ∧ w.cell? ⟨D, 1, none⟩ = some (.int .i64 (st : Int)) ∧ w.frozen? ⟨D, 1, none⟩ = false := by
  have hb := h.tb
  have hd := h.db
  exact ⟨by rw [hb.cell]; rfl, by rw [hd.cell]; rfl, by rw [hd.cell]; rfl, hd.frozen 1⟩
end

/-- The two together: l is written, the machine stands at st. -/
structure DW (w : World) (K V W C T D st : Nat) (v : Value) (l : List UInt8) : Prop where
  wl : Wl w K V W C v l
  dw : Dw w K T D W st
/-- What a step leaves. -/
structure DWStep (w w' : World) (K V W C T D : Nat) (v : Value) (st' : Nat) (l' : List UInt8) (v' : Value) : Prop where
  dw : DW w' K V W C T D st' v' l'
  tu : Turned ([D, V, W, C] ++ ownL v) w w'
  own : OwnNew w v v'

section
variable {w w1 w2 : World} {K V W C T D st st1 : Nat} {v v1 v2 : Value} {l l1 l2 : List UInt8} {r : Value} {e : Ending}
theorem DWStep.refl (h : DW w K V W C T D st v l) : DWStep w w K V W C T D v st l v := ⟨h, Turned.refl _ _, OwnNew.refl _ _⟩
theorem DWStep.then (h : DWStep w w1 K V W C T D v st1 l1 v1) (h2 : WPost K V W C v1 l2 r w1 e w2) : e = .returned r ∧ ∃ v2, DWStep w w2 K V W C T D v st1 l2 v2 := by
  obtain ⟨rfl, v2, g1, g2, g3⟩ := h2
  have h4 : Turned ([D, V, W, C] ++ ownL v1) w1 w2 := g2.mono (fun x hx => List.mem_cons_of_mem _ hx)
  exact ⟨rfl, v2, ⟨g1, h.dw.dw.keep h.dw.wl g2⟩, h.tu.own h.own h4, h.own.trans h.tu.size g3⟩
theorem DWStep.to (h : DWStep w w1 K V W C T D v st1 l1 v1) (st' : Nat) : DWStep w (w1.setCell ⟨D, 1, none⟩ (.int .i64 (st' : Int))) K V W C T D v st' l1 v1 := by
  have hT : Turned [D] w1 (w1.setCell ⟨D, 1, none⟩ (.int .i64 (st' : Int))) := (Turned.refl _ _).setCell (.inl (by simp)) _
  refine ⟨⟨h.dw.wl.off hT (fun x hx => by simp at hx; subst hx; exact h.dw.wl.notIn h.dw.dw.db (by decide) (by decide) (by decide)), h.dw.dw.to st'⟩, h.tu.setCell (.inl (by simp)) _, h.own⟩
theorem DWStep.off (h : DWStep w w1 K V W C T D v st1 l1 v1) {P : Nat} (hP : P ∉ [D, V, W, C] ++ ownL v) (hl : P < w.heap.size) : w1.heap[P]? = w.heap[P]? := h.tu.block P hl hP
theorem DWStep.call (h : DWStep w w1 K V W C T D v st1 l1 v1) (c : UInt8) (hl : l1.length ≤ 1073741824) : Calls Tryd.prog 112 #[.pointer (some ⟨W, 0, none⟩), .int .u8 (c.toNat : Int)] w1
    (fun e w2 => e = .returned .nilIface ∧ ∃ v2, Hid (DWStep w w2 K V W C T D v st1 (l1 ++ [c]) v2) ∧ w2.cell? ⟨D, 1, none⟩ = some (.int .i64 (st1 : Int)) ∧ w2.frozen? ⟨D, 1, none⟩ = false) :=
  (writeByte_any K V W C v1 l1 c w1 h.dw.wl hl).mono (fun e w2 hP => by
    obtain ⟨h1, v2, h2⟩ := h.then hP
    exact ⟨h1, v2, h2, h2.dw.dw.cells.2.2.1, h2.dw.dw.cells.2.2.2⟩)
theorem DWStep.call46 (h : DWStep w w1 K V W C T D v st1 l1 v1) (hl : l1.length ≤ 1073741824) : Calls Tryd.prog 112 #[.pointer (some ⟨W, 0, none⟩), .int .u8 46] w1
    (fun e w2 => e = .returned .nilIface ∧ ∃ v2, Hid (DWStep w w2 K V W C T D v st1 (l1 ++ [46]) v2) ∧ w2.cell? ⟨D, 1, none⟩ = some (.int .i64 (st1 : Int)) ∧ w2.frozen? ⟨D, 1, none⟩ = false) := h.call 46 hl
theorem DWStep.call13 (h : DWStep w w1 K V W C T D v st1 l1 v1) (hl : l1.length ≤ 1073741824) : Calls Tryd.prog 112 #[.pointer (some ⟨W, 0, none⟩), .int .u8 13] w1
    (fun e w2 => e = .returned .nilIface ∧ ∃ v2, Hid (DWStep w w2 K V W C T D v st1 (l1 ++ [13]) v2) ∧ w2.cell? ⟨D, 1, none⟩ = some (.int .i64 (st1 : Int)) ∧ w2.frozen? ⟨D, 1, none⟩ = false) := h.call 13 hl
theorem DWStep.call10 (h : DWStep w w1 K V W C T D v st1 l1 v1) (hl : l1.length ≤ 1073741824) : Calls Tryd.prog 112 #[.pointer (some ⟨W, 0, none⟩), .int .u8 10] w1
    (fun e w2 => e = .returned .nilIface ∧ ∃ v2, Hid (DWStep w w2 K V W C T D v st1 (l1 ++ [10]) v2) ∧ w2.cell? ⟨D, 1, none⟩ = some (.int .i64 (st1 : Int)) ∧ w2.frozen? ⟨D, 1, none⟩ = false) := h.call 10 hl
theorem DWStep.to3 (h : DWStep w w1 K V W C T D v st1 l1 v1) : DWStep w (w1.setCell ⟨D, 1, none⟩ (.int .i64 3)) K V W C T D v 3 l1 v1 := h.to 3
theorem DWStep.to1 (h : DWStep w w1 K V W C T D v st1 l1 v1) : DWStep w (w1.setCell ⟨D, 1, none⟩ (.int .i64 1)) K V W C T D v 1 l1 v1 := h.to 1
end
theorem estep_len (st : Nat) (c : UInt8) : (estep st c).1.length ≤ 2 := by
  unfold estep
  repeat' split
  all_goals first | (simp; done) | (rename_i h1 h2; subst h1; exact absurd h2 (by decide))
theorem encW_len : ∀ (l : List UInt8) (st : Nat), (encW l st).1.length ≤ 2 * l.length
  | [], _ => Nat.le_refl _
  | c :: cs, st => by
    have h1 := estep_len st c
    have h2 := encW_len cs (estep st c).2
    rw [encW_cons]
    show ((estep st c).1 ++ _).length ≤ _
    rw [List.length_append, List.length_cons]; omega
theorem encW_one (l : List UInt8) (c : UInt8) (st : Nat) : encW (l ++ [c]) st = ((encW l st).1 ++ (estep (encW l st).2 c).1, (estep (encW l st).2 c).2) := by
  rw [encW_append, encW_cons]
  simp [encW]
/-- What a round of the dotWriter's Write keeps. -/
structure DWR (w : World) (K V W C T D : Nat) (v : Value) (st : Nat) (l cs : List UInt8) (m : Nat) (v1 : Value) (wr : World) : Prop where
  sp : DWStep w wr K V W C T D v (encW (cs.take m) st).2 (l ++ (encW (cs.take m) st).1) v1
  le : m ≤ cs.length
theorem DWR.len {w wr : World} {K V W C T D st m : Nat} {v v1 : Value} {l cs : List UInt8} (_ : DWR w K V W C T D v st l cs m v1 wr) (hl : l.length + 2 * cs.length ≤ 1073741000) : (l ++ (encW (cs.take m) st).1).length ≤ 1073741000 := by
  have h1 := encW_len (cs.take m) st
  have h2 : (cs.take m).length ≤ cs.length := by rw [List.length_take]; omega
  rw [List.length_append]; omega
theorem DWR.next {w wr : World} {K V W C T D st m : Nat} {v v1 : Value} {l cs : List UInt8} {c : UInt8} (hc : cs[m]? = some c) {out : List UInt8} {st2 : Nat} (he : estep (encW (cs.take m) st).2 c = (out, st2))
    (h : DWStep w wr K V W C T D v st2 (l ++ (encW (cs.take m) st).1 ++ out) v1) : DWR w K V W C T D v st l cs (m + 1) v1 wr := by
  obtain ⟨hm, hx⟩ := List.getElem?_eq_some_iff.1 hc
  have e1 : cs.take (m + 1) = cs.take m ++ [c] := by rw [List.take_add_one, hc]; rfl
  have e2 := encW_one (cs.take m) c st
  rw [he] at e2
  refine ⟨?_, hm⟩
  rw [e1, e2]
  simpa [List.append_assoc] using h

set_option maxRecDepth 100000 in
set_option maxHeartbeats 8000000 in
theorem dwWrite_any (K V W C T D st : Nat) (v : Value) (l cs : List UInt8) (pp : Option Addr) (P o0 c0 : Nat) (w : World) (h : DW w K V W C T D st v l) (hst : st = 0 ∨ st = 1 ∨ st = 3) (hcs : ∀ c, c ∈ cs → c ≠ 13)
    (hpp : 0 < cs.length → pp = some ⟨P, o0, none⟩ ∧ P ∉ [D, V, W, C] ++ ownL v ∧ P < w.heap.size ∧ Row8 w P o0 cs) (hl : l.length + 2 * cs.length ≤ 1073741000) :
    Calls Tryd.prog 186 #[.pointer (some ⟨D, 0, none⟩), .slice pp cs.length c0] w (fun e w' => e = .returned (.tuple #[.int .i64 (cs.length : Int), .nilIface]) ∧
      ∃ v', DWStep w w' K V W C T D v (encW cs st).2 (l ++ (encW cs st).1) v') := by
  have H0 : Hid (DWR w K V W C T D v st l cs 0 v w) := ⟨by simpa [encW] using DWStep.refl h, Nat.zero_le _⟩
  have HP := Lib.hid hpp
  have HST := Lib.hid hst
  have HCS := Lib.hid hcs
  have HL := Lib.hid hl
  obtain ⟨dT, dD, _, _⟩ := h.dw.cells
  clear h hpp hst hcs hl
  go_enter Tryd.func186, Tryd.ntmps186
  go_wp2_with fail
  go_loopg [4, 5] cs.length (fun g n er wr => ∃ m v1, DWR w K V W C T D v st l cs m v1 wr ∧ n = .int .i64 ((m : Nat) : Int) ∧ er = .nilIface ∧ cs.length - m ≤ g)
  case atStart => exact ⟨0, v, H0.out, rfl, rfl, Nat.le_refl _⟩
  case round =>
    obtain ⟨m, v1, hr, rfl, rfl, hg⟩ := hrel
    have hle := hr.le
    by_cases hlt : m < cs.length
    · obtain ⟨c, hc⟩ : ∃ c, cs[m]? = some c := ⟨_, List.getElem?_eq_getElem hlt⟩
      obtain ⟨rfl, hPn, hPs, hrow⟩ := HP.out (by omega)
      have hc13 : c ≠ 13 := HCS.out c (List.mem_of_getElem? hc)
      have cc : wr.cell? ⟨P, o0 + m, none⟩ = some (.int .u8 (c.toNat : Int)) := (hrow.of_block (hr.sp.off hPn hPs)) m c hc
      have d0 : (m : Int) < (cs.length : Int) := by omega
      have d1 : (0 : Int) ≤ (m : Int) := by omega
      have e1 : IntKind.i64.wrap ((m : Int) + 1) = (m : Int) + 1 := IntWalk.i64_in _ (by have := HL.out; omega)
      have hlen := hr.len HL.out
      have hst1 := encW_st (cs.take m) st HST.out (fun x hx => HCS.out x (List.mem_of_mem_take hx))
      have HN := Lib.hid (fun out st2 he v1 wr => DWR.next (w := w) (wr := wr) (K := K) (V := V) (W := W) (C := C) (T := T) (D := D) (st := st) (v := v) (v1 := v1) (l := l) (out := out) (st2 := st2) hc he)
      obtain ⟨st1, hs1⟩ : ∃ st1, st1 = (encW (cs.take m) st).2 := ⟨_, rfl⟩
      obtain ⟨l1, hl1⟩ : ∃ l1, l1 = l ++ (encW (cs.take m) st).1 := ⟨_, rfl⟩
      have HS := Lib.hid hr.sp
      rw [← hs1] at HS HN hst1
      rw [← hl1] at HS HN hlen
      have cD := HS.out.dw.dw.cells.2.2.1
      have fD := HS.out.dw.dw.cells.2.2.2
      clear hr hs1 hl1 hPn hPs hrow hle hc
      have HG : Hid (cs.length - (m + 1) ≤ gk - 1 ∧ 0 < gk) := ⟨by omega, by omega⟩
      have b13 : ((c.toNat : Int) == 13) = false := beq_eq_false_iff_ne.2 (fun h => hc13 (UInt8.toNat_inj.1 (by show c.toNat = 13; omega)))
      have HS3 := Lib.hid HS.out.to3
      have fD3 := HS3.out.dw.dw.cells.2.2.2
      have HLn : Hid (l1.length ≤ 1073741000) := hlen
      by_cases h10 : c = 10
      · subst h10
        have HE : Hid ((st1 = 3 → estep st1 10 = ([13, 10], 1)) ∧ (st1 ≠ 3 → estep st1 10 = ([13, 10], 1))) := by
          constructor
          · rintro rfl; rfl
          · intro h; rcases hst1 with rfl | rfl | rfl
            · rfl
            · rfl
            · exact absurd rfl h
        clear b13 hc13
        change wr.cell? ⟨P, o0 + m, none⟩ = some (.int .u8 10) at cc
        rcases hst1 with rfl | rfl | rfl
        · have HE2 := Lib.hid (HE.out.2 (by decide))
          have C1 := Lib.hid (HS3.out.call13 (by have := HLn.out; omega))
          go_wp2_with (go_at_call 112; (with_reducible refine C1.out.mono ?_); rintro e w2 ⟨rfl, v2, h2, cD2, fD2⟩)
          have h3 := Lib.hid h2.out.to1
          have C2 := Lib.hid (h3.out.call10 (by have := HLn.out; rw [List.length_append]; show l1.length + 1 ≤ _; omega))
          go_wp2_with (go_at_call 112; (with_reducible refine C2.out.mono ?_); rintro e w4 ⟨rfl, v4, h4, cD4, fD4⟩)
          go_roundg (gk - 1)
          case rel => exact ⟨m + 1, v4, HN.out _ _ HE2.out _ _ (by simpa using h4.out), rfl, rfl, HG.out.1⟩
          case measure => have := HG.out.2; omega
        · have HE2 := Lib.hid (HE.out.2 (by decide))
          have C1 := Lib.hid (HS3.out.call13 (by have := HLn.out; omega))
          go_wp2_with (go_at_call 112; (with_reducible refine C1.out.mono ?_); rintro e w2 ⟨rfl, v2, h2, cD2, fD2⟩)
          have h3 := Lib.hid h2.out.to1
          have C2 := Lib.hid (h3.out.call10 (by have := HLn.out; rw [List.length_append]; show l1.length + 1 ≤ _; omega))
          go_wp2_with (go_at_call 112; (with_reducible refine C2.out.mono ?_); rintro e w4 ⟨rfl, v4, h4, cD4, fD4⟩)
          go_roundg (gk - 1)
          case rel => exact ⟨m + 1, v4, HN.out _ _ HE2.out _ _ (by simpa using h4.out), rfl, rfl, HG.out.1⟩
          case measure => have := HG.out.2; omega
        · have HE2 := Lib.hid (HE.out.1 rfl)
          have C1 := Lib.hid (HS.out.call13 (by have := HLn.out; omega))
          go_wp2_with (go_at_call 112; (with_reducible refine C1.out.mono ?_); rintro e w2 ⟨rfl, v2, h2, cD2, fD2⟩)
          have h3 := Lib.hid h2.out.to1
          have C2 := Lib.hid (h3.out.call10 (by have := HLn.out; rw [List.length_append]; show l1.length + 1 ≤ _; omega))
          go_wp2_with (go_at_call 112; (with_reducible refine C2.out.mono ?_); rintro e w4 ⟨rfl, v4, h4, cD4, fD4⟩)
          go_roundg (gk - 1)
          case rel => exact ⟨m + 1, v4, HN.out _ _ HE2.out _ _ (by simpa using h4.out), rfl, rfl, HG.out.1⟩
          case measure => have := HG.out.2; omega
      · have b10 : ((c.toNat : Int) == 10) = false := beq_eq_false_iff_ne.2 (fun h => h10 (UInt8.toNat_inj.1 (by show c.toNat = 10; omega)))
        by_cases h46 : c = 46 ∧ st1 ≠ 3
        · obtain ⟨rfl, h3⟩ := h46
          have HE : Hid (estep st1 46 = ([46, 46], 3)) := by
            show estep st1 46 = _
            rcases hst1 with rfl | rfl | rfl
            · rfl
            · rfl
            · exact absurd rfl h3
          clear b13 b10 hc13 h10
          change wr.cell? ⟨P, o0 + m, none⟩ = some (.int .u8 46) at cc
          have C1 := Lib.hid (HS3.out.call46 (by have := HLn.out; omega))
          rcases hst1 with rfl | rfl | rfl
          · go_wp2_with (go_at_call 112; (with_reducible refine C1.out.mono ?_); rintro e w2 ⟨rfl, v2, h2, cD2, fD2⟩)
            have C2 := Lib.hid (h2.out.call46 (by have := HLn.out; rw [List.length_append]; show l1.length + 1 ≤ _; omega))
            go_wp2_with (go_at_call 112; (with_reducible refine C2.out.mono ?_); rintro e w4 ⟨rfl, v4, h4, cD4, fD4⟩)
            go_roundg (gk - 1)
            case rel => exact ⟨m + 1, v4, HN.out _ _ HE.out _ _ (by simpa using h4.out), rfl, rfl, HG.out.1⟩
            case measure => have := HG.out.2; omega
          · go_wp2_with (go_at_call 112; (with_reducible refine C1.out.mono ?_); rintro e w2 ⟨rfl, v2, h2, cD2, fD2⟩)
            have C2 := Lib.hid (h2.out.call46 (by have := HLn.out; rw [List.length_append]; show l1.length + 1 ≤ _; omega))
            go_wp2_with (go_at_call 112; (with_reducible refine C2.out.mono ?_); rintro e w4 ⟨rfl, v4, h4, cD4, fD4⟩)
            go_roundg (gk - 1)
            case rel => exact ⟨m + 1, v4, HN.out _ _ HE.out _ _ (by simpa using h4.out), rfl, rfl, HG.out.1⟩
            case measure => have := HG.out.2; omega
          · exact absurd rfl h3
        · have b46 : st1 ≠ 3 → ((c.toNat : Int) == 46) = false := fun h3 => beq_eq_false_iff_ne.2 (fun h => h46 ⟨UInt8.toNat_inj.1 (by show c.toNat = 46; omega), h3⟩)
          have HE : Hid (estep st1 c = ([c], 3)) := by
            show estep st1 c = _
            unfold estep
            rcases hst1 with rfl | rfl | rfl
            · have : c ≠ 46 := fun h => h46 ⟨h, by decide⟩
              simp [h10, this, hc13]
            · have : c ≠ 46 := fun h => h46 ⟨h, by decide⟩
              simp [h10, this, hc13]
            · simp [h10, hc13]
          have C1 := Lib.hid (HS.out.call c (by have := HLn.out; omega))
          have C2 := Lib.hid (HS3.out.call c (by have := HLn.out; omega))
          clear h46 h10 hc13
          rcases hst1 with rfl | rfl | rfl
          · replace b46 := b46 (by decide)
            go_wp2_with (go_at_call 112; (with_reducible refine C2.out.mono ?_); rintro e w2 ⟨rfl, v2, h2, cD2, fD2⟩)
            go_roundg (gk - 1)
            case rel => exact ⟨m + 1, v2, HN.out _ _ HE.out _ _ h2.out, rfl, rfl, HG.out.1⟩
            case measure => have := HG.out.2; omega
          · replace b46 := b46 (by decide)
            go_wp2_with (go_at_call 112; (with_reducible refine C2.out.mono ?_); rintro e w2 ⟨rfl, v2, h2, cD2, fD2⟩)
            go_roundg (gk - 1)
            case rel => exact ⟨m + 1, v2, HN.out _ _ HE.out _ _ h2.out, rfl, rfl, HG.out.1⟩
            case measure => have := HG.out.2; omega
          · clear b46
            go_wp2_with (go_at_call 112; (with_reducible refine C1.out.mono ?_); rintro e w2 ⟨rfl, v2, h2, cD2, fD2⟩)
            go_roundg (gk - 1)
            case rel => exact ⟨m + 1, v2, HN.out _ _ HE.out _ _ h2.out, rfl, rfl, HG.out.1⟩
            case measure => have := HG.out.2; omega
    · have HF : Hid (∃ v', DWStep w wr K V W C T D v (encW cs st).2 (l ++ (encW cs st).1) v') := by
        have h1 := hr.sp
        rw [List.take_of_length_le (by omega)] at h1
        exact ⟨v1, h1⟩
      have d0 : ¬ (m : Int) < (cs.length : Int) := by omega
      obtain rfl : m = cs.length := by omega
      clear hr
      go_wp2_with fail
      go_ret2
      exact ⟨rfl, HF.out⟩
end Go.Proofs.YthobojpbdeepoaaDoor
