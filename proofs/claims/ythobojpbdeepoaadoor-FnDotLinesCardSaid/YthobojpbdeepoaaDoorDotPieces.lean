/-
  The walk of impl.DotPieces.
-/
import Derived.Test.YthobojpbdeepoaaDoorDotTail
import Derived.WalkLawsBesides
namespace Go.Proofs.YthobojpbdeepoaaDoor
open Go.RowKit

/-- What is known of the slice of sizes. -/
def Ints (w : World) (a : Option Addr) (n : Nat) : Prop := n = 0 ∨ ∃ b off, a = some ⟨b, off, none⟩ ∧ b < w.heap.size ∧ ∀ i, i < n → ∃ z : Int, w.cell? ⟨b, off + i, none⟩ = some (.int .i64 z) ∧ -9223372036854775808 ≤ z ∧ z ≤ 9223372036854775807
theorem Ints.keep {w w' : World} {a : Option Addr} {n : Nat} (h : Ints w a n) (hT : Turned [] w w') : Ints w' a n := by
  rcases h with h | ⟨b, off, h1, h2, h3⟩
  · exact .inl h
  · refine .inr ⟨b, off, h1, Nat.lt_of_lt_of_le h2 hT.size, fun i hi => ?_⟩
    obtain ⟨z, hz, hb⟩ := h3 i hi
    exact ⟨z, (World.cell?_of_block (w := w) (hT.block b h2 (by simp))).trans hz, hb⟩

set_option maxRecDepth 100000 in
theorem sizeAt_any (a : Option Addr) (n cap : Nat) (i : Nat) (w : World) (h : Ints w a n) (hn : n ≤ 2147483647) (hi : i ≤ 4294967296) :
    Calls Tryd.prog 60 #[.slice a n cap, .int .i64 (i : Int)] w fun e w' => (∃ m : Nat, e = .returned (.int .i64 (m : Int)) ∧ 1 ≤ m ∧ m ≤ 4096) ∧ ∃ q, w' = w.drewN q := by
  by_cases h0 : n = 0
  · subst h0
    go_enter Tryd.func60, Tryd.ntmps60
    go_wp2_with fail
    go_ret
    exact ⟨⟨512, rfl, by decide, by decide⟩, 0, rfl⟩
  · obtain ⟨b, off, rfl, _, hc⟩ : ∃ b off, a = some ⟨b, off, none⟩ ∧ b < w.heap.size ∧ ∀ i, i < n → ∃ z : Int, w.cell? ⟨b, off + i, none⟩ = some (.int .i64 z) ∧ -9223372036854775808 ≤ z ∧ z ≤ 9223372036854775807 := by
      rcases h with h | h
      · exact absurd h h0
      · exact h
    obtain ⟨z, hz, hz1, hz2⟩ := hc (i % n) (Nat.mod_lt _ (by omega))
    have t0 : ((n : Int) == 0) = false := by simp; omega
    have hm : i % n < n := Nat.mod_lt _ (by omega)
    go_enter Tryd.func60, Tryd.ntmps60
    go_wp2_with fail
    go_ret
    exact ⟨⟨(max 1 (min 4096 z)).toNat, ret_int (by omega), by omega, by omega⟩, 0, rfl⟩

/-- What a round of DotPieces' loop keeps: acc gathered so far. -/
structure DPR (k : RK) (w : World) (T D : Nat) (g : Nat) (acc : List UInt8) (st1 : Nat) (s1 : RS) (v : Value) (wr : World) : Prop where
  rd : Rd wr k s1
  tu : Turned (tdBlocks k T D) w wr
  dt : Dt wr k T D st1 true
  eq : dec k.d 0 = (acc ++ (dec (k.d.drop s1.pos) st1).1, (dec (k.d.drop s1.pos) st1).2)
  s5 : st1 ≤ 5
  own : wr.ownsRow w.heap.size 5 1 v acc.length (by8 acc)
  le : (dec (k.d.drop s1.pos) st1).1.length + 1 ≤ g

section
variable {k : RK} {s s1 s2 : RS} {w wr wm w3 w4 : World} {T D g st1 st2 n : Nat} {op2 : Bool} {acc out : List UInt8} {cur : List Value} {v v' er : Value} {ue : Addr}
theorem DPR.acc_le (h : DPR k w T D g acc st1 s1 v wr) : acc.length + (dec (k.d.drop s1.pos) st1).1.length ≤ k.d.length := by
  have h1 := dec_len0 k.d
  rw [h.eq, List.length_append] at h1
  exact h1
theorem td_lt (h0 : Rd w k s) (hD0 : Dt w k T D 0 true) : ∀ x, x ∈ tdBlocks k T D → x < w.heap.size := by
  obtain ⟨buf, hb⟩ := hD0.tb
  have b1 := h0.bb.lt
  have b2 := h0.cb.lt
  have b3 := h0.yb.lt
  have b4 := hb.lt
  have b5 := hD0.db.lt
  intro x hx
  simp [tdBlocks, RK.blocks] at hx
  omega
/-- The row that is gathered stands behind a Read into a new one. -/
theorem DPR.own3 (h : DPR k w T D g acc st1 s1 v wr) (h0 : Rd w k s) (hD0 : Dt w k T D 0 true) (hm : Turned [] wr wm) (hT : Turned (dotBlocks k T D wr.heap.size) wm w3) : w3.ownsRow w.heap.size 5 1 v acc.length (by8 acc) := by
  have h1 := own_keepS h.own hm (by simp)
  refine own_keepS h1 hT (fun x hx => ?_)
  have hl := td_lt h0 hD0
  intro he
  have h2 := h.own.lt x he.symm
  simp [dotBlocks, RK.blocks] at hx
  have h3 := hl T (by simp [tdBlocks])
  have h4 := hl D (by simp [tdBlocks])
  have h5 := hl k.B (by simp [tdBlocks, RK.blocks])
  have h6 := hl k.C (by simp [tdBlocks, RK.blocks])
  have h7 := hl k.Y (by simp [tdBlocks, RK.blocks])
  omega
/-- Behind the append. -/
theorem DPR.step (h : DPR k w T D g acc st1 s1 v wr) (h0 : Rd w k s) (hD0 : Dt w k T D 0 true) (hm : Turned [] wr wm) (hn : 1 ≤ n) {st' : Nat} (hd : DR k s1 wm T D st' op2 wr.heap.size 0 n cur (2 * k.d.length + 1) out st2 s2 w3) (hst : st' = st1)
    (hor : (er = .nilIface ∧ out.length = n ∧ st2 ≠ 5 ∧ op2 = true) ∨ (er = errAt k.ae ∧ st2 = 5 ∧ op2 = false) ∨ (er = errAt ue ∧ s2.pos = k.d.length ∧ st2 ≠ 5 ∧ op2 = false))
    (ho : w4.ownsRow w.heap.size 5 1 v' (acc.length + out.length) (by8 acc ++ by8 out)) (hg : w3.grownBy w4 v.ownBlock) :
    Rd w4 k s2 ∧ Turned (tdBlocks k T D) w w4 ∧ w4.ownsRow w.heap.size 5 1 v' (acc ++ out).length (by8 (acc ++ out)) ∧
    ((er = .nilIface ∧ DPR k w T D (g - 1) (acc ++ out) st2 s2 v' w4 ∧ 1 ≤ g) ∨ (er = errAt k.ae ∧ Tp w4 k T ∧ acc ++ out = (dec k.d 0).1 ∧ (dec k.d 0).2 = some (k.d.drop s2.pos)) ∨ (er = errAt ue ∧ Tp w4 k T ∧ acc ++ out = (dec k.d 0).1 ∧ (dec k.d 0).2 = none)) := by
  subst hst
  have ho3 := h.own3 h0 hD0 hm hd.tu
  have hT3 := (h.tu.trans (hm.mono (by simp))).noG h.tu.size hd.tu
  have hb : ∀ x, x < w.heap.size → w4.heap[x]? = w3.heap[x]? := fun x hx => hg.block x (Nat.lt_of_lt_of_le hx hT3.size) (own_ne ho3 x hx)
  have hl := td_lt h0 hD0
  have hR4 := hd.rd.grown h0 hg.size hb
  have hD4 := hd.dt.grown (hb T (hl T (by simp [tdBlocks]))) (hb D (hl D (by simp [tdBlocks])))
  have hT4 : Turned (tdBlocks k T D) w w4 := hT3.grown hg (fun x hx => by
    right
    rcases Nat.lt_or_ge x w.heap.size with h1 | h1
    · exact absurd hx.symm (own_ne ho3 x h1)
    · exact h1)
  have hO : w4.ownsRow w.heap.size 5 1 v' (acc ++ out).length (by8 (acc ++ out)) := by
    rw [List.length_append]
    unfold by8 at ho ⊢
    rwa [List.map_append]
  have heq : dec k.d 0 = ((acc ++ out) ++ (dec (k.d.drop s2.pos) st2).1, (dec (k.d.drop s2.pos) st2).2) := by rw [h.eq, hd.eq, List.append_assoc]
  have hlen : (dec (k.d.drop s1.pos) st').1.length = out.length + (dec (k.d.drop s2.pos) st2).1.length := by rw [hd.eq, List.length_append]
  have hle := h.le
  refine ⟨hR4, hT4, hO, ?_⟩
  rcases hor with ⟨h1, h2, h3, rfl⟩ | ⟨h1, rfl, rfl⟩ | ⟨h1, h2, h3, rfl⟩
  · exact .inl ⟨h1, ⟨hR4, hT4, hD4, heq, hd.s5, hO, by omega⟩, by omega⟩
  · refine .inr (.inl ⟨h1, hD4.tp, ?_, ?_⟩)
    · rw [heq, dec5, List.append_nil]
    · rw [heq, dec5]
  · refine .inr (.inr ⟨h1, hD4.tp, ?_, ?_⟩)
    · rw [heq, h2, List.drop_length, dec_nil, List.append_nil]
    · rw [heq, h2, List.drop_length, dec_nil, if_neg h3]
end

/-- What a walk that gathers a block answers: the text, what is left, the end's kind. -/
def DPPost (l : List UInt8) (good : Int) (w : World) (e : Ending) (w' : World) : Prop :=
  ∃ (p1 p2 : Option Addr) (cap1 cap2 n : Nat) (kd : Int), e = .returned (.tuple #[.slice p1 (dec l 0).1.length cap1, .slice p2 (l.drop n).length cap2, .int .i64 kd]) ∧ Turned [] w w' ∧ RowP w' p1 (dec l 0).1 ∧ RowP w' p2 (l.drop n) ∧
    (((dec l 0).2 = some (l.drop n) ∧ kd = good) ∨ ((dec l 0).2 = none ∧ kd = 2))

set_option maxRecDepth 100000 in
set_option maxHeartbeats 4000000 in
theorem dotPieces_any (p : Option Addr) (l : List UInt8) (cap : Nat) (sa : Option Addr) (sn scap : Nat) (ae ue : Addr) (w : World) (h : DataAt w p l) (hl : l.length ≤ 65536) (hS : Ints w sa sn) (hsn : sn ≤ 2147483647) (hE : EndsC w w.heap.size ae ue) :
    Calls Tryd.prog 29 #[.slice p l.length cap, .slice sa sn scap] w (DPPost l 1 w) := by
  have MR := mkReader_any p l cap ae w h (by omega) hE.eof
  obtain ⟨i0, hi, hz0, hz1, hz2⟩ := info_parts u8_info
  go_enter Tryd.func29, Tryd.ntmps29
  go_wp2_with fail
  go_at_call 47
  refine MR.mono ?_
  rintro e w1 ⟨k, s, T, rfl, hT1, hkd, hkK, hka, hR1, hTp1, hpos, _, _⟩
  subst hkd
  subst hka
  have DRd := dotReader_any k s w1 T hR1 hTp1
  go_wp2_with fail
  go_at_call 59
  refine DRd.mono ?_
  rintro e w2 ⟨D, rfl, hT2, hR2, hD2⟩
  have hT12 : Turned [] w w2 := hT1.fresh hT2 (fun x hx => by
    simp at hx
    subst hx
    rw [← hkK]
    exact hTp1.kt)
  have HB : Hid (∀ wr, Turned (tdBlocks k T D) w2 wr → Turned [] w wr) := fun wr hx => hT12.fresh hx (fun x hx => by
    have h1 := hR2.kb
    have h2 := hR2.kc
    have h3 := hR2.ky
    have h4 := hD2.kt
    have h5 := hD2.kd
    simp [tdBlocks, RK.blocks] at hx
    omega)
  have HK : Hid (w.heap.size ≤ k.K) := by show _ ≤ _; omega
  have HE : Hid (∀ wr, Turned [] w wr → EndsC wr k.K k.ae ue) := fun wr hx => by
    have hb := hx.below (Nat.le_refl _) (by simp)
    rw [hkK]
    exact hE.keep hb
  have HS : Hid (∀ wr, Turned [] w wr → Ints wr sa sn) := fun wr hx => hS.keep hx
  have H0 := Lib.hid (⟨hR2, hD2⟩ : Rd w2 k s ∧ Dt w2 k T D 0 true)
  have H1 : Hid (DPR k w2 T D (k.d.length + 1) [] 0 s (.slice none 0 0) w2) := ⟨hR2, Turned.refl _ _, hD2, by rw [hpos, List.drop_zero]; simp, by decide, ⟨rfl, .inl ⟨rfl, rfl⟩⟩, by rw [hpos, List.drop_zero]; have := dec_len0 k.d; omega⟩
  clear h hE MR hT1 hR1 hTp1 hpos DRd hT2 hR2 hD2 hT12 hkK hS
  go_wp2_with fail
  go_loopg [4, 9] (k.d.length + 1) (fun g v i wr => ∃ acc st1 s1, ∃ j : Nat, DPR k w2 T D g acc st1 s1 v wr ∧ i = .int .i64 (j : Int) ∧ j + g ≤ k.d.length + 1)
  case atStart => exact ⟨[], 0, s, 0, H1.out, rfl, by omega⟩
  case round =>
    obtain ⟨acc, st1, s1, j, hr, rfl, hj⟩ := hrel
    have hTr := HB.out _ hr.tu
    have SA := sizeAt_any sa sn scap j wr (HS.out _ hTr) hsn (by omega)
    have e1 : IntKind.i64.wrap ((j : Int) + 1) = (j : Int) + 1 := IntWalk.i64_in _ (by omega)
    go_wp2_with fail
    go_at_call 60
    refine SA.mono ?_
    rintro e wq ⟨⟨n, rfl, hn1, hn2⟩, q, rfl⟩
    go_wp2_with (at_make; refine wpList_make_full _ rfl (.tmp 21) (.tmp 21) 22 rfl 0 5 i0 (.int .u8 0) 1 Tryd.underlying22 hi hz0 hz1 .i64 .i64 (n : Int) (n : Int) n rfl rfl rfl rfl (by rw [hz2]; omega) (by unfold maxLen; omega) (Nat.zero_le _) ?_; intro wm hown hgrow; refine Hid.out ?_)
    refine Lib.hid ?_
    have hm : Turned [] wr wm := ((Turned.refl [] wr).drewN q).grown hgrow (fun x hx => by cases hx)
    obtain ⟨cur, hG, hcl, _, _, _, _⟩ := blk_of_own hown
    have hG : Blk wm wr.heap.size 5 cur.toArray := hG
    have RD := dotRead_any k s1 wm T D st1 true wr.heap.size 0 n n cur ue (hr.rd.keepNew hm) (hr.dt.keep hm (by simp) (by simp)) (bf_new (cap := n) hr.rd (Nat.le_refl _) hG hcl 0 (by omega)) hr.s5 (by omega) (HE.out _ (hTr.trans hm)).cut
    have mm := dot_method ⟨D, 0, none⟩
    have HR := Lib.hid hr
    have HM := Lib.hid hm
    have HN := Lib.hid hn1
    have HC := Lib.hid hcl
    have hal := hr.acc_le
    clear hr hTr SA hown hgrow hm hG hcl
    go_wp2_with fail
    go_at_call 94
    refine RD.mono ?_
    rintro e w3 ⟨out, st2, s2, op2, er, rfl, hd, hor⟩
    have hol := hd.len
    have hdl : (dec (k.d.drop s1.pos) st1).1.length = out.length + (dec (k.d.drop s2.pos) st2).1.length := by rw [hd.eq, List.length_append]
    have hO3 := HR.out.own3 H0.out.1 H0.out.2 HM.out hd.tu
    have HO3 := Lib.hid hO3
    have h8 : (by8 out).length = out.length := by8_length out
    have L1 : Hid ((by8 out).length = out.length * 1) := by show _ = _; omega
    have L2 : Hid (acc.length + out.length ≤ maxLen) := by show _ ≤ _; unfold maxLen; omega
    have L3 : Hid ((acc.length + out.length) * 1 ≤ 140737488355328) := by show _ ≤ _; omega
    have HN3 : Hid (∀ j u, (by8 out)[j]? = some u → w3.cell? ((⟨wr.heap.size, 0, none⟩ : Addr).add j) = some u) := by
      intro j u hu
      have h1 := hd.gb.cell (0 + j)
      rw [List.getElem?_toArray, splice_in _ _ _ _ (Nat.zero_le _) (List.getElem?_eq_some_iff.1 hu).1, hu] at h1
      unfold Addr.add
      split
      · subst_vars; simpa using h1
      · exact h1
    have HO1 := Lib.hid (by8_one out)
    have HSz : Hid (w2.heap.size ≤ w3.heap.size) := ((HR.out.tu.trans (HM.out.mono (by simp))).noG HR.out.tu.size hd.tu).size
    have HD := Lib.hid hd
    have HST : Hid (∀ v' w4, w4.ownsRow w2.heap.size 5 1 v' (acc.length + out.length) (by8 acc ++ by8 out) → w3.grownBy w4 u4.ownBlock → _) := fun v' w4 => HR.out.step (v' := v') (w4 := w4) H0.out.1 H0.out.2 HM.out HN.out hd rfl hor
    have d0 : (out.length : Int) ≤ (n : Int) := by omega
    have d1 : (0 : Int) ≤ (n : Int) := by omega
    have HX : Hid (∀ {a b : Addr}, errAt a = errAt b → a = b) := fun h => by
      injection h with _ h
      injection h with h
      exact Option.some.inj h
    have HNE : Hid (k.ae ≠ ue) := (HE.out _ (HB.out _ HR.out.tu)).ne
    rcases hor with ⟨rfl, h1, h2, rfl⟩ | ⟨rfl, h1, rfl⟩ | ⟨rfl, h1, h2, rfl⟩
    · clear hd hO3 h8 RD hol hdl hal h1 h2
      go_wp2_with (at_builtin; refine wpList_append_own_at _ rfl (.tmp 29) (.tmp 32) 22 rfl w2.heap.size 5 i0 (.int .u8 0) 1 1 Tryd.underlying22 hi hz0 hz1 hz2 rfl (by decide) _ _ _ rfl HO3.out ⟨wr.heap.size, 0, none⟩ out.length n (by8 out) rfl L1.out HN3.out HO1.out L2.out L3.out HSz.out ?_; intro v' w4 hown hgrow hnil hat)
      obtain ⟨_, _, _, hor⟩ := HST.out v' w4 hown hgrow
      have HJ : Hid (DPR k w2 T D (gk - 1) (acc ++ out) st2 s2 v' w4 ∧ 1 ≤ gk) := by
        rcases hor with ⟨_, h2⟩ | ⟨h1, _⟩ | ⟨h1, _⟩
        · exact h2
        · cases h1
        · cases h1
      clear hown hgrow hor HST
      go_roundg (gk - 1)
      case rel => exact ⟨_, _, _, j + 1, HJ.out.1, by go_num, by have := HJ.out.2; omega⟩
      case measure => have := HJ.out.2; omega
    · clear hd hO3 h8 RD hol hdl hal h1
      go_wp2_with (at_builtin; refine wpList_append_own_at _ rfl (.tmp 29) (.tmp 32) 22 rfl w2.heap.size 5 i0 (.int .u8 0) 1 1 Tryd.underlying22 hi hz0 hz1 hz2 rfl (by decide) _ _ _ rfl HO3.out ⟨wr.heap.size, 0, none⟩ out.length n (by8 out) rfl L1.out HN3.out HO1.out L2.out L3.out HSz.out ?_; intro v' w4 hown hgrow hnil hat; refine Hid.out ?_)
      refine Lib.hid ?_
      obtain ⟨hR4, hT4, hO4, hor⟩ := HST.out v' w4 hown hgrow
      have hT4w := HB.out _ hT4
      obtain ⟨hTp4, hacc, hfin⟩ : Tp w4 k T ∧ acc ++ out = (dec k.d 0).1 ∧ (dec k.d 0).2 = some (k.d.drop s2.pos) := by
        rcases hor with ⟨h1, _⟩ | ⟨h1, h2⟩ | ⟨h1, h2⟩
        · cases h1
        · exact h2
        · exact absurd (HX.out h1) HNE.out
      have RS := rest_any k s2 w4 T hR4 hTp4
      have HF : Hid (∀ w5 v5, Turned k.blocks w4 w5 → w5.ownsRow w4.heap.size 5 1 v5 (k.d.drop s2.pos).length (by8 (k.d.drop s2.pos)) → DPPost k.d 1 w (.returned (.tuple #[v', v5, .int .i64 1])) w5 ∧ EndsC w5 k.K k.ae ue) := by
        intro w5 v5 hT5 hO5
        have hTT : Turned [] w w5 := hT4w.fresh hT5 (fun x hx => Nat.le_trans HK.out (hR4.blocks_new x hx))
        have hl := td_lt H0.out.1 H0.out.2
        have hO4' := own_keep hO4 hT5 (fun x hx => hl x (by simp [tdBlocks, RK.blocks] at hx ⊢; omega))
        rw [hacc] at hO4'
        obtain ⟨p1, cap1, rfl, hp1⟩ := own_slice hO4'
        obtain ⟨p2, cap2, rfl, hp2⟩ := own_slice hO5
        exact ⟨⟨p1, p2, cap1, cap2, s2.pos, 1, rfl, hTT, hp1, hp2, .inl ⟨hfin, rfl⟩⟩, HE.out _ hTT⟩
      clear hown hgrow hor hR4 hT4 hO4 hT4w hTp4 hacc hfin HST
      go_wp2_with fail
      go_at_call 49
      refine RS.mono ?_
      rintro e w5 ⟨v5, rfl, hT5, hO5⟩
      obtain ⟨hF, hE5⟩ := HF.out w5 v5 hT5 hO5
      have KD := kind_eof w5 hE5.eof
      have HF := Lib.hid hF
      clear hT5 hO5 RS hF hE5
      go_wp2_with (go_at_call 50; (with_reducible refine KD.mono ?_); rintro e w6 ⟨rfl, rfl⟩)
      go_ret3
      exact HF.out
    · clear hd hO3 h8 RD hol hdl hal h1 h2
      go_wp2_with (at_builtin; refine wpList_append_own_at _ rfl (.tmp 29) (.tmp 32) 22 rfl w2.heap.size 5 i0 (.int .u8 0) 1 1 Tryd.underlying22 hi hz0 hz1 hz2 rfl (by decide) _ _ _ rfl HO3.out ⟨wr.heap.size, 0, none⟩ out.length n (by8 out) rfl L1.out HN3.out HO1.out L2.out L3.out HSz.out ?_; intro v' w4 hown hgrow hnil hat; refine Hid.out ?_)
      refine Lib.hid ?_
      obtain ⟨hR4, hT4, hO4, hor⟩ := HST.out v' w4 hown hgrow
      have hT4w := HB.out _ hT4
      obtain ⟨hTp4, hacc, hfin⟩ : Tp w4 k T ∧ acc ++ out = (dec k.d 0).1 ∧ (dec k.d 0).2 = none := by
        rcases hor with ⟨h1, _⟩ | ⟨h1, h2⟩ | ⟨h1, h2⟩
        · cases h1
        · exact absurd (HX.out h1) (fun e => HNE.out e.symm)
        · exact h2
      have RS := rest_any k s2 w4 T hR4 hTp4
      have HF : Hid (∀ w5 v5, Turned k.blocks w4 w5 → w5.ownsRow w4.heap.size 5 1 v5 (k.d.drop s2.pos).length (by8 (k.d.drop s2.pos)) → DPPost k.d 1 w (.returned (.tuple #[v', v5, .int .i64 2])) w5 ∧ EndsC w5 k.K k.ae ue) := by
        intro w5 v5 hT5 hO5
        have hTT : Turned [] w w5 := hT4w.fresh hT5 (fun x hx => Nat.le_trans HK.out (hR4.blocks_new x hx))
        have hl := td_lt H0.out.1 H0.out.2
        have hO4' := own_keep hO4 hT5 (fun x hx => hl x (by simp [tdBlocks, RK.blocks] at hx ⊢; omega))
        rw [hacc] at hO4'
        obtain ⟨p1, cap1, rfl, hp1⟩ := own_slice hO4'
        obtain ⟨p2, cap2, rfl, hp2⟩ := own_slice hO5
        exact ⟨⟨p1, p2, cap1, cap2, s2.pos, 2, rfl, hTT, hp1, hp2, .inr ⟨hfin, rfl⟩⟩, HE.out _ hTT⟩
      clear hown hgrow hor hR4 hT4 hO4 hT4w hTp4 hacc hfin HST
      go_wp2_with fail
      go_at_call 49
      refine RS.mono ?_
      rintro e w5 ⟨v5, rfl, hT5, hO5⟩
      obtain ⟨hF, hE5⟩ := HF.out w5 v5 hT5 hO5
      have KD := kind_cut w5 hE5
      have HF := Lib.hid hF
      clear hT5 hO5 RS hF hE5
      go_wp2_with (go_at_call 50; (with_reducible refine KD.mono ?_); rintro e w6 ⟨rfl, rfl⟩)
      go_ret3
      exact HF.out
end Go.Proofs.YthobojpbdeepoaaDoor
