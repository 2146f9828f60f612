/-
  The walks of impl.Response and laws.FnResponse.
-/
import Derived.Test.YthobojpbdeepoaaDoorSpecResp
namespace Go.Proofs.YthobojpbdeepoaaDoor
open Go.RowKit

/-- What is said of an answer that impl.Response has read. -/
def IROut (l : List UInt8) (x n : Int) (t : ByteArray) (nn : Nat) (kd : Int) : Prop :=
  (NoNl l 0 l.length ∧ (l = [] → kd ≠ 0)) ∨ ∃ j, l[j]? = some 10 ∧ NoNl l 0 j ∧
    (((∀ n b m, code3 (trimCR (l.take j)) = some (n, b, m) → n < 100) ∧ kd ≠ 0) ∨
     ∃ n0 b m, code3 (trimCR (l.take j)) = some (n0, b, m) ∧ 100 ≤ n0 ∧ ∀ r, SResp n0 b (l.drop (j + 1)) m r → r = .left ∨ (r = .bad ∧ kd ≠ 0) ∨
      (r = .good (lst t) (l.drop nn) ∧ n = n0 ∧ ((fitsB n0 x = true ∧ kd = 0) ∨ (fitsB n0 x = false ∧ kd = 3))))
def IRPost (l : List UInt8) (x : Int) (w : World) (e : Ending) (w' : World) : Prop :=
  ∃ n t p nn cap kd, e = .returned (.tuple #[.int .i64 n, .string t, .slice p (l.drop nn).length cap, .int .i64 kd]) ∧ Turned [] w w' ∧ RowP w' p (l.drop nn) ∧ nn ≤ l.length ∧ IROut l x n t nn kd

theorem ek_nil {ae : Addr} : ¬ EK ae .nilIface := by
  rintro (h | ⟨N, h⟩ | ⟨z, h⟩) <;> cases h
theorem ir_of {k : RK} {s s' : RS} {x n : Int} {t : ByteArray} {er : Value} (hs : s.pos = 0) (ue : Addr)
    (ho : (er = errAt k.ae ∧ NoNl k.d s.pos (k.d.length - s.pos)) ∨ ∃ l s1, LineAt k s s1 l ∧ RROut k l s1 s' x n t er) : ∃ kd, ErrK k.ae ue er kd ∧ IROut k.d x n t s'.pos kd := by
  rcases ho with ⟨rfl, hn⟩ | ⟨l, s1, hl, ho⟩
  · rw [hs] at hn
    exact ⟨1, .inr (.inl ⟨rfl, rfl⟩), .inl ⟨by simpa using hn, fun _ => by decide⟩⟩
  · have hk : ∃ kd, ErrK k.ae ue er kd ∧ (EK k.ae er → kd ≠ 0) ∧ (er = .nilIface → kd = 0) ∧ ((∃ N, er = .iface 131 (.pointer (some ⟨N, 0, none⟩))) → kd = 3) := by
      have he : er = .nilIface ∨ EK k.ae er := by
        rcases ho with ⟨_, h⟩ | ⟨_, _, _, _, _, h, _⟩
        · exact .inr h
        · exact h
      rcases he with rfl | rfl | ⟨N, rfl⟩ | ⟨z, rfl⟩
      · exact ⟨0, .inl ⟨rfl, rfl⟩, fun h => (ek_nil h).elim, fun _ => rfl, fun ⟨_, h⟩ => by cases h⟩
      · exact ⟨1, .inr (.inl ⟨rfl, rfl⟩), fun _ => by decide, (fun h => by cases h), fun ⟨_, h⟩ => by
          injection h with h _
          exact absurd h (by decide)⟩
      · exact ⟨3, .inr (.inr (.inr (.inl ⟨N, rfl, rfl⟩))), fun _ => by decide, (fun h => by cases h), fun _ => rfl⟩
      · exact ⟨4, .inr (.inr (.inr (.inr ⟨z, rfl, rfl⟩))), fun _ => by decide, (fun h => by cases h), fun ⟨_, h⟩ => by
          injection h with h _
          exact absurd h (by decide)⟩
    obtain ⟨kd, h1, h2, h3, h4⟩ := hk
    refine ⟨kd, h1, ?_⟩
    rcases hl with ⟨j, g1, g2, rfl, g4⟩ | ⟨g1, g2, g3, _⟩
    · rw [hs, Nat.zero_add] at g1 g4
      rw [hs] at g2 ho
      rw [List.drop_zero] at ho
      refine .inr ⟨j, g1, g2, ?_⟩
      unfold RROut at ho
      rw [g4] at ho
      rcases ho with ⟨c1, c2⟩ | ⟨n0, b, m, c1, c2, _, c4⟩
      · exact .inl ⟨c1, h2 c2⟩
      · refine .inr ⟨n0, b, m, c1, c2, fun r hr => ?_⟩
        rcases c4 r hr with h | ⟨h, h5⟩ | ⟨h, h5, h6⟩
        · exact .inl h
        · exact .inr (.inl ⟨h, h2 h5⟩)
        · refine .inr (.inr ⟨h, h5, ?_⟩)
          rcases h6 with ⟨h6, h7⟩ | ⟨h6, h7⟩
          · exact .inl ⟨h6, h3 h7⟩
          · exact .inr ⟨h6, h4 h7⟩
    · rw [hs] at g2 g3
      rw [List.drop_zero] at g2
      rw [Nat.sub_zero] at g3
      exact .inl ⟨g3, fun h0 => absurd (g2.trans h0) g1⟩

set_option maxRecDepth 100000 in
set_option maxHeartbeats 2000000 in
theorem implResp_any (p : Option Addr) (l : List UInt8) (cap : Nat) (x : Int) (ae fe ue se : Addr) (w : World) (h : DataAt w p l) (hl : l.length ≤ 1048576) (hx : x < 1000) (hE : EndsS w w.heap.size ae fe ue se) :
    Calls Tryd.prog 22 #[.slice p l.length cap, .int .i64 x] w (IRPost l x w) := by
  have MR := mkReader_any p l cap ae w h (by omega) hE.e3.e2.eof
  go_enter Tryd.func22, Tryd.ntmps22
  go_wp2_with fail
  go_at_call 47
  refine MR.mono ?_
  rintro e w1 ⟨k, s, T, rfl, hT1, hkd, hkK, hka, hR1, hTp1, hpos, _, _⟩
  subst hkd
  subst hka
  have hE1 : EndsS w1 k.K k.ae fe ue se := by rw [hkK]; exact hE.keep (hT1.below (Nat.le_refl _) (by simp))
  have RC := Lib.hid (readResponse_any k s x w1 T fe ue se hR1 hTp1 hx hl hE1)
  have HEC : Hid (∀ wr, Turned [] w wr → EndsC wr k.K k.ae ue) := fun wr hx => by
    rw [hkK]
    exact (hE.keep (hx.below (Nat.le_refl _) (by simp))).endsC
  have HK : Hid (k.K = w.heap.size ∧ s.pos = 0) := ⟨hkK, hpos⟩
  have HT := Lib.hid hT1
  have H1 := Lib.hid hR1
  have HTp := Lib.hid hTp1
  clear h hl hE MR hT1 hR1 hTp1 hE1 hpos hkK
  go_wp2_with fail
  go_at_call 51
  (with_reducible refine RC.out.mono ?_)
  rintro e w2 ⟨s', n, t, er, rfl, hR2, hT2, hor⟩
  have hTp2 := HTp.out.keep H1.out hT2
  have hTw2 : Turned [] w w2 := HT.out.fresh hT2 (fun x hx => by rw [← HK.out.1]; exact H1.out.blocks_new x hx)
  obtain ⟨kd, hk, ho⟩ := ir_of HK.out.2 ue hor
  have RS := Lib.hid (rest_any k s' w2 T hR2 hTp2)
  have hp2 := hR2.pos_le
  have hi2 := hR2.il
  have HF : Hid (∀ w3 v3, Turned k.blocks w2 w3 → w3.ownsRow w2.heap.size 5 1 v3 (k.d.drop s'.pos).length (by8 (k.d.drop s'.pos)) → ∃ p2 cap2, v3 = .slice p2 (k.d.drop s'.pos).length cap2 ∧ IRPost k.d x w (.returned (.tuple #[.int .i64 n, .string t, v3, .int .i64 kd])) w3 ∧ EndsC w3 k.K k.ae ue) := by
    intro w3 v3 hT3 hO3
    have hTT : Turned [] w w3 := hTw2.fresh hT3 (fun x hx => by rw [← HK.out.1]; exact hR2.blocks_new x hx)
    obtain ⟨p2, cap2, rfl, hp2'⟩ := own_slice hO3
    exact ⟨p2, cap2, rfl, ⟨n, t, p2, s'.pos, cap2, kd, rfl, hTT, hp2', by omega, ho⟩, HEC.out _ hTT⟩
  have HKD := Lib.hid hk
  clear hR2 hT2 hTp2 hTw2 hor ho RC hk hp2 hi2
  go_wp2_with fail
  go_at_call 49
  (with_reducible refine RS.out.mono ?_)
  rintro e w3 ⟨v3, rfl, hT3, hO3⟩
  obtain ⟨p2, cap2, hv, hF, hE3⟩ := HF.out w3 v3 hT3 hO3
  have HG := Lib.hid hF
  have KD := Lib.hid (kind_any er kd w3 hE3 HKD.out)
  clear hF hE3 hT3 hO3 RS HF hv
  go_wp2_with (go_at_call 50; (with_reducible refine KD.out.mono ?_); rintro e w4 ⟨rfl, rfl⟩)
  (try simp only [Exit.inBlock, Exit.then]); refine bodyPost_ret (results_tmp4 rfl _ _ _) rfl ?_
  exact HG.out

set_option maxRecDepth 100000 in
set_option maxHeartbeats 8000000 in
theorem fnResponse_any (p : Option Addr) (l : List UInt8) (cap : Nat) (x : Int) (ae fe ue se : Addr) (w : World) (h : DataAt w p l) (hE : EndsS w w.heap.size ae fe ue se) :
    Calls Tryd.prog 5 #[.slice p l.length cap, .int .i64 x] w fun e w' => e = .returned (.bool true) ∧ Turned [] w w' := by
  by_cases hb2 : 2147483647 < l.length
  · have b1 : (2147483647 : Int) < (l.length : Int) := by omega
    go_enter Tryd.func5, Tryd.ntmps5
    go_wp2_with fail
    go_ret
    exact ⟨rfl, Turned.refl _ _⟩
  have b1 : ¬ (2147483647 : Int) < (l.length : Int) := by omega
  by_cases hb : 65536 < l.length
  · have b0 : (65536 : Int) < (l.length : Int) := by omega
    go_enter Tryd.func5, Tryd.ntmps5
    go_wp2_with fail
    go_ret
    exact ⟨rfl, Turned.refl _ _⟩
  have b0 : ¬ (65536 : Int) < (l.length : Int) := by omega
  by_cases hx : 1000 ≤ x
  · go_enter Tryd.func5, Tryd.ntmps5
    go_wp2_with fail
    go_ret
    exact ⟨rfl, Turned.refl _ _⟩
  have hx' : x < 1000 := by omega
  have HD := Lib.hid h
  have HLN : Hid (l.length ≤ 65536) := by show _ ≤ _; omega
  have HX : Hid (x < 1000) := hx'
  have hs := string_of_rowP h.rowP cap
  have SC := Lib.hid (specResp_any ⟨l.toArray⟩ w (by rw [size_mk]; omega))
  have HE := Lib.hid hE
  clear h hE hb hb2
  go_enter Tryd.func5, Tryd.ntmps5
  go_wp2_with fail
  go_at_call 23
  (with_reducible refine SC.out.mono ?_)
  rintro e w4 ⟨n, t, r, what, rfl, ⟨q, rfl⟩, hor⟩
  rw [lst_mk l] at hor
  have HO := Lib.hid hor
  have hTq : Turned [] w (w.drewN q) := (Turned.refl _ _).drewN q
  have hb1 := hTq.below (Nat.le_refl _) (by simp)
  have IC := Lib.hid (implResp_any p l cap x ae fe ue se (w.drewN q) (HD.out.drewN q) (by have := HLN.out; omega) HX.out (HE.out.keep hb1))
  have HTq := Lib.hid hTq
  clear hor hTq hb1 SC
  go_wp2_with fail
  go_at_call 22
  (with_reducible refine IC.out.mono ?_)
  rintro e w5 ⟨n', t', p2, nn, cap2, kd, rfl, hT5, hp2, hnn, hor⟩
  have HT5 : Hid (Turned [] w w5) := HTq.out.trans hT5
  rcases HO.out with ⟨rfl, j, b, m, h1, h2, h3, h4, h5⟩ | ⟨rfl, hbad⟩ | rfl
  · rcases hor with ⟨g1, _⟩ | ⟨j', g1, g2, g3⟩
    · exact (nl_none h1 g1).elim
    · obtain rfl := nl_one h1 h2 g1 g2
      rcases g3 with ⟨g3, _⟩ | ⟨n0, b', m', g3, _, g4⟩
      · have := g3 _ _ _ h3
        omega
      · rw [h3] at g3
        injection g3 with g3
        injection g3 with g3 g5
        injection g5 with g5 g6
        subst g3 g5 g6
        rcases g4 _ h5 with h | ⟨h, _⟩ | ⟨h, rfl, g7⟩
        · cases h
        · cases h
        · injection h with h6 h7
          obtain rfl := lst_inj h6
          have hr : r = ⟨(l.drop nn).toArray⟩ := lst_inj (by rw [h7]; rfl)
          subst hr
          obtain ⟨n0, n1⟩ := code3_n h3
          have FT := Lib.hid (fun W => fits_any2 n' x W n0 n1)
          have cv := string_of_rowP hp2 cap2
          rw [List.length_drop] at cv
          rcases g7 with ⟨g7, rfl⟩ | ⟨g7, rfl⟩
          · rw [g7] at FT
            clear hT5 hp2 hnn HO h1 h2 h3 h5 g1 g2 g4 h6 h7 IC
            go_wp2_with (go_at_call 19; (with_reducible refine (FT.out _).mono ?_); rintro e w6 ⟨rfl, rfl⟩)
            go_ret
            exact ⟨ret_bool (by simp), HT5.out⟩
          · rw [g7] at FT
            clear hT5 hp2 hnn HO h1 h2 h3 h5 g1 g2 g4 h6 h7 IC cv
            go_wp2_with (go_at_call 19; (with_reducible refine (FT.out _).mono ?_); rintro e w6 ⟨rfl, rfl⟩)
            go_ret
            exact ⟨ret_bool (by simp), HT5.out⟩
  · have hk : kd ≠ 0 := by
      rcases hbad with h0 | ⟨j, h1, h2, h3⟩
      · rw [size_mk] at h0
        have h0' : l = [] := List.eq_nil_of_length_eq_zero h0
        rcases hor with ⟨_, g1⟩ | ⟨j', g1, _⟩
        · exact g1 h0'
        · rw [h0'] at g1; simp at g1
      · rcases hor with ⟨g1, _⟩ | ⟨j', g1, g2, g3⟩
        · exact (nl_none h1 g1).elim
        · obtain rfl := nl_one h1 h2 g1 g2
          rcases g3 with ⟨_, g3⟩ | ⟨n0, b', m', g3, _, g4⟩
          · exact g3
          · rcases h3 with h3 | ⟨n1, b1, m1, h3, _, h5⟩
            · rw [h3] at g3; cases g3
            · rw [h3] at g3
              injection g3 with g3
              injection g3 with g3 g5
              injection g5 with g5 g6
              subst g3 g5 g6
              rcases g4 _ h5 with h | ⟨_, h⟩ | ⟨h, _⟩
              · cases h
              · exact h
              · cases h
    have hk' : (kd != 0) = true := by simpa using hk
    clear hT5 hp2 hnn HO hbad hor IC hk
    go_wp2_with fail
    go_ret
    exact ⟨rfl, HT5.out⟩
  · clear hT5 hp2 hnn HO hor IC
    go_wp2_with fail
    go_ret
    exact ⟨rfl, HT5.out⟩
end Go.Proofs.YthobojpbdeepoaaDoor
