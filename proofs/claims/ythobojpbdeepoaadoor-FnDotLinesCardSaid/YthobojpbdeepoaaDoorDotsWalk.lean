/-
  The walks of ReadDotBytes, impl.Dots and laws.FnDots.
-/
import Derived.Test.YthobojpbdeepoaaDoorReadAll
import Derived.Test.YthobojpbdeepoaaDoorDotPieces
namespace Go.Proofs.YthobojpbdeepoaaDoor
open Go.RowKit

/-- What ReadDotBytes leaves. -/
def DBPost (k : RK) (s : RS) (w : World) (T : Nat) (ue : Addr) (e : Ending) (w' : World) : Prop :=
  ∃ v er s', e = .returned (.tuple #[v, er]) ∧ Rd w' k s' ∧ Below k.K w w' ∧ Tp w' k T ∧
    w'.ownsRow w.heap.size 5 1 v (dec (k.d.drop s.pos) 0).1.length (by8 (dec (k.d.drop s.pos) 0).1) ∧
    ((er = .nilIface ∧ (dec (k.d.drop s.pos) 0).2 = some (k.d.drop s'.pos)) ∨ (er = errAt ue ∧ (dec (k.d.drop s.pos) 0).2 = none))

set_option maxRecDepth 100000 in
set_option maxHeartbeats 2000000 in
theorem readDotBytes_any (k : RK) (s : RS) (w : World) (T : Nat) (ue : Addr) (h : Rd w k s) (hT : Tp w k T) (hd : k.d.length ≤ 1048576) (hE : EndsC w k.K k.ae ue) :
    Calls Tryd.prog 61 #[.pointer (some ⟨T, 0, none⟩)] w (DBPost k s w T ue) := by
  have DRd := dotReader_any k s w T h hT
  go_enter Tryd.func61, Tryd.ntmps61
  go_wp2_with fail
  go_at_call 59
  refine DRd.mono ?_
  rintro e w1 ⟨D, rfl, hT1, hR1, hD1⟩
  have hK : k.K ≤ w.heap.size := by have := h.kb; have := h.bb.lt; omega
  have hE1 : EndsC w1 k.K k.ae ue := hE.keep (hT1.below hK (by intro x hx; simp at hx; subst hx; exact hT.kt))
  have RA := readAll_any k s w1 T D 0 ue hR1 hD1 (by decide) hd hE1
  have HF : Hid (∀ e w2, AllPost k s w1 T D 0 ue e w2 → DBPost k s w T ue e w2 ∧ ∃ a b, e = .returned (.tuple #[a, b])) := by
    rintro e w2 ⟨v, er, s', rfl, hR2, hT2, hTp2, hO, hor⟩
    refine ⟨⟨v, er, s', rfl, hR2, ?_, hTp2, own_base hO hT1.size, hor⟩, _, _, rfl⟩
    refine (hT1.below hK (by intro x hx; simp at hx; subst hx; exact hT.kt)).trans (hT2.below (Nat.le_trans hK hT1.size) (fun x hx => ?_))
    have h1 := hR1.kb
    have h2 := hR1.kc
    have h3 := hR1.ky
    have h4 := hD1.kt
    have h5 := hD1.kd
    simp [tdBlocks, RK.blocks] at hx
    omega
  clear DRd h hT hE hT1 hR1 hD1 hE1
  go_wp2_with fail
  go_at_call 83
  refine RA.mono ?_
  intro e w2 hP
  obtain ⟨hF, a, b, rfl⟩ := HF.out _ _ hP
  have HG := Lib.hid hF
  clear hP hF
  go_wp2_with fail
  go_ret2
  exact HG.out

theorem Turned.freshB {w w1 w2 : World} (h : Turned [] w w1) (k : Below w.heap.size w1 w2) : Turned [] w w2 :=
  ⟨k.os.trans h.os, k.tape.trans h.tape, k.output.trans h.output, Nat.le_trans h.size k.size, fun i hi _ => (k.block i hi).trans (h.block i hi (by simp))⟩

set_option maxRecDepth 100000 in
set_option maxHeartbeats 2000000 in
theorem implDots_any (p : Option Addr) (l : List UInt8) (cap : Nat) (ae ue : Addr) (w : World) (h : DataAt w p l) (hl : l.length ≤ 1048576) (hE : EndsC w w.heap.size ae ue) :
    Calls Tryd.prog 30 #[.slice p l.length cap] w (DPPost l 0 w) := by
  have MR := mkReader_any p l cap ae w h (by omega) hE.eof
  go_enter Tryd.func30, Tryd.ntmps30
  go_wp2_with fail
  go_at_call 47
  refine MR.mono ?_
  rintro e w1 ⟨k, s, T, rfl, hT1, hkd, hkK, hka, hR1, hTp1, hpos, _, _⟩
  subst hkd
  subst hka
  have hE1 : EndsC w1 k.K k.ae ue := by rw [hkK]; exact hE.keep (hT1.below (Nat.le_refl _) (by simp))
  have RD := readDotBytes_any k s w1 T ue hR1 hTp1 hl hE1
  have HE : Hid (∀ wr, Turned [] w wr → EndsC wr k.K k.ae ue) := fun wr hx => by
    have hb := hx.below (Nat.le_refl _) (by simp)
    rw [hkK]
    exact hE.keep hb
  have HK : Hid (k.K = w.heap.size ∧ w.heap.size ≤ w1.heap.size ∧ s.pos = 0) := ⟨hkK, hT1.size, hpos⟩
  have HT := Lib.hid hT1
  have hl0 : ∀ x, x ∈ k.blocks → x < w1.heap.size := by
    have b1 := hR1.bb.lt
    have b2 := hR1.cb.lt
    have b3 := hR1.yb.lt
    intro x hx
    simp [RK.blocks] at hx
    omega
  have HL := Lib.hid hl0
  clear h hl hE MR hT1 hR1 hTp1 hE1 hpos hkK hl0
  go_wp2_with fail
  go_at_call 61
  refine RD.mono ?_
  rintro e w2 ⟨v, er, s', rfl, hR2, hB2, hTp2, hO2, hor⟩
  have hT2 : Turned [] w w2 := HT.out.freshB (by rw [← HK.out.1]; exact hB2)
  rw [HK.out.2.2, List.drop_zero] at hO2 hor
  have RS := rest_any k s' w2 T hR2 hTp2
  have HF : Hid (∀ w3 v3 kd, Turned k.blocks w2 w3 → w3.ownsRow w2.heap.size 5 1 v3 (k.d.drop s'.pos).length (by8 (k.d.drop s'.pos)) → (((dec k.d 0).2 = some (k.d.drop s'.pos) ∧ kd = 0) ∨ ((dec k.d 0).2 = none ∧ kd = 2)) → DPPost k.d 0 w (.returned (.tuple #[v, v3, .int .i64 kd])) w3 ∧ EndsC w3 k.K k.ae ue) := by
    intro w3 v3 kd hT3 hO3 hk
    have hTT : Turned [] w w3 := hT2.fresh hT3 (fun x hx => by rw [← HK.out.1]; exact hR2.blocks_new x hx)
    have hO2' := own_keep hO2 hT3 (fun x hx => HL.out x hx)
    obtain ⟨p1, cap1, rfl, hp1⟩ := own_slice hO2'
    obtain ⟨p2, cap2, rfl, hp2⟩ := own_slice hO3
    exact ⟨⟨p1, p2, cap1, cap2, s'.pos, kd, rfl, hTT, hp1, hp2, hk⟩, HE.out _ hTT⟩
  clear hR2 hB2 hTp2 hO2 hT2 HT HL HK RD
  rcases hor with ⟨rfl, hfin⟩ | ⟨rfl, hfin⟩
  · have HX := Lib.hid hfin
    clear hfin
    go_wp2_with fail
    go_at_call 49
    refine RS.mono ?_
    rintro e w3 ⟨v3, rfl, hT3, hO3⟩
    obtain ⟨hF, hE3⟩ := HF.out w3 v3 0 hT3 hO3 (.inl ⟨HX.out, rfl⟩)
    have HG := Lib.hid hF
    have KD := kind_nil w3
    clear hF hE3 hT3 hO3 RS HF HX
    go_wp2_with (go_at_call 50; (with_reducible refine KD.mono ?_); rintro e w4 ⟨rfl, rfl⟩)
    go_ret3
    exact HG.out
  · have HX := Lib.hid hfin
    clear hfin
    go_wp2_with fail
    go_at_call 49
    refine RS.mono ?_
    rintro e w3 ⟨v3, rfl, hT3, hO3⟩
    obtain ⟨hF, hE3⟩ := HF.out w3 v3 2 hT3 hO3 (.inr ⟨HX.out, rfl⟩)
    have HG := Lib.hid hF
    have KD := kind_cut w3 hE3
    clear hF hE3 hT3 hO3 RS HF HX
    go_wp2_with (go_at_call 50; (with_reducible refine KD.mono ?_); rintro e w4 ⟨rfl, rfl⟩)
    go_ret3
    exact HG.out

set_option maxRecDepth 100000 in
set_option maxHeartbeats 4000000 in
theorem fnDots_any (p : Option Addr) (l : List UInt8) (cap : Nat) (ae ue : Addr) (w : World) (h : DataAt w p l) (hE : EndsC w w.heap.size ae ue) :
    Calls Tryd.prog 8 #[.slice p l.length cap] w fun e w' => e = .returned (.bool true) ∧ Turned [] w w' := by
  by_cases hb2 : 2147483647 < l.length
  · have b1 : (2147483647 : Int) < (l.length : Int) := by omega
    go_enter Tryd.func8, Tryd.ntmps8
    go_wp2_with fail
    go_ret
    exact ⟨rfl, Turned.refl _ _⟩
  have b1 : ¬ (2147483647 : Int) < (l.length : Int) := by omega
  by_cases hb : 65536 < l.length
  · have b0 : (65536 : Int) < (l.length : Int) := by omega
    go_enter Tryd.func8, Tryd.ntmps8
    go_wp2_with fail
    go_ret
    exact ⟨rfl, Turned.refl _ _⟩
  have b0 : ¬ (65536 : Int) < (l.length : Int) := by omega
  have ID := implDots_any p l cap ae ue w h (by omega) hE
  have HDA : Hid (∀ w', Turned [] w w' → RowP w' p l) := fun w' hT => by
    rcases h with h | ⟨b, off, h1, h2, h3⟩
    · exact .inl h
    · exact .inr ⟨b, off, h1, h3.of_block (hT.block b h2 (by simp))⟩
  have SD := Lib.hid (fun w' => specDots_any ⟨l.toArray⟩ w' (by rw [size_mk]; omega))
  clear h hE hb hb2
  go_enter Tryd.func8, Tryd.ntmps8
  go_wp2_with fail
  go_at_call 30
  refine ID.mono ?_
  rintro e w3 ⟨p1, p2, cap1, cap2, n, kd, rfl, hT, hp1, hp2, hfin⟩
  have hs := string_of_rowP (HDA.out w3 hT) cap
  have HF := Lib.hid hT
  have s1 := fun q => string_of_rowP (w := w3.drewN q) (hp1.imp id (fun ⟨b, o, h1, h2⟩ => ⟨b, o, h1, h2.of_block rfl⟩)) cap1
  have s2 := fun q => string_of_rowP (w := w3.drewN q) (hp2.imp id (fun ⟨b, o, h1, h2⟩ => ⟨b, o, h1, h2.of_block rfl⟩)) cap2
  have HN := Lib.hid hfin
  simp only [List.length_drop] at s2
  clear hT hp1 hp2 hfin ID HDA
  generalize hlx : (dec l 0).1.length = lx at *
  have HLX := Lib.hid hlx
  clear hlx
  go_wp2_with fail
  go_at_call 28
  refine (SD.out _).mono ?_
  rintro e w4 ⟨⟨q, rfl⟩, text, rest, what, rfl, hts, hor⟩
  rcases hor with ⟨rfl, ls, h1, h2, h3⟩ | ⟨rfl, ls, t, h1, h2, h3⟩ | rfl
  · have hd := sd_after h1 h2
    rw [lst_mk] at hd
    have hfin := HN.out
    have ht : text = ⟨(dec l 0).1.toArray⟩ := lst_inj (by rw [h3, hd]; rfl)
    obtain ⟨hk, hr⟩ : kd = 0 ∧ rest = ⟨(l.drop n).toArray⟩ := by
      rw [hd] at hfin
      rcases hfin with ⟨g1, g2⟩ | ⟨g1, _⟩
      · exact ⟨g2, lst_inj (by rw [lst_mk]; exact Option.some.inj g1)⟩
      · cases g1
    subst hk ht hr
    clear HN SD h1 h2 h3 hfin hd hts HLX
    generalize (dec l 0).1 = x at *
    have s1 := s1 q
    have s2 := s2 q
    go_wp2_with fail
    go_ret
    exact ⟨ret_bool (by simp), HF.out.drewN _⟩
  · have hd := sd_none h1 h2 h3
    rw [lst_mk] at hd
    have hfin := HN.out
    obtain rfl : kd = 2 := by
      rcases hfin with ⟨g1, _⟩ | ⟨_, g2⟩
      · rw [hd] at g1; cases g1
      · exact g2
    clear HN SD h1 h2 h3 hfin hd hts HLX s1 s2
    go_wp2_with fail
    go_ret
    exact ⟨rfl, HF.out.drewN _⟩
  · clear HN SD hts HLX s1 s2
    go_wp2_with fail
    go_ret
    exact ⟨rfl, HF.out.drewN _⟩
end Go.Proofs.YthobojpbdeepoaaDoor
