/-
  The contracts of textproto's ReadMIMEHeader and impl.Fields, at data that begins with no blank.
-/
import Derived.Test.YthobojpbdeepoaaDoorReadHdr
import Derived.Test.YthobojpbdeepoaaDoorImplFields
import Derived.Test.YthobojpbdeepoaaDoorComeIn
namespace Go.Proofs.YthobojpbdeepoaaDoor
open Go.RowKit Go.ChangeMaps Go.MapKept Go.WideShapes

theorem tb_new {w : World} {k : RK} {s : RS} {T : Nat} (h : Rd w k s) (hT : Tp w k T) (hb : Blk w T 129 #[.pointer (some ⟨k.B, 0, none⟩), .pointer none, .slice none 0 0]) : Tb w k T w.heap.size (.slice none 0 0) [] :=
  ⟨hT.kt, hT.off, hb.lt, h.bb.lt, h.cb.lt, h.yb.lt, fun _ hx => h.offNew hx, Nat.le_refl _, hb, ⟨rfl, .inl ⟨rfl, rfl⟩⟩⟩

set_option maxRecDepth 100000 in
set_option maxHeartbeats 2000000 in
theorem readMIME_any (k : RK) (s : RS) (w : World) (fe : Addr) (T bT : Nat) (v : Value) (xs : List UInt8) (hfe : k.ae ≠ fe) (h : Rd w k s) (hT : Tb w k T bT v xs) (hF : Sent w k.K 6 fe)
    (hd : k.d.length ≤ 1000000) (hhead : ∀ c, (k.d.drop s.pos)[0]? = some c → blB c = false) :
    Calls Tryd.prog 67 #[.pointer (some ⟨T, 0, none⟩)] w (RHPost k s w T v) := by
  have RH := readHdr_any k s w fe T bT v xs hfe h hT hF hd hhead
  clear h hT hF hhead
  go_enter Tryd.func67, Tryd.ntmps67
  go_wp2_with fail
  go_at_call 87
  refine RH.mono ?_
  intro e w1 hp
  obtain ⟨s', all, err, b, base, n, D, L, rfl, h1⟩ := hp
  have HF : Hid (RHPost k s w T v (.returned (.tuple #[.map (some b), err])) w1) := ⟨s', all, err, b, base, n, D, L, rfl, h1⟩
  clear h1 RH
  go_wp2_with fail
  go_ret2
  exact HF.out

theorem ownsN_low {wr w1 : World} {S : List Nat} {base n size : Nat} {e : TypeId} {v : Value} {xs : List Value} (h : wr.ownsRow base e size v n xs) (hT : Turned S wr w1) (hS : ∀ x, x ∈ S → x < base) : w1.ownsRow base e size v n xs := by
  refine ⟨h.1, ?_⟩
  rcases h.2 with h0 | ⟨g, cap, cur, hv, hb, hg, h1⟩
  · exact .inl h0
  · refine .inr ⟨g, cap, cur, hv, hb, (hT.block g ?_ (fun hx => by have := hS g hx; omega)).trans hg, h1⟩
    rcases Nat.lt_or_ge g wr.heap.size with hlt | hge
    · exact hlt
    · rw [Array.getElem?_eq_none hge] at hg; cases hg
/-- What impl.Fields answers. -/
def IHPost (l : List UInt8) (w : World) (e : Ending) (w' : World) : Prop :=
  ∃ (all : List Fd) (lv : Value) (p : Option Addr) (n cap b1 : Nat) (kd : Int), e = .returned (.tuple #[lv, .slice p (l.drop n).length cap, .int .i64 kd]) ∧ Turned [] w w' ∧ RowP w' p (l.drop n) ∧ n ≤ l.length ∧ w'.ownsRow b1 117 2 lv all.length (fc all) ∧ all.length ≤ l.length ∧
    (∀ qs r, HG l [] qs r → kd = 0 ∧ all = allOf qs ∧ r = l.drop n) ∧ (HB l → kd ≠ 0)

set_option maxRecDepth 100000 in
set_option maxHeartbeats 4000000 in
theorem implHdr_any (p : Option Addr) (l : List UInt8) (cap : Nat) (ae fe ue : Addr) (w : World) (h : DataAt w p l) (hl : l.length ≤ 1000000) (hE : Ends3 w w.heap.size ae fe ue) (hhead : ∀ c, l[0]? = some c → blB c = false) :
    Calls Tryd.prog 40 #[.slice p l.length cap] w (IHPost l w) := by
  have MR := mkReader_any p l cap ae w h (by omega) hE.e2.eof
  go_enter Tryd.func40, Tryd.ntmps40
  go_wp2_with fail
  go_at_call 47
  refine MR.mono ?_
  rintro e w1 ⟨k, s, T, rfl, hT1, hkd, hkK, hka, hR1, hTp1, hpos, _, _, hbT⟩
  subst hkd
  subst hka
  have hb1 := hT1.below (Nat.le_refl _) (by simp)
  have hF1 : Sent w1 k.K 6 fe := by rw [hkK]; exact hE.e2.full.keep hb1
  have hTb1 := tb_new hR1 hTp1 hbT
  have RM := readMIME_any k s w1 fe T _ _ _ hE.e2.ne hR1 hTb1 hF1 hl (by rw [hpos, List.drop_zero]; exact hhead)
  go_wp2_with fail
  go_at_call 67
  refine RM.mono ?_
  rintro e w2 ⟨s', all, err, b, base, n, D, L, rfl, hR2, hTp2, hM2, hsrt, hall, hT2, herr, hG, hB⟩
  rw [hpos, List.drop_zero] at hG hB
  have hT12 := hT1.fresh hT2 (fun x hx => by
    rcases List.mem_cons.1 hx with rfl | hx
    · rw [← hkK]; exact hTp1.kt
    · rcases List.mem_append.1 hx with hx | hx
      · rw [← hkK]; exact hR1.blocks_new x hx
      · cases hx)
  have hp2 := hR2.pos_le
  have hi2 := hR2.il
  have IF := implFields_any w2 base b n D L all hM2 hsrt (by omega)
  have HK : Hid (Rd w2 k s' ∧ Tp w2 k T ∧ Turned [] w w2 ∧ s'.pos ≤ k.d.length ∧ all.length ≤ k.d.length) := ⟨hR2, hTp2, hT12, by omega, hall⟩
  have HGB : Hid ((err = .nilIface ∨ err = errAt k.ae ∨ ∃ t, err = .iface 125 (.string t)) ∧ (∀ qs r, HG k.d [] qs r → err = .nilIface ∧ all = allOf qs ∧ r = k.d.drop s'.pos) ∧ (HB k.d → err ≠ .nilIface)) := ⟨herr, hG, hB⟩
  have HE : Hid (Ends3 w w.heap.size k.ae fe ue) := hE
  have HKK := Lib.hid hkK
  clear h hl MR hT1 hR1 hTp1 hb1 hF1 RM hR2 hT2 hTp2 hT12 hTb1 hbT hM2 hsrt hall herr hG hB hp2 hi2 hE hpos hkK hhead
  go_wp2_with fail
  go_at_call 68
  refine IF.mono ?_
  rintro e w3 ⟨lv, rfl, hT3, hO3⟩
  have RS := rest_any k s' w3 T (HK.out.1.keepNew hT3) (HK.out.2.1.keep HK.out.1 (hT3.mono (by simp)))
  have HO := Lib.hid hO3
  have HT3 := Lib.hid hT3
  clear IF hO3 hT3
  go_wp2_with fail
  go_at_call 49
  refine RS.mono ?_
  rintro e w4 ⟨v, rfl, hT4, hO4⟩
  obtain ⟨p4, cap4, rfl, hr4⟩ := own_slice hO4
  have hnew : ∀ x, x ∈ k.blocks → w.heap.size ≤ x := fun x hx => by rw [← HKK.out]; exact HK.out.1.blocks_new x hx
  have hT14 : Turned [] w w4 := (HK.out.2.2.1.trans HT3.out).fresh hT4 hnew
  have hE4 : EndsC w4 w.heap.size k.ae ue := by
    have h1 := HE.out.endsC
    exact h1.keep (hT14.below (Nat.le_refl _) (by simp))
  have hO5 : w4.ownsRow w2.heap.size 117 2 lv all.length (fc all) := ownsN_low HO.out hT4 (fun x hx => by
    have h1 := HK.out.1.bb.lt
    have h2 := HK.out.1.cb.lt
    have h3 := HK.out.1.yb.lt
    simp [RK.blocks] at hx
    rcases hx with rfl | rfl | rfl <;> omega)
  have HP : Hid (∀ kd : Int, (err = .nilIface → kd = 0) → (err ≠ .nilIface → kd ≠ 0) → IHPost k.d w (.returned (.tuple #[lv, .slice p4 (k.d.drop s'.pos).length cap4, .int .i64 kd])) w4) := fun kd h0 h1 =>
    ⟨all, lv, p4, s'.pos, cap4, _, kd, rfl, hT14, hr4, HK.out.2.2.2.1, hO5, HK.out.2.2.2.2, fun qs r hg => by
      obtain ⟨e1, e2, e3⟩ := HGB.out.2.1 qs r hg
      exact ⟨h0 e1, e2, e3⟩, fun hb => h1 (HGB.out.2.2 hb)⟩
  have KD : ∃ kd, (err = .nilIface → kd = 0) ∧ (err ≠ .nilIface → kd ≠ 0) ∧ Calls Tryd.prog 50 #[err] w4 fun e w' => e = .returned (.int .i64 kd) ∧ w4 = w' := by
    rcases HGB.out.1 with rfl | rfl | ⟨t, rfl⟩
    · exact ⟨0, fun _ => rfl, fun h => absurd rfl h, kind_nil w4⟩
    · exact ⟨1, (fun h => by cases h), (fun _ => by decide), kind_eof w4 hE4.eof⟩
    · exact ⟨4, (fun h => by cases h), (fun _ => by decide), kind_proto t w4 hE4⟩
  obtain ⟨kd, k1, k2, KD⟩ := KD
  have HF := Lib.hid (HP.out kd k1 k2)
  clear hO4 hT4 RS HP hr4 hO5 hT14 hE4 k1 k2 hnew HO HT3
  generalize (k.d.drop s'.pos).length = m at *
  go_wp2_with fail
  go_at_call 50
  refine KD.mono ?_
  rintro e w5 ⟨rfl, rfl⟩
  clear KD
  go_wp2_with fail
  go_ret3
  exact HF.out
end Go.Proofs.YthobojpbdeepoaaDoor
