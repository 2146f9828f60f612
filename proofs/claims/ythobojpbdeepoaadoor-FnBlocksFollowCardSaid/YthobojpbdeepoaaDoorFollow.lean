/-
  The walk of laws.FnBlocksFollow.
-/
import Derived.Test.YthobojpbdeepoaaDoorComeBack
namespace Go.Proofs.YthobojpbdeepoaaDoor
open Go.RowKit

theorem enc_pos (t : List UInt8) : 3 ≤ (enc t).length := by
  have h2 : 3 ≤ (ends (encW t 0).2).length := by
    unfold ends
    split
    · decide
    · split <;> decide
  unfold enc
  rw [List.length_append]; omega
/-- A block alone comes back. -/
theorem dotsBack0_any (p : Option Addr) (t : List UInt8) (cap : Nat) (ae ue : Addr) (w : World) (h : DataAt w p (enc t)) (hl : (enc t).length ≤ 1048576) (h13 : ∀ c, c ∈ t → c ≠ 13) (hE : EndsC w w.heap.size ae ue) :
    Calls Tryd.prog 30 #[.slice p (enc t).length cap] w fun e w' => ∃ p1 p2 cap1 cap2, e = .returned (.tuple #[.slice p1 (t ++ tailOf (encW t 0).2).length cap1, .slice p2 0 cap2, .int .i64 0]) ∧ Turned [] w w' ∧ DataAt w' p1 (t ++ tailOf (encW t 0).2) := by
  have h1 := dotsBack_any p t [] cap ae ue w (by rw [List.append_nil]; exact h) (by rw [List.append_nil]; exact hl) h13 hE
  rw [List.append_nil] at h1
  refine h1.mono ?_
  rintro e w' ⟨p1, p2, cap1, cap2, rfl, h2, h3, _⟩
  exact ⟨p1, p2, cap1, cap2, rfl, h2, h3⟩
theorem DataAt.some_of {w : World} {p : Option Addr} {l : List UInt8} {c : Nat} (h : DataAt w p l) (hl : 1 ≤ l.length) : p = none → c = 0 := by
  rintro rfl
  rcases h with rfl | ⟨_, _, h, _⟩
  · exact absurd hl (by decide)
  · cases h
theorem writtenT_any (pa : Option Addr) (xs : List (List UInt8)) (cap : Nat) (w : World) (t : List UInt8) (h : PartsAt w pa xs) (hn : xs.length ≤ 2147483647) (ht : t = xs.flatten) (h13 : ∀ c, c ∈ t → c ≠ 13) (hl : t.length ≤ 65536) :
    Calls Tryd.prog 26 #[.slice pa xs.length cap] w fun e w' => ∃ v, e = .returned v ∧ Turned [] w w' ∧ w'.ownsRow w.heap.size 5 1 v (enc t).length (by8 (enc t)) := by
  subst ht
  exact written_any pa xs cap w h hn h13 hl
theorem flat_cap (xs : List (List UInt8)) (h : xs.length ≤ 2147483647) (hx : ∀ x, x ∈ xs → x.length ≤ 2147483647) : xs.flatten.length ≤ 4611686014132420609 := by
  have h1 := flat_len xs 2147483647 hx
  have h2 : xs.length * 2147483647 ≤ 2147483647 * 2147483647 := Nat.mul_le_mul h (Nat.le_refl _)
  omega

set_option maxRecDepth 100000 in
set_option maxHeartbeats 16000000 in
theorem fnBlocksFollow_any (pa : Option Addr) (xs : List (List UInt8)) (ca : Nat) (pb : Option Addr) (ys : List (List UInt8)) (cb : Nat) (ae ue : Addr) (w : World) (h : PartsAt w pa xs) (h' : PartsAt w pb ys) (hE : EndsC w w.heap.size ae ue) :
    Calls Tryd.prog 12 #[.slice pa xs.length ca, .slice pb ys.length cb] w fun e w' => e = .returned (.bool true) ∧ Turned [] w w' := by
  have FA := Lib.hid (fits_any pa xs ca w h)
  have FB := Lib.hid (fits_any pb ys cb w h')
  have HA := Lib.hid (fun W (hT : Turned [] w W) => h.keep hT)
  have HB := Lib.hid (fun W (hT : Turned [] w W) => h'.keep hT)
  have HE := Lib.hid (fun W (hT : Turned [] w W) => hE.up hT)
  clear h h' hE
  go_enter Tryd.func12, Tryd.ntmps12
  go_wp2_with fail
  go_at_call 24
  (with_reducible refine FA.out.mono ?_)
  rintro e w1 ⟨rfl, b, rfl, hb⟩
  cases b with
  | false =>
    go_wp2_with fail
    go_ret
    exact ⟨rfl, Turned.refl _ _⟩
  | true =>
  obtain ⟨hn, hx⟩ := hb rfl
  have NA := Lib.hid hn
  have XA := Lib.hid hx
  clear hn hx hb FA
  go_wp2_with fail
  go_at_call 24
  (with_reducible refine FB.out.mono ?_)
  rintro e w1 ⟨rfl, b, rfl, hb⟩
  cases b with
  | false =>
    go_wp2_with fail
    go_ret
    exact ⟨rfl, Turned.refl _ _⟩
  | true =>
  obtain ⟨hn, hx⟩ := hb rfl
  have NB := Lib.hid hn
  have XB := Lib.hid hx
  clear hn hx hb FB
  have JA := Lib.hid (fun W hT => joined_any pa xs ca W (HA.out W hT) NA.out XA.out)
  have JB := Lib.hid (fun W hT => joined_any pb ys cb W (HB.out W hT) NB.out XB.out)
  have K0 : Hid (Turned [] w w) := Turned.refl _ _
  go_wp2_with fail
  go_at_call 25
  (with_reducible refine (JA.out _ K0.out).mono ?_)
  rintro e w1 ⟨s, rfl, hs, q, hw⟩
  have K1 : Hid (Turned [] w w1) := by rw [hw]; exact K0.out.drewN q
  clear hw
  go_wp2_with fail
  go_at_call 25
  (with_reducible refine (JB.out _ K1.out).mono ?_)
  rintro e w2 ⟨u, rfl, hu, q, hw⟩
  have K2 : Hid (Turned [] w w2) := by rw [hw]; exact K1.out.drewN q
  clear hw
  have ss := lst_length s
  have su := lst_length u
  have bs := flat_cap xs NA.out XA.out
  have bu := flat_cap ys NB.out XB.out
  rw [← hs, ss] at bs
  rw [← hu, su] at bu
  have e0 : IntKind.i64.wrap ((s.size : Int) + (u.size : Int)) = (s.size : Int) + (u.size : Int) := IntWalk.i64_in _ (by omega)
  have HS := Lib.hid hs
  have HU := Lib.hid hu
  by_cases hb : 65536 < s.size + u.size
  · have b1 : (65536 : Int) < (s.size : Int) + (u.size : Int) := by omega
    clear hs hu
    go_wp2_with fail
    go_ret
    exact ⟨rfl, K2.out⟩
  have b1 : ¬ (65536 : Int) < (s.size : Int) + (u.size : Int) := by omega
  have LA : Hid ((lst s).length ≤ 65536 ∧ s.size ≤ 65536) := ⟨by omega, by omega⟩
  have LB : Hid ((lst u).length ≤ 65536 ∧ u.size ≤ 65536) := ⟨by omega, by omega⟩
  clear hs hu
  go_wp2_with fail
  go_at_call 25
  (with_reducible refine (JA.out _ K2.out).mono ?_)
  rintro e w3 ⟨s', rfl, hs, q, hw⟩
  have K3 : Hid (Turned [] w w3) := by rw [hw]; exact K2.out.drewN q
  obtain rfl : s = s' := lst_inj (HS.out.trans hs.symm)
  clear hw hs
  have LH := Lib.hid (lhas_any s 13 w3 (by omega))
  cases h13 : hasB (lst s) 13 with
  | true =>
    rw [h13] at LH
    go_wp2_with (first | (go_at_call 21; (with_reducible refine LH.out.mono ?_); rintro e w' ⟨rfl, rfl⟩))
    go_ret
    exact ⟨rfl, K3.out⟩
  | false =>
  rw [h13] at LH
  have H13 := Lib.hid (no13_of_has h13)
  clear h13
  go_wp2_with fail
  go_at_call 21
  (with_reducible refine (LH.out).mono ?_)
  rintro e w' ⟨rfl, rfl⟩
  go_wp2_with fail
  go_at_call 25
  (with_reducible refine (JB.out _ K3.out).mono ?_)
  rintro e w4 ⟨u', rfl, hu, q, hw⟩
  have K4 : Hid (Turned [] w w4) := by rw [hw]; exact K3.out.drewN q
  obtain rfl : u = u' := lst_inj (HU.out.trans hu.symm)
  clear hw hu
  have LH2 := Lib.hid (lhas_any u 13 w4 (by omega))
  cases h13 : hasB (lst u) 13 with
  | true =>
    rw [h13] at LH2
    go_wp2_with (first | (go_at_call 21; (with_reducible refine LH2.out.mono ?_); rintro e w' ⟨rfl, rfl⟩))
    go_ret
    exact ⟨rfl, K4.out⟩
  | false =>
  rw [h13] at LH2
  have U13 := Lib.hid (no13_of_has h13)
  clear h13
  obtain ⟨t, ht⟩ : ∃ t, t = lst s := ⟨_, rfl⟩
  obtain ⟨r, hr⟩ : ∃ r, r = lst u := ⟨_, rfl⟩
  have HT : Hid ((∀ c, c ∈ t → c ≠ 13) ∧ t.length ≤ 65536 ∧ (enc t).length ≤ 131077) := by
    rw [ht]
    have h1 := enc_len (lst s)
    have h2 := LA.out.1
    exact ⟨H13.out, h2, by omega⟩
  have HR : Hid ((∀ c, c ∈ r → c ≠ 13) ∧ r.length ≤ 65536 ∧ (enc r).length ≤ 131077) := by
    rw [hr]
    have h1 := enc_len (lst u)
    have h2 := LB.out.1
    exact ⟨U13.out, h2, by omega⟩
  have WA := Lib.hid (fun W hT => writtenT_any pa xs ca W t (HA.out W hT) NA.out (ht.trans HS.out) HT.out.1 HT.out.2.1)
  have WB := Lib.hid (fun W hT => writtenT_any pb ys cb W r (HB.out W hT) NB.out (hr.trans HU.out) HR.out.1 HR.out.2.1)
  have hq := enc_pos r
  have b7 : (0 : Int) < ((enc r).length : Int) := by omega
  clear ht hr hq HS HU H13 U13 LA LB JA JB NA NB XA XB HA HB ss su bs bu hb
  obtain ⟨X, hX⟩ : ∃ X, X = t ++ tailOf (encW t 0).2 := ⟨_, rfl⟩
  obtain ⟨Y, hY⟩ : ∃ Y, Y = r ++ tailOf (encW r 0).2 := ⟨_, rfl⟩
  have D1 := Lib.hid (fun p c W hT (hd : DataAt W p (enc t ++ enc r)) => dotsBack_any p t (enc r) c ae ue W hd (by rw [List.length_append]; have := HT.out.2.2; have := HR.out.2.2; omega) HT.out.1 (HE.out W hT))
  rw [← hX, show (enc t ++ enc r).length = (enc t).length + (enc r).length from List.length_append] at D1
  have D2 := Lib.hid (fun p c W hT (hd : DataAt W p (enc r)) => dotsBack0_any p r c ae ue W hd (by have := HR.out.2.2; omega) HR.out.1 (HE.out W hT))
  rw [← hY] at D2
  have D3 := Lib.hid (fun p c W hT (hd : DataAt W p (enc t)) => dotsBack0_any p t c ae ue W hd (by have := HT.out.2.2; omega) HT.out.1 (HE.out W hT))
  rw [← hX] at D3
  have HLA : Hid ((enc t).length + (enc r).length ≤ 1073741824) := by have := HT.out.2.2; have := HR.out.2.2; show _ ≤ _; omega
  clear hX hY HT HR
  go_wp2_with fail
  go_at_call 21
  (with_reducible refine (LH2.out).mono ?_)
  rintro e w' ⟨rfl, rfl⟩
  go_wp2_with fail
  go_at_call 26
  (with_reducible refine (WA.out _ K4.out).mono ?_)
  rintro e w5 ⟨v1, rfl, hT, hO⟩
  have K5 : Hid (Turned [] w w5) := K4.out.trans hT
  have S5 : Hid (w4.heap.size ≤ w5.heap.size) := hT.size
  have O5 := Lib.hid hO
  clear hT hO
  go_wp2_with fail
  go_at_call 26
  (with_reducible refine (WB.out _ K5.out).mono ?_)
  rintro e w6 ⟨v2, rfl, hT, hO⟩
  have K6 : Hid (Turned [] w w6) := K5.out.trans hT
  have O6 : Hid (w6.ownsRow w4.heap.size 5 1 v1 (enc t).length (by8 (enc t))) := own_keepS O5.out hT (by simp)
  have S6 : Hid (w4.heap.size ≤ w6.heap.size ∧ w.heap.size ≤ w4.heap.size) := ⟨Nat.le_trans S5.out hT.size, K4.out.size⟩
  obtain ⟨p2, c2, rfl, hd2⟩ := rowP_of_own hO
  have HD2 := Lib.hid hd2
  have HC2 := Lib.hid (hd2.some_of (c := c2) (by have := enc_pos r; omega))
  clear hT hO hd2
  go_wp2_with (at_builtin; refine wpList_append_data rfl (.tmp 45) (.tmp 47) rfl w4.heap.size v1 (enc t) (enc r) rfl O6.out p2 c2 rfl HD2.out HC2.out HLA.out S6.out.1 ?_; intro v' w7 hown hgrow; refine Hid.out ?_)
  refine Lib.hid ?_
  have K7 : Hid (Turned [] w w7) := K6.out.grown hgrow (fun x hx => .inr (Nat.le_trans S6.out.2 (O6.out.lt x hx).1))
  obtain ⟨vp, vc, rfl, hdat⟩ := own_join hown
  have E7 := Lib.hid (D1.out vp vc w7 K7.out hdat)
  clear hown hgrow hdat
  go_wp2_with fail
  go_at_call 30
  (with_reducible refine (E7.out).mono ?_)
  rintro e w8 ⟨q1, q2, k1, k2, rfl, hT, hd1, hd2⟩
  have K8 : Hid (Turned [] w w8) := K7.out.trans hT
  have Q1 := Lib.hid hd1
  have E8 := Lib.hid (D2.out q2 k2 w8 K8.out hd2)
  clear hT hd1 hd2
  go_wp2_with fail
  go_at_call 30
  (with_reducible refine (E8.out).mono ?_)
  rintro e w9 ⟨q3, q4, k3, k4, rfl, hT, hd1⟩
  have K9 : Hid (Turned [] w w9) := K8.out.trans hT
  have R1 := Lib.hid (Q1.out.keep hT)
  have R2 := Lib.hid hd1
  clear hT hd1
  go_wp2_with fail
  go_at_call 26
  (with_reducible refine (WA.out _ K9.out).mono ?_)
  rintro e w10 ⟨v3, rfl, hT, hO⟩
  have K10 : Hid (Turned [] w w10) := K9.out.trans hT
  have R3 := Lib.hid (R1.out.keep hT)
  have R4 := Lib.hid (R2.out.keep hT)
  obtain ⟨p3, c3, rfl, hd⟩ := rowP_of_own hO
  have E10 := Lib.hid (D3.out p3 c3 w10 K10.out hd)
  clear hT hO hd
  go_wp2_with fail
  go_at_call 30
  (with_reducible refine (E10.out).mono ?_)
  rintro e w11 ⟨q5, q6, k5, k6, rfl, hT, hd1⟩
  have K11 : Hid (Turned [] w w11) := K10.out.trans hT
  have R5 := Lib.hid (R3.out.keep hT)
  have R6 := Lib.hid (R4.out.keep hT)
  have R7 := Lib.hid hd1
  clear hT hd1
  go_wp2_with fail
  go_at_call 26
  (with_reducible refine (WB.out _ K11.out).mono ?_)
  rintro e w12 ⟨v4, rfl, hT, hO⟩
  have K12 : Hid (Turned [] w w12) := K11.out.trans hT
  have R8 := Lib.hid (R5.out.keep hT)
  have R9 := Lib.hid (R6.out.keep hT)
  have R10 := Lib.hid (R7.out.keep hT)
  obtain ⟨p4, c4, rfl, hd⟩ := rowP_of_own hO
  have E12 := Lib.hid (D2.out p4 c4 w12 K12.out hd)
  clear hT hO hd
  go_wp2_with fail
  go_at_call 30
  (with_reducible refine (E12.out).mono ?_)
  rintro e w13 ⟨q7, q8, k7, k8, rfl, hT, hd1⟩
  have K13 : Hid (Turned [] w w13) := K12.out.trans hT
  have s1 := string_of_rowP (R8.out.keep hT).rowP k1
  have s2 := string_of_rowP (R9.out.keep hT).rowP k3
  have s3 := string_of_rowP (R10.out.keep hT).rowP k5
  have s4 := string_of_rowP hd1.rowP k7
  clear hT hd1
  go_wp2_with fail
  go_ret
  exact ⟨ret_bool (by simp; have := enc_pos r; omega), K13.out⟩
end Go.Proofs.YthobojpbdeepoaaDoor
