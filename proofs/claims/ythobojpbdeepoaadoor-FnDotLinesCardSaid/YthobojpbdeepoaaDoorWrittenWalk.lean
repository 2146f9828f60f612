/-
  The walk of laws.FnDotWritten.
-/
import Derived.Test.YthobojpbdeepoaaDoorDotWritten
import Derived.Test.YthobojpbdeepoaaDoorSpecDotted
import Derived.Test.YthobojpbdeepoaaDoorHas
namespace Go.Proofs.YthobojpbdeepoaaDoor
open Go.RowKit

theorem no13_of_has {l : List UInt8} (h : hasB l 13 = false) : ∀ c, c ∈ l → c ≠ 13 := by
  intro c hc
  unfold hasB at h
  rw [List.any_eq_false] at h
  intro he
  exact h c hc (by rw [he]; rfl)
theorem rowP_of_own {w : World} {base : Nat} {v : Value} {l : List UInt8} (h : w.ownsRow base 5 1 v l.length (by8 l)) : ∃ p cap, v = .slice p l.length cap ∧ DataAt w p l := by
  obtain ⟨vp, cap, rfl, hc⟩ := own_cells h
  refine ⟨vp, cap, rfl, ?_⟩
  cases l with
  | nil => exact .inl rfl
  | cons c cs =>
    obtain ⟨g, h1, hlt, _⟩ := hc 0 _ (by8_get (l := c :: cs) (j := 0) rfl)
    refine .inr ⟨g, 0, h1, hlt, fun j u hj => ?_⟩
    obtain ⟨g', h2, _, h3⟩ := hc j _ (by8_get hj)
    rw [h1] at h2
    injection h2 with h2
    injection h2 with h2
    subst h2
    rw [Nat.zero_add]; exact h3

set_option maxRecDepth 100000 in
set_option maxHeartbeats 4000000 in
theorem fnDotWritten_any (pa : Option Addr) (xs : List (List UInt8)) (cap : Nat) (w : World) (h : PartsAt w pa xs) :
    Calls Tryd.prog 6 #[.slice pa xs.length cap] w fun e w' => e = .returned (.bool true) ∧ Turned [] w w' := by
  have FI := Lib.hid (fits_any pa xs cap w h)
  have HP := Lib.hid h
  clear h
  go_enter Tryd.func6, Tryd.ntmps6
  go_wp2_with fail
  go_at_call 24
  (with_reducible refine FI.out.mono ?_)
  rintro e w1 ⟨rfl, b, rfl, hb⟩
  cases b with
  | false =>
    go_wp2_with fail
    go_ret
    exact ⟨rfl, Turned.refl _ _⟩
  | true =>
    obtain ⟨hn, hx⟩ := hb rfl
    have HN := Lib.hid hn
    have JO := Lib.hid (joined_any pa xs cap w HP.out hn hx)
    clear hn hx hb FI
    go_wp2_with fail
    go_at_call 25
    (with_reducible refine JO.out.mono ?_)
    rintro e w2 ⟨s, rfl, hs, q, rfl⟩
    clear JO
    have hsz := lst_length s
    by_cases h0 : lst s = []
    · have t0 := str_is h0
      clear hs
      go_wp2_with fail
      go_ret
      exact ⟨rfl, (Turned.refl _ _).drewN q⟩
    · have t0 := str_not h0
      by_cases hb : 65536 < s.size
      · have b1 : (65536 : Int) < (s.size : Int) := by omega
        clear hs h0
        go_wp2_with fail
        go_ret
        exact ⟨rfl, (Turned.refl _ _).drewN q⟩
      · have b1 : ¬ (65536 : Int) < (s.size : Int) := by omega
        have LH := Lib.hid (lhas_any s 13 (w.drewN q) (by omega))
        cases h13 : hasB (lst s) 13 with
        | true =>
          rw [h13] at LH
          clear hs h0
          go_wp2_with (first | (go_at_call 21; (with_reducible refine LH.out.mono ?_); rintro e w3 ⟨rfl, rfl⟩))
          go_ret
          exact ⟨rfl, (Turned.refl _ _).drewN q⟩
        | false =>
          rw [h13] at LH
          have hn13 := no13_of_has h13
          have hl : xs.flatten.length ≤ 65536 := by rw [← hs, hsz]; omega
          have HT0 : Hid (∀ n, Turned [] w (w.drewN n)) := fun n => (Turned.refl _ _).drewN n
          have WR := Lib.hid (fun n => written_any pa xs cap (w.drewN n) (HP.out.keep (HT0.out n)) HN.out (by rw [← hs]; exact hn13) hl)
          have DO := Lib.hid (fun W => dotted_any s W (by omega) hn13)
          have HE : Hid (∀ o full last, Ln (lst s) full last → lst o = crlfs ((full ++ tl last).map stuff) ++ [46, 13, 10] → o = ⟨(enc xs.flatten).toArray⟩) := fun o full last h1 h2 => lst_inj (by rw [h2, ← hs, enc_dotted h1 h0]; rfl)
          clear hs h0 h13 hn13 hl hsz HP HN
          go_wp2_with (first | (go_at_call 21; (with_reducible refine LH.out.mono ?_); rintro e w3 ⟨rfl, rfl⟩))
          go_region_with (first | (go_at_call 26; (with_reducible refine (WR.out _).mono ?_); rintro e w4 ⟨v, rfl, hT4, ho4⟩; obtain ⟨vp, vc, rfl, hrow⟩ := rowP_of_own ho4; have HV := Lib.hid (fun W (hW : Turned [] w4 W) => string_of_rowP (hrow.keep hW).rowP vc); have cv := fun n => HV.out (w4.drewN n) ((Turned.refl _ _).drewN n); have cv0 := HV.out w4 (Turned.refl _ _); have HT4 := Lib.hid (fun W (hW : Turned [] w4 W) => ((HT0.out _).trans hT4).trans hW); clear hT4 ho4 hrow) | (go_at_call 27; (with_reducible refine (DO.out _).mono ?_); rintro e w5 ⟨o, full, last, rfl, hT5, hln, ho⟩; obtain rfl := HE.out _ _ _ hln ho; have hT45 : Hid (Turned [] w4 w5) := (by first | exact hT5 | exact ((Turned.refl [] w4).drewN _).trans hT5 | exact ((Turned.refl [] w4).drewN 1).trans hT5); have cv5 := fun n => HV.out (w5.drewN n) (hT45.out.drewN n); have cv50 := HV.out w5 hT45.out; have HT5 := Lib.hid (HT4.out _ hT45.out); clear hln ho hT5))
          all_goals
            go_wp2_with fail
            go_ret
            refine ⟨?_, by first | exact HT5.out | exact HT5.out.drew | exact HT5.out.drewN _⟩
            simp [Act.put]
end Go.Proofs.YthobojpbdeepoaaDoor
