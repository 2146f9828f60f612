/-
  The walk of laws.FnCodeLine.
-/
import Derived.Test.YthobojpbdeepoaaDoorReadCode
namespace Go.Proofs.YthobojpbdeepoaaDoor
open Go.RowKit

set_option maxRecDepth 100000 in
set_option maxHeartbeats 8000000 in
theorem fnCodeLine_any (p : Option Addr) (l : List UInt8) (cap : Nat) (x : Int) (ae fe ue se : Addr) (w : World) (h : DataAt w p l) (hE : EndsS w w.heap.size ae fe ue se) :
    Calls Tryd.prog 3 #[.slice p l.length cap, .int .i64 x] w fun e w' => e = .returned (.bool true) ∧ Turned [] w w' := by
  by_cases hb2 : 2147483647 < l.length
  · have b1 : (2147483647 : Int) < (l.length : Int) := by omega
    go_enter Tryd.func3, Tryd.ntmps3
    go_wp2_with fail
    go_ret
    exact ⟨rfl, Turned.refl _ _⟩
  have b1 : ¬ (2147483647 : Int) < (l.length : Int) := by omega
  by_cases hb : 65536 < l.length
  · have b0 : (65536 : Int) < (l.length : Int) := by omega
    go_enter Tryd.func3, Tryd.ntmps3
    go_wp2_with fail
    go_ret
    exact ⟨rfl, Turned.refl _ _⟩
  have b0 : ¬ (65536 : Int) < (l.length : Int) := by omega
  by_cases hx : 1000 ≤ x
  · go_enter Tryd.func3, Tryd.ntmps3
    go_wp2_with fail
    go_ret
    exact ⟨rfl, Turned.refl _ _⟩
  have hx' : x < 1000 := by omega
  have HD := Lib.hid h
  have HLN : Hid (l.length ≤ 65536) := by show _ ≤ _; omega
  have HX : Hid (x < 1000) := hx'
  have hs := string_of_rowP h.rowP cap
  have SC := Lib.hid (specCodeLine_any ⟨l.toArray⟩ w (by rw [size_mk]; omega))
  have HE := Lib.hid hE
  clear h hE hb hb2
  go_enter Tryd.func3, Tryd.ntmps3
  go_wp2_with fail
  go_at_call 17
  (with_reducible refine SC.out.mono ?_)
  rintro e w4 ⟨n, t, r, what, rfl, ⟨q, rfl⟩, hor⟩
  rw [lst_mk l] at hor
  have HO := Lib.hid hor
  have hTq : Turned [] w (w.drewN q) := (Turned.refl _ _).drewN q
  have hb1 := hTq.below (Nat.le_refl _) (by simp)
  have IC := Lib.hid (implCodeLine_any p l cap x ae fe ue se (w.drewN q) (HD.out.drewN q) (by have := HLN.out; omega) HX.out (HE.out.keep hb1))
  have HTq := Lib.hid hTq
  clear hor hTq hb1 SC
  go_wp2_with fail
  go_at_call 18
  (with_reducible refine IC.out.mono ?_)
  rintro e w5 ⟨n', t', p2, nn, cap2, kd, rfl, hT5, hp2, hnn, hor⟩
  have HT5 : Hid (Turned [] w w5) := HTq.out.trans hT5
  rcases HO.out with ⟨rfl, j, m, h1, h2, h3, h4, rfl, rfl⟩ | ⟨rfl, hbad⟩ | rfl
  · rcases hor with ⟨j', g1, g2, rfl, g3⟩ | ⟨g1, _⟩
    · obtain rfl := nl_one h1 h2 g1 g2
      rcases g3 with ⟨m', g4, g5, rfl, g6⟩ | ⟨g4, _⟩
      · rw [h3] at g4
        injection g4 with g4
        injection g4 with g4 g7
        injection g7 with _ g7
        subst g4 g7
        obtain ⟨n0, n1⟩ := code3_n h3
        have FT := Lib.hid (fun W => fits_any2 n x W n0 n1)
        have cv := string_of_rowP hp2 cap2
        rw [List.length_drop] at cv
        rcases g6 with ⟨g6, rfl⟩ | ⟨g6, rfl⟩
        · rw [g6] at FT
          clear hT5 hp2 hnn HO h1 h2 h3 g1 g2 IC
          go_wp2_with (go_at_call 19; (with_reducible refine (FT.out _).mono ?_); rintro e w6 ⟨rfl, rfl⟩)
          go_ret
          exact ⟨ret_bool (by simp), HT5.out⟩
        · rw [g6] at FT
          clear hT5 hp2 hnn HO h1 h2 h3 g1 g2 IC
          go_wp2_with (go_at_call 19; (with_reducible refine (FT.out _).mono ?_); rintro e w6 ⟨rfl, rfl⟩)
          go_ret
          exact ⟨ret_bool (by simp), HT5.out⟩
      · have := g4 _ _ h3
        omega
    · exact (nl_none h1 g1).elim
  · have hk : kd ≠ 0 := by
      rcases hbad with h0 | ⟨j, h1, h2, h3⟩
      · rw [size_mk] at h0
        have h0' : l = [] := List.eq_nil_of_length_eq_zero h0
        rcases hor with ⟨j', g1, _⟩ | ⟨_, g1⟩
        · rw [h0'] at g1; simp at g1
        · exact g1 h0'
      · rcases hor with ⟨j', g1, g2, rfl, g3⟩ | ⟨g1, _⟩
        · obtain rfl := nl_one h1 h2 g1 g2
          rcases g3 with ⟨m', g4, _⟩ | ⟨_, g4⟩
          · exact absurd g4 (h3 _ _)
          · exact g4
        · exact (nl_none h1 g1).elim
    have hk' : (kd != 0) = true := by simpa using hk
    clear hT5 hp2 hnn HO hbad hor IC hk
    go_wp2_with fail
    go_ret
    exact ⟨rfl, HT5.out⟩
  · clear hT5 hp2 hnn HO hor IC
    go_wp2_with fail
    go_ret
    exact ⟨rfl, HT5.out⟩
end Go.Proofs.YthobojpbdeepoaaDoor
