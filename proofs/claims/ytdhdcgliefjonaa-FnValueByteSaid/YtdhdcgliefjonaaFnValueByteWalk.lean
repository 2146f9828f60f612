/-
  The walk of laws.FnValueByte: it returns true for every byte.
-/
import Derived.Test.YtdhdcgliefjonaaMasks
namespace Go.Proofs.Ytdhdcgliefjonaa
open Go.RowKit

theorem valueByte_any (c : Int) (w : World) (h0 : 0 ≤ c) (h1 : c ≤ 255) :
    Calls Try.prog 12 #[.int .u8 c] w fun e w' => e = .returned (.bool (valB c)) ∧ w = w' := by
  go_enter Try.func12, Try.ntmps12
  go_wp2_with (first | (go_at_call 38; refine (vvalue_any _ _ h0 h1).mono ?_; rintro e w' ⟨rfl, rfl⟩) | go_in)
  go_ret
  exact ⟨rfl, rfl⟩

theorem fnValueByte_walk (c : Int) (hc : (Lit.int .u8 c).wf = true) (w : World) :
    Calls Try.prog 4 #[.int .u8 c] w fun e w' => e = .returned (.bool true) ∧ Below w.heap.size w w' := by
  have hb := hc
  simp only [Lit.wf, Bool.and_eq_true, decide_eq_true_eq] at hb
  obtain ⟨h0, h1⟩ : 0 ≤ c ∧ c ≤ 255 := ⟨hb.1, hb.2⟩
  clear hb hc
  by_cases k1 : c = 9
  · subst k1
    have hv : valB 9 = true := by decide
    go_enter Try.func4, Try.ntmps4
    go_wp2_with (go_at_call 12; refine (valueByte_any _ _ (by omega) (by omega)).mono ?_; rintro e w' ⟨rfl, rfl⟩)
    go_ret
    exact ⟨rfl, Below.refl _ _⟩
  by_cases k2 : 32 ≤ c
  · by_cases k3 : c = 127
    · subst k3
      have hv : valB 127 = false := by decide
      go_enter Try.func4, Try.ntmps4
      go_wp2_with (go_at_call 12; refine (valueByte_any _ _ (by omega) (by omega)).mono ?_; rintro e w' ⟨rfl, rfl⟩)
      go_ret
      exact ⟨rfl, Below.refl _ _⟩
    · have g1 : (c == 9) = false := by simpa using k1
      have g3 : (c != 127) = true := by simpa using k3
      have hv : valB c = true := by unfold valB; simp [g1, g3, k2]
      go_enter Try.func4, Try.ntmps4
      go_wp2_with (go_at_call 12; refine (valueByte_any _ _ (by omega) (by omega)).mono ?_; rintro e w' ⟨rfl, rfl⟩)
      go_ret
      exact ⟨rfl, Below.refl _ _⟩
  · have g1 : (c == 9) = false := by simpa using k1
    have hv : valB c = false := by unfold valB; simp [g1, k2]
    go_enter Try.func4, Try.ntmps4
    go_wp2_with (go_at_call 12; refine (valueByte_any _ _ (by omega) (by omega)).mono ?_; rintro e w' ⟨rfl, rfl⟩)
    go_ret
    exact ⟨rfl, Below.refl _ _⟩
end Go.Proofs.Ytdhdcgliefjonaa
