/-
  The contracts of laws.has and spec.has: whether a text has a byte.
-/
import Derived.Test.YthobojpbdeepoaaDoorChecked
import Derived.Test.YthobojpbdeepoaaDoorBase
namespace Go.Proofs.YthobojpbdeepoaaDoor
open Go.RowKit

theorem lhas_any (s : ByteArray) (c : Int) (w : World) (hs : s.size ≤ 9223372036854775807) :
    Calls Tryd.prog 21 #[.string s, .int .u8 c] w fun e w' => e = .returned (.bool (hasB (lst s) c)) ∧ w = w' := by
  go_enter Tryd.func21, Tryd.ntmps21
  go_wp2
  go_loop [8] (fun t => ∃ k : Nat, k ≤ s.size ∧ t = .int .i64 k ∧ hasB ((lst s).take k) c = false) (fun t => s.size - (intOf t).toNat)
  case atStart => exact ⟨0, Nat.zero_le _, rfl, rfl⟩
  case round =>
    obtain ⟨k, hk, rfl, h0⟩ := hrel
    have H0 := Lib.hid h0
    clear h0
    go_wp2
    · have hlt : k < s.size := by assumption
      have hc : ((s[k].toNat : Int) == c) = true := by assumption
      go_ret
      exact ⟨ret_bool (hasB_hit hlt hc).symm, rfl⟩
    · have hlt : k < s.size := by assumption
      have hc : ((s[k].toNat : Int) == c) = false := by assumption
      go_round
      case rel => exact ⟨k + 1, hlt, by go_num, hasB_step hlt H0.out hc⟩
      case measure => simp [intOf]; omega
    · have hge : ¬ k < s.size := by assumption
      go_ret
      refine ⟨ret_bool ?_, rfl⟩
      rw [← H0.out, List.take_of_length_le (by rw [lst_length]; omega)]

theorem shas_any (s : ByteArray) (c : Int) (w : World) (hs : s.size ≤ 9223372036854775807) :
    Calls Tryd.prog 52 #[.string s, .int .u8 c] w fun e w' => e = .returned (.bool (hasB (lst s) c)) ∧ w = w' := by
  go_enter Tryd.func52, Tryd.ntmps52
  go_wp2
  go_loop [8] (fun t => ∃ k : Nat, k ≤ s.size ∧ t = .int .i64 k ∧ hasB ((lst s).take k) c = false) (fun t => s.size - (intOf t).toNat)
  case atStart => exact ⟨0, Nat.zero_le _, rfl, rfl⟩
  case round =>
    obtain ⟨k, hk, rfl, h0⟩ := hrel
    have H0 := Lib.hid h0
    clear h0
    go_wp2
    · have hlt : k < s.size := by assumption
      have hc : ((s[k].toNat : Int) == c) = true := by assumption
      go_ret
      exact ⟨ret_bool (hasB_hit hlt hc).symm, rfl⟩
    · have hlt : k < s.size := by assumption
      have hc : ((s[k].toNat : Int) == c) = false := by assumption
      go_round
      case rel => exact ⟨k + 1, hlt, by go_num, hasB_step hlt H0.out hc⟩
      case measure => simp [intOf]; omega
    · have hge : ¬ k < s.size := by assumption
      go_ret
      refine ⟨ret_bool ?_, rfl⟩
      rw [← H0.out, List.take_of_length_le (by rw [lst_length]; omega)]
end Go.Proofs.YthobojpbdeepoaaDoor
