/-
  The contract of spec.IsKey: every byte may stand in a key.
-/
import Derived.Test.YthobojpbdeepoaaDoorHas
import Derived.Test.YthobojpbdeepoaaDoorMasks
namespace Go.Proofs.YthobojpbdeepoaaDoor
open Go.RowKit

def isKey (l : List UInt8) : Bool := l.all fun b => keyB b.toNat
theorem isKey_nil : isKey [] = true := rfl
theorem isKey_append (a b : List UInt8) : isKey (a ++ b) = (isKey a && isKey b) := by unfold isKey; rw [List.all_append]
theorem isKey_cons (b : UInt8) (l : List UInt8) : isKey (b :: l) = (keyB b.toNat && isKey l) := rfl
theorem isKey_hit {s : ByteArray} {k : Nat} (h : k < s.size) (hc : keyB s[k].toNat = false) : isKey (lst s) = false := by
  have h1 : lst s = (lst s).take k ++ (lst s).drop k := (List.take_append_drop _ _).symm
  rw [h1, isKey_append, drop_cons s k h, isKey_cons, hc]
  simp
theorem isKey_step {s : ByteArray} {k : Nat} (h : k < s.size) (h0 : isKey ((lst s).take k) = true) (hc : keyB s[k].toNat = true) : isKey ((lst s).take (k + 1)) = true := by
  rw [take_snoc s k h, isKey_append, isKey_cons, h0, hc]; rfl

theorem shas_key (c : Int) (w : World) : Calls Tryd.prog 52 #[.string ⟨#[33, 35, 36, 37, 38, 39, 42, 43, 45, 46, 94, 95, 96, 124, 126]⟩, .int .u8 c] w
    fun e w' => e = .returned (.bool (hasB (lst ⟨#[33, 35, 36, 37, 38, 39, 42, 43, 45, 46, 94, 95, 96, 124, 126]⟩) c)) ∧ w = w' := shas_any _ _ _ (by decide)

set_option maxHeartbeats 2000000 in
theorem isKey_any (s : ByteArray) (w : World) (hs : s.size ≤ 9223372036854775807) :
    Calls Tryd.prog 42 #[.string s] w fun e w' => e = .returned (.bool (isKey (lst s))) ∧ w = w' := by
  go_enter Tryd.func42, Tryd.ntmps42
  go_wp2_with fail
  go_loop [7] (fun t => ∃ k : Nat, k ≤ s.size ∧ t = .int .i64 k ∧ isKey ((lst s).take k) = true) (fun t => s.size - (intOf t).toNat)
  case atStart => exact ⟨0, Nat.zero_le _, rfl, rfl⟩
  case round =>
    obtain ⟨k, hk, rfl, h0⟩ := hrel
    have H0 := Lib.hid h0
    clear h0
    by_cases hlt : k < s.size
    · have Hy : keyB s[k].toNat = true → Hid (isKey ((lst s).take (k + 1)) = true) := fun h => isKey_step hlt H0.out h
      have Hn : keyB s[k].toNat = false → Hid (isKey (lst s) = false) := fun h => isKey_hit hlt h
      rcases (show (48 ≤ (s[k].toNat : Int) ∧ (s[k].toNat : Int) ≤ 57) ∨ (97 ≤ (s[k].toNat : Int) ∧ (s[k].toNat : Int) ≤ 122) ∨ (65 ≤ (s[k].toNat : Int) ∧ (s[k].toNat : Int) ≤ 90) ∨
        (s[k].toNat : Int) < 48 ∨ (57 < (s[k].toNat : Int) ∧ (s[k].toNat : Int) < 65) ∨ (90 < (s[k].toNat : Int) ∧ (s[k].toNat : Int) < 97) ∨ 122 < (s[k].toNat : Int) from by omega) with h | h | h | h | h | h | h
      iterate 3
        · obtain ⟨h1, h2⟩ := h
          have HS := Hy (by unfold keyB; simp [h1, h2])
          clear Hy Hn
          go_wp2_with fail
          go_round
          case rel => exact ⟨k + 1, hlt, by go_num, HS.out⟩
          case measure => simp [intOf]; omega
      all_goals try have d2 : decide ((s[k].toNat : Int) ≤ 57) = false := by simp; omega
      all_goals try have d4 : decide ((s[k].toNat : Int) ≤ 122) = false := by simp; omega
      all_goals try have d6 : decide ((s[k].toNat : Int) ≤ 90) = false := by simp; omega
      all_goals
        cases hb : hasB (lst ⟨#[33, 35, 36, 37, 38, 39, 42, 43, 45, 46, 94, 95, 96, 124, 126]⟩) s[k].toNat
      all_goals
        first
        | (have HS := Hy (by unfold keyB; simp [hb])
           clear Hy Hn
           go_wp2_with (go_at_call 52; refine (shas_key _ _).mono ?_; rintro e w' ⟨rfl, rfl⟩)
           go_round
           case rel => exact ⟨k + 1, hlt, by go_num, HS.out⟩
           case measure => simp [intOf]; omega)
        | (have HS := Hn (by unfold keyB; simp [hb]; omega)
           clear Hy Hn
           go_wp2_with (go_at_call 52; refine (shas_key _ _).mono ?_; rintro e w' ⟨rfl, rfl⟩)
           go_ret
           exact ⟨ret_bool HS.out.symm, rfl⟩)
    · go_wp2_with fail
      go_ret
      refine ⟨ret_bool ?_, rfl⟩
      rw [← H0.out, List.take_of_length_le (by rw [lst_length]; omega)]
end Go.Proofs.YthobojpbdeepoaaDoor
