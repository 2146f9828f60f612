/-
  The walk of laws.FnTrimmed: it returns true for every text.
-/
import Derived.Test.YtdhdcgliefjonaaHas
import Derived.Test.YtdhdcgliefjonaaTrimString
namespace Go.Proofs.Ytdhdcgliefjonaa
open Go.RowKit

theorem trimmed_any (s : ByteArray) (w : World) (hs : s.size ≤ 9223372036854775807) :
    Calls Try.prog 11 #[.string s] w fun e w' => e = .returned (.string ⟨(trimR spB (trimL spB (lst s))).toArray⟩) ∧ w = w' := by
  go_enter Try.func11, Try.ntmps11
  go_wp2_with (go_at_call 23; refine (trimString_any _ _ hs).mono ?_; rintro e w' ⟨rfl, rfl⟩)
  go_ret
  exact ⟨rfl, rfl⟩

theorem hasB_sp (c : Int) : hasB (lst ⟨#[32, 9, 10, 13]⟩) c = isSp c := by
  have e : ∀ a : Int, (a == c) = (c == a) := fun a => by rw [Bool.eq_iff_iff]; simp; omega
  unfold hasB isSp lst
  simp [e, Bool.or_assoc]

theorem cut_snoc (s : ByteArray) (k j : Nat) (h : k < j) (hj : j - 1 < s.size) : ((lst s).drop k).take (j - k) = ((lst s).drop k).take (j - 1 - k) ++ [s[j - 1]] := by
  rw [show j - k = (j - 1 - k) + 1 from by omega, List.take_add_one, List.getElem?_drop, show k + (j - 1 - k) = j - 1 from by omega, lst_get s _ hj]
  rfl

theorem fnTrimmed_walk (s : ByteArray) (hs : s.size ≤ maxLen) (w : World) :
    Calls Try.prog 3 #[.string s] w fun e w' => e = .returned (.bool true) ∧ Below w.heap.size w w' := by
  unfold maxLen at hs
  by_cases hbig : 2147483647 < s.size
  · go_enter Try.func3, Try.ntmps3
    go_wp2_with fail
    go_ret
    exact ⟨rfl, Below.refl _ _⟩
  cases h11 : hasB (lst s) 11
  all_goals cases h12 : hasB (lst s) 12
  rotate_left
  iterate 3
    go_enter Try.func3, Try.ntmps3
    go_wp2_with (go_at_call 10; refine (lhas_any _ _ _ hs).mono ?_; rintro e w' ⟨rfl, rfl⟩)
    go_ret
    exact ⟨rfl, Below.refl _ _⟩
  have hd : decide ((2147483647 : Int) < (s.size : Int)) = false := by simp; omega
  go_enter Try.func3, Try.ntmps3
  go_wp2_with (go_at_call 10; refine (lhas_any _ _ _ hs).mono ?_; rintro e w' ⟨rfl, rfl⟩)
  clear h11 h12 hd
  go_loop [3] (fun u => ∃ k : Nat, k ≤ s.size ∧ u = .int .i64 k ∧ trimL spB ((lst s).drop k) = trimL spB (lst s)) (fun u => s.size - (intOf u).toNat)
  case atStart => exact ⟨0, Nat.zero_le _, rfl, rfl⟩
  case round =>
    obtain ⟨k, hk, rfl, h0⟩ := hrel
    have H0 := Lib.hid h0
    clear h0
    by_cases hgo : ∃ hp : k < s.size, spB s[k] = true
    · obtain ⟨hp, hb⟩ := hgo
      have hs' : trimL spB ((lst s).drop (k + 1)) = trimL spB (lst s) := by rw [← H0.out, drop_cons s k hp, trimL_step hb]
      have HS := Lib.hid hs'
      clear hs'
      have hb' : hasB (lst ⟨#[32, 9, 10, 13]⟩) s[k].toNat = true := by rw [hasB_sp]; exact hb
      go_wp2_with (go_at_call 10; refine (lhas_any _ _ _ (by decide)).mono ?_; rintro e w' ⟨rfl, rfl⟩)
      go_round
      case rel => exact ⟨k + 1, hp, by go_num, HS.out⟩
      case measure => simp [intOf]; omega
    · have hE : trimL spB (lst s) = (lst s).drop k := by
        rw [← H0.out]
        by_cases hp : k < s.size
        · have hb : spB s[k] = false := by
            cases h : spB s[k] with
            | false => rfl
            | true => exact absurd ⟨hp, h⟩ hgo
          rw [drop_cons s k hp, trimL_stop hb]
        · rw [List.drop_eq_nil_of_le (by rw [lst_length]; omega)]; rfl
      have HE := Lib.hid hE
      have hc : ∀ hp : k < s.size, hasB (lst ⟨#[32, 9, 10, 13]⟩) s[k].toNat = false := fun hp => by
        rw [hasB_sp]
        cases h : isSp s[k].toNat with
        | false => rfl
        | true => exact absurd ⟨hp, h⟩ hgo
      clear hE hgo
      by_cases hp : k < s.size
      all_goals try have hb := hc hp
      all_goals clear hc
      all_goals
        go_wp2_with (go_at_call 10; refine (lhas_any _ _ _ (by decide)).mono ?_; rintro e w' ⟨rfl, rfl⟩)
        try clear hb
        go_loop [4] (fun u => ∃ j : Nat, k ≤ j ∧ j ≤ s.size ∧ u = .int .i64 j ∧ trimR spB (((lst s).drop k).take (j - k)) = trimR spB ((lst s).drop k)) (fun u => (intOf u).toNat)
        case atStart => exact ⟨s.size, hk, Nat.le_refl _, rfl, by rw [List.take_of_length_le (by rw [List.length_drop, lst_length]; omega)]⟩
        case round =>
          obtain ⟨j, hkj, hj, rfl, h1⟩ := hrel
          have H1 := Lib.hid h1
          clear h1
          by_cases hgo : ∃ hp : j - 1 < s.size, k < j ∧ spB s[j - 1] = true
          · obtain ⟨hp1, hlt, hb⟩ := hgo
            have hs' : trimR spB (((lst s).drop k).take (j - 1 - k)) = trimR spB ((lst s).drop k) := by rw [← H1.out, cut_snoc s k j hlt hp1, trimR_step hb]
            have HS := Lib.hid hs'
            clear hs'
            have hb' : hasB (lst ⟨#[32, 9, 10, 13]⟩) s[j - 1].toNat = true := by rw [hasB_sp]; exact hb
            go_wp2_with (go_at_call 10; refine (lhas_any _ _ _ (by decide)).mono ?_; rintro e w' ⟨rfl, rfl⟩)
            all_goals
              go_round
              case rel => exact ⟨j - 1, by omega, by omega, by go_num, HS.out⟩
              case measure => simp [intOf]; omega
          · have hE : trimR spB (trimL spB (lst s)) = lst (s.extract k j) := by
              rw [HE.out, ← H1.out, lst_extract]
              by_cases hp1 : k < j
              · have hlt : j - 1 < s.size := by omega
                have hb : spB s[j - 1] = false := by
                  cases h : spB s[j - 1] with
                  | false => rfl
                  | true => exact absurd ⟨hlt, hp1, h⟩ hgo
                rw [cut_snoc s k j hp1 hlt, trimR_stop hb]
              · rw [show j - k = 0 from by omega]; rfl
            have HF := Lib.hid hE
            have hc : ∀ hp : j - 1 < s.size, k < j → hasB (lst ⟨#[32, 9, 10, 13]⟩) s[j - 1].toNat = false := fun hp h1 => by
              rw [hasB_sp]
              cases h : isSp s[j - 1].toNat with
              | false => rfl
              | true => exact absurd ⟨hp, h1, h⟩ hgo
            clear hE hgo
            by_cases hp1 : k < j
            all_goals try have hb := hc (by omega) hp1
            all_goals clear hc
            all_goals
              go_wp2_with (go_at_call 10; refine (lhas_any _ _ _ (by decide)).mono ?_; rintro e w' ⟨rfl, rfl⟩)
              try clear hb
              all_goals
                go_quiet ((go_at_call 11; exact quiet_left (trimmed_any _ _ hs)))
                go_wp2
                go_ret
                refine ⟨ret_bool ?_, below_drewN (Below.refl _ _) _⟩
                rw [HF.out, Lib.toList_data]
                simp [lst]
end Go.Proofs.Ytdhdcgliefjonaa
