/-
  The contract of textproto.TrimString.
-/
import Derived.Test.YtdhdcgliefjonaaChecked
import Derived.Test.YtdhdcgliefjonaaTrimLaw
namespace Go.Proofs.Ytdhdcgliefjonaa
open Go.RowKit

theorem isSpace_any (c : Int) (w : World) :
    Calls Try.prog 37 #[.int .u8 c] w fun e w' => e = .returned (.bool (isSp c)) ∧ w = w' := by
  by_cases h1 : c = 32
  · subst h1
    go_enter Try.func37, Try.ntmps37
    go_wp2
    go_ret
    exact ⟨rfl, rfl⟩
  by_cases h2 : c = 9
  · subst h2
    go_enter Try.func37, Try.ntmps37
    go_wp2
    go_ret
    exact ⟨rfl, rfl⟩
  by_cases h3 : c = 10
  · subst h3
    go_enter Try.func37, Try.ntmps37
    go_wp2
    go_ret
    exact ⟨rfl, rfl⟩
  by_cases h4 : c = 13
  · subst h4
    go_enter Try.func37, Try.ntmps37
    go_wp2
    go_ret
    exact ⟨rfl, rfl⟩
  have g1 : (c == 32) = false := by simpa using h1
  have g2 : (c == 9) = false := by simpa using h2
  have g3 : (c == 10) = false := by simpa using h3
  have g4 : (c == 13) = false := by simpa using h4
  have H : Hid (isSp c = false) := by unfold Hid isSp; simp [g1, g2, g3, g4]
  go_enter Try.func37, Try.ntmps37
  go_wp2
  go_ret
  exact ⟨ret_bool H.out.symm, rfl⟩

theorem trimString_any (s : ByteArray) (w : World) (hs : s.size ≤ 9223372036854775807) :
    Calls Try.prog 23 #[.string s] w fun e w' => e = .returned (.string ⟨(trimR spB (trimL spB (lst s))).toArray⟩) ∧ w = w' := by
  go_enter Try.func23, Try.ntmps23
  go_wp2_with fail
  go_loop [0] (fun u => ∃ t : ByteArray, u = .string t ∧ t.size ≤ s.size ∧ trimL spB (lst t) = trimL spB (lst s)) (fun u => strSize u)
  case atStart => exact ⟨s, rfl, Nat.le_refl _, rfl⟩
  case round =>
    obtain ⟨t, rfl, ht, h0⟩ := hrel
    have H0 := Lib.hid h0
    clear h0
    by_cases hgo : ∃ hp : 0 < t.size, spB t[0] = true
    · obtain ⟨hp, hb⟩ := hgo
      have hs' : trimL spB (lst (t.extract 1 t.size)) = trimL spB (lst s) := by rw [← H0.out, lst_tail t hp, trimL_step hb]
      have HS := Lib.hid hs'
      clear hs'
      unfold spB at hb
      go_wp2_with (go_at_call 37; refine (isSpace_any _ _).mono ?_; rintro e w' ⟨rfl, rfl⟩)
      go_round
      case rel => exact ⟨_, rfl, by rw [size_tail]; omega, HS.out⟩
      case measure => simp only [strSize, size_tail]; omega
    · have hE : lst t = trimL spB (lst s) := by
        rw [← H0.out]
        by_cases hp : 0 < t.size
        · have hb : spB t[0] = false := by
            cases h : spB t[0] with
            | false => rfl
            | true => exact absurd ⟨hp, h⟩ hgo
          rw [lst_tail t hp, trimL_stop hb]
        · rw [lst_nil (by omega)]; rfl
      have HE := Lib.hid hE
      have hc : ∀ hp : 0 < t.size, isSp t[0].toNat = false := fun hp => by
        cases h : isSp t[0].toNat with
        | false => rfl
        | true => exact absurd ⟨hp, h⟩ hgo
      clear hE hgo
      by_cases hp : 0 < t.size
      all_goals try have hb := hc hp
      all_goals clear hc
      all_goals
        go_wp2_with (go_at_call 37; refine (isSpace_any _ _).mono ?_; rintro e w' ⟨rfl, rfl⟩)
        try clear hb
        go_loop [0] (fun u => ∃ t : ByteArray, u = .string t ∧ t.size ≤ s.size ∧ trimR spB (lst t) = trimR spB (trimL spB (lst s))) (fun u => strSize u)
        case atStart => exact ⟨t, rfl, ht, by rw [HE.out]⟩
        case round =>
          clear HE H0
          obtain ⟨t, rfl, ht, h0⟩ := hrel
          have H0 := Lib.hid h0
          clear h0
          by_cases hgo : ∃ hp : t.size - 1 < t.size, spB t[t.size - 1] = true
          · obtain ⟨hp, hb⟩ := hgo
            have hs' : trimR spB (lst (t.extract 0 (t.size - 1))) = trimR spB (trimL spB (lst s)) := by rw [← H0.out, lst_init t hp, trimR_step hb]
            have HS := Lib.hid hs'
            clear hs'
            unfold spB at hb
            go_wp2_with (go_at_call 37; refine (isSpace_any _ _).mono ?_; rintro e w' ⟨rfl, rfl⟩)
            go_round
            case rel => exact ⟨_, rfl, by rw [size_init]; omega, HS.out⟩
            case measure => simp only [strSize, size_init]; omega
          · have hE : trimR spB (trimL spB (lst s)) = lst t := by
              rw [← H0.out]
              by_cases hp : t.size - 1 < t.size
              · have hb : spB t[t.size - 1] = false := by
                  cases h : spB t[t.size - 1] with
                  | false => rfl
                  | true => exact absurd ⟨hp, h⟩ hgo
                rw [lst_init t hp, trimR_stop hb]
              · rw [lst_nil (by omega)]; rfl
            have HE := Lib.hid hE
            have hc : ∀ hp : t.size - 1 < t.size, isSp t[t.size - 1].toNat = false := fun hp => by
              cases h : isSp t[t.size - 1].toNat with
              | false => rfl
              | true => exact absurd ⟨hp, h⟩ hgo
            clear hE hgo
            by_cases hp : t.size - 1 < t.size
            all_goals try have hb := hc hp
            all_goals clear hc
            all_goals
              go_wp2_with (go_at_call 37; refine (isSpace_any _ _).mono ?_; rintro e w' ⟨rfl, rfl⟩)
              go_ret
              exact ⟨ret_str (by rw [HE.out, mk_lst]), rfl⟩
end Go.Proofs.Ytdhdcgliefjonaa
