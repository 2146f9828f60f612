/-
  The contracts of spec.line, spec.Line, impl's kind (nil, the end) and impl.Line.
-/
import Derived.Test.YthobojpbdeepoaaDoorMakeReader
namespace Go.Proofs.YthobojpbdeepoaaDoor
open Go.RowKit

/-- What spec.line answers. -/
def SLPost (s : ByteArray) (w : World) (e : Ending) (w' : World) : Prop :=
  (∃ n, w' = w.drewN n) ∧
  ((∃ j, (lst s)[j]? = some 10 ∧ NoNl (lst s) 0 j ∧ e = .returned (.tuple #[.string ⟨(trimCR ((lst s).take j)).toArray⟩, .string ⟨((lst s).drop (j + 1)).toArray⟩, .bool true])) ∨
   (NoNl (lst s) 0 s.size ∧ e = .returned (.tuple #[.string ⟨#[]⟩, .string ⟨#[]⟩, .bool false])))

theorem str_take (s : ByteArray) (k : Nat) : s.extract 0 k = ⟨((lst s).take k).toArray⟩ := lst_inj (by rw [lst_extract, List.drop_zero, Nat.sub_zero]; rfl)
theorem str_drop (s : ByteArray) (k : Nat) : s.extract k s.size = ⟨((lst s).drop k).toArray⟩ := lst_inj (by
  rw [lst_extract, List.take_of_length_le (by rw [List.length_drop, lst_length]; exact Nat.le_refl _)]
  rfl)
theorem u8_is {u : UInt8} {c : UInt8} (h : u = c) : ((u.toNat : Int) == (c.toNat : Int)) = true := by rw [u8_eq, decide_eq_true h]
theorem u8_not {u : UInt8} {c : UInt8} (h : u ≠ c) : ((u.toNat : Int) == (c.toNat : Int)) = false := by rw [u8_eq, decide_eq_false h]

theorem sl_hit {s : ByteArray} {k : Nat} (w : World) (n : Nat) (hlt : k < s.size) (h10 : s[k] = 10) (hno : NoNl (lst s) 0 k) (m : Nat) (hm : (m = k ∧ (∀ h : 0 < k, s[k - 1] ≠ 13)) ∨ (m = k - 1 ∧ ∃ h : 0 < k, s[k - 1] = 13)) :
    SLPost s w (.returned (.tuple #[.string (s.extract 0 m), .string (s.extract (k + 1) s.size), .bool true])) (w.drewN n) := by
  refine ⟨⟨n, rfl⟩, .inl ⟨k, by rw [lst_get s k hlt, h10], hno, ?_⟩⟩
  rw [str_take, str_drop]
  have h1 : trimCR ((lst s).take k) = (lst s).take m := by
    have hl : ((lst s).take k).length = k := by rw [List.length_take, lst_length]; omega
    unfold trimCR
    rw [hl]
    by_cases hk : 0 < k
    · rw [List.getElem?_take_of_lt (by omega), lst_get s (k - 1) (by omega)]
      rcases hm with ⟨rfl, h2⟩ | ⟨rfl, _, h2⟩
      · rw [if_neg (fun e => h2 hk (Option.some.inj e))]
      · rw [if_pos (by rw [h2]), List.take_take, Nat.min_eq_left (by omega)]
    · have h0 : k = 0 := by omega
      subst h0
      rcases hm with ⟨rfl, _⟩ | ⟨_, h2, _⟩
      · simp
      · omega
  rw [h1]

set_option maxRecDepth 100000 in
set_option maxHeartbeats 2000000 in
theorem specline_any (s : ByteArray) (w : World) (hs : s.size ≤ 4294967296) : Calls Tryd.prog 62 #[.string s] w (SLPost s w) := by
  go_enter Tryd.func62, Tryd.ntmps62
  go_wp2_with fail
  go_loopg [8] s.size (fun g v wr => ∃ k : Nat, k ≤ s.size ∧ v = .int .i64 (k : Int) ∧ wr = w ∧ NoNl (lst s) 0 k ∧ s.size - k ≤ g)
  case atStart => exact ⟨0, Nat.zero_le _, rfl, rfl, fun j hj => absurd hj (Nat.not_lt_zero j), Nat.le_refl _⟩
  case round =>
    obtain ⟨k, hk, rfl, rfl, hno, hg⟩ := hrel
    have HN := Lib.hid hno
    by_cases hlt : k < s.size
    · have b0 : (k : Int) < (s.size : Int) := by omega
      by_cases h10 : s[k] = 10
      · have t10 : ((s[k].toNat : Int) == 10) = true := u8_is (c := 10) h10
        have e2 : IntKind.i64.wrap ((k : Int) + 1) = (k : Int) + 1 := IntWalk.i64_in _ (by omega)
        have e3 : ((k : Int) + 1).toNat = k + 1 := by omega
        by_cases hk0 : 0 < k
        · have b1 : (0 : Int) < (k : Int) := by omega
          have e1 : IntKind.i64.wrap ((k : Int) - 1) = (k : Int) - 1 := IntWalk.i64_in _ (by omega)
          have e4 : ((k : Int) - 1).toNat = k - 1 := by omega
          have b2 : (0 : Int) ≤ (k : Int) - 1 := by omega
          have b3 : k - 1 < s.size := by omega
          by_cases h13 : s[k - 1] = 13
          · have t13 : ((s[k - 1].toNat : Int) == 13) = true := u8_is (c := 13) h13
            have HF := Lib.hid (fun n => sl_hit wr n hlt h10 hno (k - 1) (.inr ⟨rfl, hk0, h13⟩))
            clear hno hg h10 h13
            go_wp2_with fail
            go_quiet (fail)
            go_wp2_with fail
            go_ret3
            exact HF.out _
          · have t13 : ((s[k - 1].toNat : Int) == 13) = false := u8_not (c := 13) h13
            have HF := Lib.hid (fun n => sl_hit wr n hlt h10 hno k (.inl ⟨rfl, fun _ => h13⟩))
            clear hno hg h10 h13
            go_wp2_with fail
            go_quiet (fail)
            go_wp2_with fail
            go_ret3
            exact HF.out _
        · obtain rfl : k = 0 := by omega
          have HF := Lib.hid (fun n => sl_hit wr n hlt h10 hno 0 (.inl ⟨rfl, fun h => absurd h hk0⟩))
          rw [show s.extract 0 0 = ByteArray.empty from lst_inj (by rw [lst_extract, Nat.sub_zero, List.take_zero]; rfl), Nat.zero_add] at HF
          clear hno hg h10
          go_wp2_with fail
          go_quiet (fail)
          go_wp2_with fail
          go_ret3
          exact HF.out _
      · have t10 : ((s[k].toNat : Int) == 10) = false := u8_not (c := 10) h10
        have HM : Hid (NoNl (lst s) 0 (k + 1) ∧ s.size - (k + 1) ≤ gk - 1 ∧ 1 ≤ gk) := ⟨fun j hj => by
          rcases Nat.lt_or_ge j k with h1 | h1
          · exact hno j h1
          · obtain rfl : j = k := by omega
            rw [Nat.zero_add, lst_get s _ hlt]
            exact fun e => h10 (Option.some.inj e), by omega, by omega⟩
        clear hno hg h10
        go_wp2_with fail
        go_roundg (gk - 1)
        case rel => exact ⟨k + 1, hlt, by go_num, rfl, HM.out.1, HM.out.2.1⟩
        case measure => have := HM.out.2.2; omega
    · have b0 : ¬ (k : Int) < (s.size : Int) := by omega
      have HF : Hid (SLPost s wr (.returned (.tuple #[.string ⟨#[]⟩, .string ⟨#[]⟩, .bool false])) wr) := ⟨⟨0, rfl⟩, .inr ⟨by rwa [show s.size = k from by omega], rfl⟩⟩
      clear hno hg
      go_wp2_with fail
      go_ret3
      exact HF.out

def SLinePost (s : ByteArray) (w : World) (e : Ending) (w' : World) : Prop :=
  (∃ n, w' = w.drewN n) ∧
  ((∃ j, (lst s)[j]? = some 10 ∧ NoNl (lst s) 0 j ∧ e = .returned (.tuple #[.string ⟨(trimCR ((lst s).take j)).toArray⟩, .string ⟨((lst s).drop (j + 1)).toArray⟩, .int .i64 0])) ∨
   (0 < s.size ∧ NoNl (lst s) 0 s.size ∧ e = .returned (.tuple #[.string ⟨#[]⟩, .string ⟨#[]⟩, .int .i64 2])) ∨ (s.size = 0 ∧ e = .returned (.tuple #[.string ⟨#[]⟩, .string ⟨#[]⟩, .int .i64 1])))
theorem specLine_any (s : ByteArray) (w : World) (hs : s.size ≤ 4294967296) : Calls Tryd.prog 31 #[.string s] w (SLinePost s w) := by
  have SL := specline_any s w hs
  by_cases h0 : s.size = 0
  · obtain rfl : s = ByteArray.empty := lst_inj (List.eq_nil_of_length_eq_zero (by rw [lst_length, h0]))
    go_enter Tryd.func31, Tryd.ntmps31
    go_wp2_with fail
    go_ret3
    exact ⟨⟨0, rfl⟩, .inr (.inr ⟨rfl, rfl⟩)⟩
  · have hne : s.toList.isEmpty = false := by
      rw [ByteArray.toList_eq]
      cases hl : s.data.toList with
      | nil => exact absurd (by rw [← lst_length]; unfold lst; rw [hl]; rfl) h0
      | cons _ _ => rfl
    go_enter Tryd.func31, Tryd.ntmps31
    go_wp2_with fail
    go_at_call 62
    refine SL.mono ?_
    rintro e w1 ⟨⟨n, rfl⟩, hor⟩
    rcases hor with ⟨j, h1, h2, rfl⟩ | ⟨h2, rfl⟩
    · have HF : Hid (SLinePost s w _ (w.drewN n)) := ⟨⟨n, rfl⟩, .inl ⟨j, h1, h2, rfl⟩⟩
      clear h1 h2 SL
      go_wp2_with fail
      go_ret3
      exact HF.out
    · have HF : Hid (SLinePost s w _ (w.drewN n)) := ⟨⟨n, rfl⟩, .inr (.inl ⟨by omega, h2, rfl⟩)⟩
      clear h2 SL
      go_wp2_with fail
      go_ret3
      exact HF.out

theorem kind_nil (w : World) : Calls Tryd.prog 50 #[.nilIface] w fun e w' => e = .returned (.int .i64 0) ∧ w = w' := by
  go_enter Tryd.func50, Tryd.ntmps50
  go_wp2_with fail
  go_ret
  exact ⟨rfl, rfl⟩
theorem kind_eof {K : Nat} {ae : Addr} (w : World) (h : Sent w K 0 ae) : Calls Tryd.prog 50 #[errAt ae] w fun e w' => e = .returned (.int .i64 1) ∧ w = w' := by
  have q2 := err_same w ae
  have q4 : (binOp .eql 74 (errAt ae) .nilIface).run Tryd.prog w = .ok (.bool false) w := by simp [go_sem]
  have c := h.cell
  go_enter Tryd.func50, Tryd.ntmps50
  go_wp2_with fail
  go_ret
  exact ⟨rfl, rfl⟩

end Go.Proofs.YthobojpbdeepoaaDoor
