/-
  The contract of canonicalMIMEHeaderKey, over a row of bytes that may be written.
-/
import Derived.Test.YthobojpbdeepoaaDoorCanonLaw
import Derived.Test.YthobojpbdeepoaaDoorMem8
namespace Go.Proofs.YthobojpbdeepoaaDoor
open Go.RowKit

def okSp (l : List UInt8) : Bool := l.all fun b => keyB b.toNat || b.toNat == 32
theorem okSp_snoc (l : List UInt8) (c : UInt8) : okSp (l ++ [c]) = (okSp l && (keyB c.toNat || c.toNat == 32)) := by unfold okSp; rw [List.all_append]; simp
theorem isKey_snoc (l : List UInt8) (c : UInt8) : isKey (l ++ [c]) = (isKey l && keyB c.toNat) := by rw [isKey_append, isKey_cons, isKey_nil, Bool.and_true]
theorem take_next {l : List UInt8} {k : Nat} {c : UInt8} (h : l[k]? = some c) : l.take (k + 1) = l.take k ++ [c] := by rw [List.take_add_one, h]; rfl
theorem okSp_false {l : List UInt8} {k : Nat} {c : UInt8} (h : l[k]? = some c) (hc : (keyB c.toNat || c.toNat == 32) = false) : okSp l = false := by
  have h1 : l = l.take (k + 1) ++ l.drop (k + 1) := (List.take_append_drop _ _).symm
  rw [h1, take_next h]
  unfold okSp
  rw [List.all_append, List.all_append]
  simp [hc]
/-- What canonicalMIMEHeaderKey returns. -/
def canRes (l : List UInt8) : List UInt8 × Bool :=
  if l = [] then ([], false) else if isKey l then (canL true l, true) else if okSp l then (l, true) else (l, false)
theorem isKey_of_ok {l : List UInt8} (h : okSp l = false) : isKey l = false := by
  cases hk : isKey l with
  | false => rfl
  | true =>
    exfalso
    have : okSp l = true := by
      unfold isKey okSp at *
      rw [List.all_eq_true] at *
      intro x hx
      rw [hk x hx]; rfl
    rw [this] at h; cases h

set_option maxRecDepth 100000 in
set_option maxHeartbeats 1000000 in
theorem canonKey_row (b off cap : Nat) (l : List UInt8) (w : World) (hr : Row8 w b off l) (hf : Free8 w b off l.length) (hl : l.length ≤ 9223372036854775807) :
    Calls Tryd.prog 105 #[.slice (some ⟨b, off, none⟩) l.length cap] w fun e w' =>
      e = .returned (.tuple #[.string ⟨(canRes l).1.toArray⟩, .bool (canRes l).2]) ∧ Wrote b off (off + l.length) w w' ∧ Row8 w' b off (canRes l).1 := by
  by_cases h0 : l = []
  · subst h0
    go_enter Tryd.func105, Tryd.ntmps105
    go_wp2_with fail
    go_ret2
    exact ⟨rfl, Wrote.refl _ _ _ _, Row8.nil _ _ _⟩
  have hpos : 0 < l.length := List.length_pos_iff.2 h0
  have hne : ((l.length : Int) == 0) = false := by simp; omega
  have HRW := Lib.hid hr
  have hconv := string_of_row hr 22 9 5 cap Tryd.underlying22 Tryd.underlying5 Tryd.underlying9
  go_enter Tryd.func105, Tryd.ntmps105
  go_wp2_with fail
  go_loop [4, 15] (fun u v => ∃ k : Nat, k ≤ l.length ∧ v = .int .i64 k ∧ u = .bool (!isKey (l.take k)) ∧ okSp (l.take k) = true) (fun _ v => l.length - (intOf v).toNat)
  case atStart => exact ⟨0, Nat.zero_le _, rfl, rfl, rfl⟩
  case round =>
    obtain ⟨k, hk, rfl, rfl, hok⟩ := hrel
    have HO := Lib.hid hok
    clear hok
    by_cases hlt : k < l.length
    · obtain ⟨c, hget⟩ : ∃ c, l[k]? = some c := ⟨_, List.getElem?_eq_getElem hlt⟩
      have hcell := hr _ _ hget
      have HG := Lib.hid hget
      clear hget
      have hc : (c.toNat : Int) ≤ 255 := u8_le c
      cases hkb : keyB c.toNat
      · by_cases h32 : (c.toNat : Int) = 32
        · have HS : Hid (isKey (l.take (k + 1)) = false ∧ okSp (l.take (k + 1)) = true) := by
            have hn : c.toNat = 32 := by omega
            rw [take_next HG.out, isKey_snoc, okSp_snoc, hkb, HO.out, hn]
            exact ⟨by simp, by simp⟩
          have h32' : ((c.toNat : Int) == 32) = true := by simpa using h32
          clear h32
          go_wp2_with (go_at_call 118; refine (vfield_any _ _ (by omega) (by omega)).mono ?_; rintro e w' ⟨rfl, rfl⟩)
          go_round
          case rel => exact ⟨k + 1, hlt, by go_num, by rw [HS.out.1]; rfl, HS.out.2⟩
          case measure => simp [intOf]; omega
        · have HS : Hid (okSp l = false) := okSp_false HG.out (by rw [hkb]; simp; omega)
          have h32' : ((c.toNat : Int) == 32) = false := by simpa using h32
          clear h32
          go_wp2_with (go_at_call 118; refine (vfield_any _ _ (by omega) (by omega)).mono ?_; rintro e w' ⟨rfl, rfl⟩)
          go_ret2
          have hcr : canRes l = (l, false) := by
            unfold canRes
            rw [if_neg h0, if_neg (by rw [isKey_of_ok HS.out]; simp), if_neg (by rw [HS.out]; simp)]
          rw [hcr]
          exact ⟨rfl, Wrote.refl _ _ _ _, HRW.out⟩
      · have HS : Hid (isKey (l.take (k + 1)) = isKey (l.take k) ∧ okSp (l.take (k + 1)) = true) := by
          rw [take_next HG.out, isKey_snoc, okSp_snoc, hkb, HO.out]
          exact ⟨by simp, by simp⟩
        go_wp2_with (go_at_call 118; refine (vfield_any _ _ (by omega) (by omega)).mono ?_; rintro e w' ⟨rfl, rfl⟩)
        go_round
        case rel => exact ⟨k + 1, hlt, by go_num, by rw [HS.out.1], HS.out.2⟩
        case measure => simp [intOf]; omega
    · obtain rfl : k = l.length := by omega
      have HL : Hid (okSp l = true) := by have h := HO.out; rwa [List.take_of_length_le (Nat.le_refl _)] at h
      clear HO
      rw [show l.take l.length = l from List.take_of_length_le (Nat.le_refl _)]
      cases hik : isKey l
      · go_wp2_with fail
        go_ret2
        have hcr : canRes l = (l, true) := by
          unfold canRes
          rw [if_neg h0, if_neg (by rw [hik]; simp), if_pos HL.out]
        rw [hcr]
        exact ⟨rfl, Wrote.refl _ _ _ _, HRW.out⟩
      · clear hconv
        go_wp2_with fail
        have HR : Hid (canRes l = (canL true l, true)) := by unfold Hid canRes; rw [if_neg h0, if_pos hik]
        clear hik
        go_loopw [7, 31] (fun u v wr => ∃ k : Nat, k ≤ l.length ∧ v = .int .i64 k ∧ u = .bool (upL true (l.take k)) ∧ Row8 wr b off (canAt l k) ∧ Wrote b off (off + l.length) w wr) (fun _ v _ => l.length - (intOf v).toNat)
        case atStart => exact ⟨0, Nat.zero_le _, rfl, rfl, by rw [canAt_zero]; exact hr, Wrote.refl _ _ _ _⟩
        case round =>
          obtain ⟨k, hk, rfl, rfl, hrow, hwr⟩ := hrel
          by_cases hlt : k < l.length
          · obtain ⟨c, hget⟩ : ∃ c, l[k]? = some c := ⟨_, List.getElem?_eq_getElem hlt⟩
            have hcell := hrow k c (by rw [canAt_get]; exact hget)
            have hfree : wr.frozen? ⟨b, off + k, none⟩ = false := (hwr.frozen _).trans (hf k hlt)
            have HG := Lib.hid hget
            have hc : (c.toNat : Int) ≤ 255 := u8_le c
            clear hget
            have HD := Lib.hid (hrow.set (k := k) (by rw [canAt_length]; exact hlt) (canB (upL true (l.take k)) c))
            rw [canAt_step HG.out] at HD
            have HU := Lib.hid (upL_step HG.out)
            have HW := fun v => Lib.hid (hwr.setCell (o := off + k) (Nat.le_add_right _ _) (by omega) v)
            clear hrow hwr
            cases hup : upL true (l.take k)
            · rw [hup] at HD HU
              rcases (show (65 ≤ (c.toNat : Int) ∧ (c.toNat : Int) ≤ 90) ∨ (c.toNat : Int) < 65 ∨ 90 < (c.toNat : Int) from by omega) with h | h | h
              · obtain ⟨h1, h2⟩ := h
                have HE := Lib.hid (canB_small h1 h2)
                go_wp2_with fail
                go_roundw
                case rel => exact ⟨k + 1, hlt, by go_num, by rw [HU.out, beq45, HE.out], by rw [← HE.out]; exact HD.out, (HW _).out⟩
                case measure => simp [intOf]; omega
              · have HE := Lib.hid (canB_small_no (c := c) (by omega))
                have d1 : decide (65 ≤ (c.toNat : Int)) = false := by simp; omega
                go_wp2_with fail
                all_goals
                  go_roundw
                  case rel => exact ⟨k + 1, hlt, by go_num, by rw [HU.out, HE.out, beq45], by have h := HD.out; rwa [HE.out] at h, (HW _).out⟩
                  case measure => simp [intOf]; omega
              · have HE := Lib.hid (canB_small_no (c := c) (by omega))
                have d1 : decide ((c.toNat : Int) ≤ 90) = false := by simp; omega
                go_wp2_with fail
                all_goals
                  go_roundw
                  case rel => exact ⟨k + 1, hlt, by go_num, by rw [HU.out, HE.out, beq45], by have h := HD.out; rwa [HE.out] at h, (HW _).out⟩
                  case measure => simp [intOf]; omega
            · rw [hup] at HD HU
              rcases (show (97 ≤ (c.toNat : Int) ∧ (c.toNat : Int) ≤ 122) ∨ (c.toNat : Int) < 97 ∨ 122 < (c.toNat : Int) from by omega) with h | h | h
              · obtain ⟨h1, h2⟩ := h
                have HE := Lib.hid (canB_great h1 h2)
                go_wp2_with fail
                go_roundw
                case rel => exact ⟨k + 1, hlt, by go_num, by rw [HU.out, beq45, HE.out], by rw [← HE.out]; exact HD.out, (HW _).out⟩
                case measure => simp [intOf]; omega
              · have HE := Lib.hid (canB_great_no (c := c) (by omega))
                have d1 : decide (97 ≤ (c.toNat : Int)) = false := by simp; omega
                go_wp2_with fail
                all_goals
                  go_roundw
                  case rel => exact ⟨k + 1, hlt, by go_num, by rw [HU.out, HE.out, beq45], by have h := HD.out; rwa [HE.out] at h, (HW _).out⟩
                  case measure => simp [intOf]; omega
              · have HE := Lib.hid (canB_great_no (c := c) (by omega))
                have d1 : decide ((c.toNat : Int) ≤ 122) = false := by simp; omega
                go_wp2_with fail
                all_goals
                  go_roundw
                  case rel => exact ⟨k + 1, hlt, by go_num, by rw [HU.out, HE.out, beq45], by have h := HD.out; rwa [HE.out] at h, (HW _).out⟩
                  case measure => simp [intOf]; omega
          · obtain rfl : k = l.length := by omega
            rw [canAt_all l (Nat.le_refl _)] at hrow
            have hconv := string_of_row hrow 22 9 5 cap Tryd.underlying22 Tryd.underlying5 Tryd.underlying9
            rw [canL_length] at hconv
            go_wp2_with fail
            go_ret2
            exact ⟨by rw [HR.out]; rfl, hwr, by rw [HR.out]; exact hrow⟩
theorem canonKey_any (b off cap : Nat) (l : List UInt8) (w : World) (hr : Row8 w b off l) (hf : Free8 w b off l.length) (hl : l.length ≤ 9223372036854775807) :
    Calls Tryd.prog 105 #[.slice (some ⟨b, off, none⟩) l.length cap] w fun e w' =>
      e = .returned (.tuple #[.string ⟨(canRes l).1.toArray⟩, .bool (canRes l).2]) ∧ Wrote b off (off + l.length) w w' :=
  (canonKey_row b off cap l w hr hf hl).mono fun _ _ ⟨h1, h2, _⟩ => ⟨h1, h2⟩
end Go.Proofs.YthobojpbdeepoaaDoor
