/-
  The contracts of CanonicalMIMEHeaderKey, impl.Canonical and impl.CanonicalKey.
-/
import Derived.Test.YtdhdcgliefjonaaSpecCanon
namespace Go.Proofs.Ytdhdcgliefjonaa
open Go.RowKit

theorem canL_id_step {l : List UInt8} {k : Nat} {c : UInt8} (h : l[k]? = some c) (h0 : canL true (l.take k) = l.take k) (hc : canB (upL true (l.take k)) c = c) : canL true (l.take (k + 1)) = l.take (k + 1) := by
  rw [take_next h, canL_snoc, hc, h0]

theorem canRes_fst (l : List UInt8) : (canRes l).1 = canon l := by
  unfold canRes canon
  by_cases h0 : l = []
  · subst h0; rfl
  · rw [if_neg h0]
    cases isKey l
    · cases okSp l <;> rfl
    · rfl

set_option maxHeartbeats 1000000 in
theorem canonKey_str (s : ByteArray) (w : World) (hs : s.size ≤ 9223372036854775807) (cap : Nat) (w1 : World) (hrow : Row8 w1 w.heap.size 0 (lst s)) (hfree : Free8 w1 w.heap.size 0 s.size) :
    Calls Try.prog 40 #[.slice (some ⟨w.heap.size, 0, none⟩) s.size cap] w1 fun e w' =>
      e = .returned (.tuple #[.string ⟨(canRes (lst s)).1.toArray⟩, .bool (canRes (lst s)).2]) ∧ Wrote w.heap.size 0 s.size w1 w' := by
  have h := canonKey_any w.heap.size 0 cap (lst s) w1 hrow (by rw [lst_length]; exact hfree) (by rw [lst_length]; exact hs)
  rwa [lst_length, Nat.zero_add] at h

set_option maxHeartbeats 1000000 in
theorem mimeKey_any (s : ByteArray) (w : World) (hs : s.size ≤ 9223372036854775807) :
    Calls Try.prog 29 #[.string s] w fun e w' => e = .returned (.string ⟨(canon (lst s)).toArray⟩) ∧ Below w.heap.size w w' := by
  have hconv := conv_bytes w s
  have hrow := bytes_row w 5 s
  have hfree := bytes_free w 5 s
  have hbel := bytes_below w 5 s
  generalize Lib.bytesWorld w 5 s = w1 at *
  generalize grownCap w s.size 0 5 = cap at *
  go_enter Try.func29, Try.ntmps29
  go_wp2_with fail
  go_loop [0, 3, 4] (fun z u v => z = .string s ∧ ∃ k : Nat, k ≤ s.size ∧ v = .int .i64 k ∧ u = .bool (upL true ((lst s).take k)) ∧ isKey ((lst s).take k) = true ∧ canL true ((lst s).take k) = (lst s).take k) (fun _ _ v => s.size - (intOf v).toNat)
  case atStart => exact ⟨rfl, 0, Nat.zero_le _, rfl, rfl, rfl, rfl⟩
  case round =>
    obtain ⟨rfl, k, hk, rfl, rfl, hik, hid⟩ := hrel
    have HI := Lib.hid hik
    have HD := Lib.hid hid
    have HROW := Lib.hid hrow
    have HF := Lib.hid hfree
    have HB := Lib.hid hbel
    clear hik hid hrow hfree hbel
    by_cases hlt : k < s.size
    · have hget := lst_get s k hlt
      have hc : (s[k].toNat : Int) ≤ 255 := u8_le _
      have HG := Lib.hid hget
      clear hget
      cases hkb : keyB s[k].toNat
      · have HC : Hid ((⟨(canon (lst s)).toArray⟩ : ByteArray) = s) := by unfold Hid canon; rw [if_neg (by rw [isKey_hit hlt hkb]; simp), mk_lst]
        go_wp2_with (go_at_call 39; refine (vfield_any _ _ (by omega) (by omega)).mono ?_; rintro e w' ⟨rfl, rfl⟩)
        go_ret
        exact ⟨ret_str HC.out.symm, Below.refl _ _⟩
      · have HK := Lib.hid (isKey_step hlt HI.out hkb)
        cases hup : upL true ((lst s).take k)
        · rcases (show (65 ≤ (s[k].toNat : Int) ∧ (s[k].toNat : Int) ≤ 90) ∨ (s[k].toNat : Int) < 65 ∨ 90 < (s[k].toNat : Int) from by omega) with h | h | h
          · go_wp2_with (first | (go_at_call 39; refine (vfield_any _ _ (by omega) (by omega)).mono ?_; rintro e w' ⟨rfl, rfl⟩) | (go_at_call 40; refine (canonKey_str s w hs cap w1 HROW.out HF.out).mono ?_; rintro e w2 ⟨rfl, hw2⟩))
            go_ret
            exact ⟨ret_str (by rw [canRes_fst]), HB.out.trans hw2.below⟩
          · have HE := Lib.hid (canB_small_no (c := s[k]) (by omega))
            have HR : Hid (upL true ((lst s).take (k + 1)) = ((s[k].toNat : Int) == 45) ∧ canL true ((lst s).take (k + 1)) = (lst s).take (k + 1)) :=
              ⟨by rw [upL_step HG.out, hup, HE.out, beq45], canL_id_step HG.out HD.out (by rw [hup]; exact HE.out)⟩
            have d1 : decide (65 ≤ (s[k].toNat : Int)) = false := by simp; omega
            clear hup
            go_wp2_with (go_at_call 39; refine (vfield_any _ _ (by omega) (by omega)).mono ?_; rintro e w' ⟨rfl, rfl⟩)
            all_goals
              go_round
              case rel => exact ⟨rfl, k + 1, hlt, by go_num, by rw [HR.out.1], HK.out, HR.out.2⟩
              case measure => simp [intOf]; omega
          · have HE := Lib.hid (canB_small_no (c := s[k]) (by omega))
            have HR : Hid (upL true ((lst s).take (k + 1)) = ((s[k].toNat : Int) == 45) ∧ canL true ((lst s).take (k + 1)) = (lst s).take (k + 1)) :=
              ⟨by rw [upL_step HG.out, hup, HE.out, beq45], canL_id_step HG.out HD.out (by rw [hup]; exact HE.out)⟩
            have d1 : decide ((s[k].toNat : Int) ≤ 90) = false := by simp; omega
            clear hup
            go_wp2_with (go_at_call 39; refine (vfield_any _ _ (by omega) (by omega)).mono ?_; rintro e w' ⟨rfl, rfl⟩)
            all_goals
              go_round
              case rel => exact ⟨rfl, k + 1, hlt, by go_num, by rw [HR.out.1], HK.out, HR.out.2⟩
              case measure => simp [intOf]; omega
        · rcases (show (97 ≤ (s[k].toNat : Int) ∧ (s[k].toNat : Int) ≤ 122) ∨ (s[k].toNat : Int) < 97 ∨ 122 < (s[k].toNat : Int) from by omega) with h | h | h
          · go_wp2_with (first | (go_at_call 39; refine (vfield_any _ _ (by omega) (by omega)).mono ?_; rintro e w' ⟨rfl, rfl⟩) | (go_at_call 40; refine (canonKey_str s w hs cap w1 HROW.out HF.out).mono ?_; rintro e w2 ⟨rfl, hw2⟩))
            go_ret
            exact ⟨ret_str (by rw [canRes_fst]), HB.out.trans hw2.below⟩
          · have HE := Lib.hid (canB_great_no (c := s[k]) (by omega))
            have HR : Hid (upL true ((lst s).take (k + 1)) = ((s[k].toNat : Int) == 45) ∧ canL true ((lst s).take (k + 1)) = (lst s).take (k + 1)) :=
              ⟨by rw [upL_step HG.out, hup, HE.out, beq45], canL_id_step HG.out HD.out (by rw [hup]; exact HE.out)⟩
            have d1 : decide (97 ≤ (s[k].toNat : Int)) = false := by simp; omega
            clear hup
            go_wp2_with (go_at_call 39; refine (vfield_any _ _ (by omega) (by omega)).mono ?_; rintro e w' ⟨rfl, rfl⟩)
            all_goals
              go_round
              case rel => exact ⟨rfl, k + 1, hlt, by go_num, by rw [HR.out.1], HK.out, HR.out.2⟩
              case measure => simp [intOf]; omega
          · have HE := Lib.hid (canB_great_no (c := s[k]) (by omega))
            have HR : Hid (upL true ((lst s).take (k + 1)) = ((s[k].toNat : Int) == 45) ∧ canL true ((lst s).take (k + 1)) = (lst s).take (k + 1)) :=
              ⟨by rw [upL_step HG.out, hup, HE.out, beq45], canL_id_step HG.out HD.out (by rw [hup]; exact HE.out)⟩
            have d1 : decide ((s[k].toNat : Int) ≤ 122) = false := by simp; omega
            clear hup
            go_wp2_with (go_at_call 39; refine (vfield_any _ _ (by omega) (by omega)).mono ?_; rintro e w' ⟨rfl, rfl⟩)
            all_goals
              go_round
              case rel => exact ⟨rfl, k + 1, hlt, by go_num, by rw [HR.out.1], HK.out, HR.out.2⟩
              case measure => simp [intOf]; omega
    · obtain rfl : k = s.size := by omega
      have HC : Hid ((⟨(canon (lst s)).toArray⟩ : ByteArray) = s) := by
        have h1 := HI.out
        have h2 := HD.out
        rw [List.take_of_length_le (by rw [lst_length]; exact Nat.le_refl _)] at h1 h2
        unfold Hid canon; rw [if_pos h1, h2, mk_lst]
      go_wp2_with fail
      go_ret
      exact ⟨ret_str HC.out.symm, Below.refl _ _⟩

theorem implCanon_any (s : ByteArray) (w : World) (hs : s.size ≤ 9223372036854775807) :
    Calls Try.prog 17 #[.string s] w fun e w' => e = .returned (.string ⟨(canon (lst s)).toArray⟩) ∧ Below w.heap.size w w' := by
  go_enter Try.func17, Try.ntmps17
  go_wp2_with (go_at_call 29; refine (mimeKey_any _ _ hs).mono ?_; rintro e w1 ⟨rfl, hb1⟩)
  go_ret
  exact ⟨rfl, hb1⟩

theorem implKey_any (s : ByteArray) (w : World) (hs : s.size ≤ 9223372036854775807) :
    Calls Try.prog 15 #[.string s] w fun e w' => e = .returned (.tuple #[.string ⟨(canRes (lst s)).1.toArray⟩, .bool (canRes (lst s)).2]) ∧ Below w.heap.size w w' := by
  have hconv := conv_bytes w s
  have HROW := Lib.hid (bytes_row w 5 s)
  have HF := Lib.hid (bytes_free w 5 s)
  have HB := Lib.hid (bytes_below w 5 s)
  generalize Lib.bytesWorld w 5 s = w1 at *
  generalize grownCap w s.size 0 5 = cap at *
  go_enter Try.func15, Try.ntmps15
  go_wp2_with (first
    | (go_at_call 40; refine (canonKey_str s w hs cap w1 HROW.out HF.out).mono ?_; rintro e w2 ⟨rfl, hw2⟩)
    | go_in)
  go_ret2
  exact ⟨rfl, HB.out.trans hw2.below⟩
end Go.Proofs.Ytdhdcgliefjonaa
