/-
  The walks of laws.FnKeyOfLine, laws.FnCanonical and laws.FnCanonicalTwice: each returns true for every text.
-/
import Derived.Test.YtdhdcgliefjonaaCanonical
namespace Go.Proofs.Ytdhdcgliefjonaa
open Go.RowKit

theorem canB_twice_false : ∀ n : Fin 256, canB false (canB false (UInt8.ofNat n.val)) = canB false (UInt8.ofNat n.val) := by decide +kernel
theorem canB_twice_true : ∀ n : Fin 256, canB true (canB true (UInt8.ofNat n.val)) = canB true (UInt8.ofNat n.val) := by decide +kernel
theorem canB_key_false : ∀ n : Fin 256, (!keyB (UInt8.ofNat n.val).toNat || keyB (canB false (UInt8.ofNat n.val)).toNat) = true := by decide +kernel
theorem canB_key_true : ∀ n : Fin 256, (!keyB (UInt8.ofNat n.val).toNat || keyB (canB true (UInt8.ofNat n.val)).toNat) = true := by decide +kernel
theorem of_fin (c : UInt8) : UInt8.ofNat (⟨c.toNat, c.toNat_lt⟩ : Fin 256).val = c := by
  rw [← UInt8.toNat_inj, UInt8.toNat_ofNat']
  exact Nat.mod_eq_of_lt c.toNat_lt
theorem canB_twice (up : Bool) (c : UInt8) : canB up (canB up c) = canB up c := by
  cases up
  · have h := canB_twice_false ⟨c.toNat, c.toNat_lt⟩; rwa [of_fin c] at h
  · have h := canB_twice_true ⟨c.toNat, c.toNat_lt⟩; rwa [of_fin c] at h
theorem canB_key (up : Bool) (c : UInt8) (hk : keyB c.toNat = true) : keyB (canB up c).toNat = true := by
  cases up
  · have h := canB_key_false ⟨c.toNat, c.toNat_lt⟩; rw [of_fin c, hk] at h; simpa using h
  · have h := canB_key_true ⟨c.toNat, c.toNat_lt⟩; rw [of_fin c, hk] at h; simpa using h
theorem canL_twice : ∀ (l : List UInt8) (up : Bool), canL up (canL up l) = canL up l
  | [], _ => rfl
  | c :: r, up => by simp only [canL, canB_twice, canL_twice r]
theorem canL_key : ∀ (l : List UInt8) (up : Bool), isKey l = true → isKey (canL up l) = true
  | [], _, _ => rfl
  | c :: r, up, h => by
    rw [isKey_cons, Bool.and_eq_true] at h
    simp only [canL]
    rw [isKey_cons, canB_key up c h.1, canL_key r _ h.2]; rfl
theorem canon_twice (l : List UInt8) : canon (canon l) = canon l := by
  unfold canon
  cases h : isKey l
  · simp [h]
  · rw [if_pos rfl, if_pos (canL_key l true h), canL_twice]

theorem str_same (a : ByteArray) : (a.toList == a.toList) = true := by simp

set_option maxHeartbeats 400000 in
theorem fnCanonical_walk (s : ByteArray) (hs : s.size ≤ maxLen) (w : World) :
    Calls Try.prog 7 #[.string s] w fun e w' => e = .returned (.bool true) ∧ Below w.heap.size w w' := by
  unfold maxLen at hs
  by_cases hbig : 2147483647 < s.size
  · go_enter Try.func7, Try.ntmps7
    go_wp2_with fail
    go_ret
    exact ⟨rfl, Below.refl _ _⟩
  go_enter Try.func7, Try.ntmps7
  go_wp2_with (first
    | (go_at_call 17; refine (implCanon_any _ _ hs).mono ?_; rintro e w1 ⟨rfl, hb1⟩)
    | (go_at_call 16; refine (specCanon_any _ _ hs).mono ?_; rintro e w2 ⟨rfl, hb2⟩))
  go_ret
  exact ⟨by simp, hb1.trans (hb2.mono hb1.size)⟩

theorem canon_size (s : ByteArray) : (⟨(canon (lst s)).toArray⟩ : ByteArray).size = s.size := by
  rw [← lst_length, lst_mk (canon (lst s))]
  unfold canon
  split
  · rw [canL_length, lst_length]
  · rw [lst_length]

set_option maxHeartbeats 400000 in
theorem fnCanonicalTwice_walk (s : ByteArray) (hs : s.size ≤ maxLen) (w : World) :
    Calls Try.prog 8 #[.string s] w fun e w' => e = .returned (.bool true) ∧ Below w.heap.size w w' := by
  unfold maxLen at hs
  by_cases hbig : 2147483647 < s.size
  · go_enter Try.func8, Try.ntmps8
    go_wp2_with fail
    go_ret
    exact ⟨rfl, Below.refl _ _⟩
  have HT : Hid (canon (lst ⟨(canon (lst s)).toArray⟩) = canon (lst s)) := by unfold Hid; rw [lst_mk (canon (lst s)), canon_twice]
  have HA : Hid ((⟨(canon (lst ⟨#[97]⟩)).toArray⟩ : ByteArray) = ⟨#[65]⟩) := by unfold Hid; congr 1
  go_enter Try.func8, Try.ntmps8
  go_wp2_with fail
  refine (implCanon_any _ _ hs).mono ?_
  rintro e w1 ⟨rfl, hb1⟩
  go_wp2_with fail
  refine (implCanon_any _ _ (by rw [canon_size]; exact hs)).mono ?_
  rintro e w2 ⟨rfl, hb2⟩
  rw [HT.out]
  go_wp2_with fail
  refine (implCanon_any _ _ hs).mono ?_
  rintro e w3 ⟨rfl, hb3⟩
  go_wp2_with fail
  refine (implCanon_any _ _ (by show 1 ≤ _; omega)).mono ?_
  rintro e w4 ⟨rfl, hb4⟩
  rw [HA.out]
  go_wp2_with fail
  go_ret
  have h12 := hb1.trans (hb2.mono hb1.size)
  have h13 := h12.trans (hb3.mono h12.size)
  exact ⟨by simp, h13.trans (hb4.mono h13.size)⟩

set_option maxHeartbeats 400000 in
theorem fnKeyOfLine_walk (s : ByteArray) (hs : s.size ≤ maxLen) (w : World) :
    Calls Try.prog 6 #[.string s] w fun e w' => e = .returned (.bool true) ∧ Below w.heap.size w w' := by
  unfold maxLen at hs
  by_cases hbig : 2147483647 < s.size
  · go_enter Try.func6, Try.ntmps6
    go_wp2_with fail
    go_ret
    exact ⟨rfl, Below.refl _ _⟩
  by_cases h0 : s.toList = []
  · go_enter Try.func6, Try.ntmps6
    go_wp2_with fail
    go_ret
    exact ⟨rfl, Below.refl _ _⟩
  have hn : s.toList.isEmpty = false := by simpa using h0
  have hne : lst s ≠ [] := by unfold lst; rwa [← Lib.toList_data]
  clear h0
  cases hk : isKey (lst s)
  · go_enter Try.func6, Try.ntmps6
    go_wp2_with (go_at_call 14; refine (isKey_any _ _ hs).mono ?_; rintro e w' ⟨rfl, rfl⟩)
    go_ret
    exact ⟨rfl, Below.refl _ _⟩
  have HR : Hid (canRes (lst s) = (canon (lst s), true)) := by unfold Hid canRes canon; rw [if_neg hne, if_pos hk, if_pos hk]
  clear hne
  go_enter Try.func6, Try.ntmps6
  go_wp2_with (first
    | (go_at_call 14; refine (isKey_any _ _ hs).mono ?_; rintro e w' ⟨rfl, rfl⟩)
    | (go_at_call 15; refine (implKey_any _ _ hs).mono ?_; rw [HR.out]; rintro e w1 ⟨rfl, hb1⟩)
    | (go_at_call 16; refine (specCanon_any _ _ hs).mono ?_; rintro e w2 ⟨rfl, hb2⟩))
  go_ret
  exact ⟨by simp, hb1.trans (hb2.mono hb1.size)⟩
end Go.Proofs.Ytdhdcgliefjonaa
