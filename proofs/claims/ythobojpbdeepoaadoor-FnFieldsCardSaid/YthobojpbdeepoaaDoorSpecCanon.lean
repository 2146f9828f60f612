/-
  The contracts of spec.lower and spec.Canonical.
-/
import Derived.Test.YthobojpbdeepoaaDoorCanonKey
namespace Go.Proofs.YthobojpbdeepoaaDoor
open Go.RowKit

def lowB (c : UInt8) : UInt8 := if decide (65 ≤ c.toNat) && decide (c.toNat ≤ 90) then c + 32 else c
theorem lowB_yes {c : UInt8} (h1 : 65 ≤ (c.toNat : Int)) (h2 : (c.toNat : Int) ≤ 90) : ((lowB c).toNat : Int) = (c.toNat : Int) + 32 := by
  have e : lowB c = c + 32 := by unfold lowB; rw [if_pos (by simp; omega)]
  rw [e, UInt8.toNat_add]
  simp; omega
theorem lowB_no {c : UInt8} (h : ¬ (65 ≤ (c.toNat : Int) ∧ (c.toNat : Int) ≤ 90)) : lowB c = c := by
  unfold lowB; rw [if_neg (by simp; omega)]
def lowAt (l : List UInt8) (k : Nat) : List UInt8 := (l.take k).map lowB ++ l.drop k
theorem lowAt_zero (l : List UInt8) : lowAt l 0 = l := by simp [lowAt]
theorem lowAt_all (l : List UInt8) {k : Nat} (h : l.length ≤ k) : lowAt l k = l.map lowB := by simp [lowAt, List.take_of_length_le h, List.drop_eq_nil_of_le h]
theorem lowAt_length (l : List UInt8) (k : Nat) : (lowAt l k).length = l.length := by simp [lowAt]; omega
theorem lowAt_get (l : List UInt8) (k : Nat) : (lowAt l k)[k]? = l[k]? := by
  unfold lowAt
  by_cases h : k ≤ l.length
  · rw [List.getElem?_append_right (by simp; omega), List.length_map, List.length_take, Nat.min_eq_left h, Nat.sub_self, List.getElem?_drop]
    rfl
  · rw [List.getElem?_eq_none (by simp; omega), List.getElem?_eq_none (by omega)]
theorem drop_next {l : List UInt8} {k : Nat} {c : UInt8} (h : l[k]? = some c) : l.drop k = c :: l.drop (k + 1) := by
  have hk : k < l.length := (List.getElem?_eq_some_iff.1 h).1
  rw [List.drop_eq_getElem_cons hk]; congr 1; exact (List.getElem?_eq_some_iff.1 h).2
theorem lowAt_step {l : List UInt8} {k : Nat} {c : UInt8} (h : l[k]? = some c) : (lowAt l k).set k (lowB c) = lowAt l (k + 1) := by
  have hk : k < l.length := (List.getElem?_eq_some_iff.1 h).1
  unfold lowAt
  rw [take_next h, drop_next h, List.set_append_right _ _ (by simp; omega), List.length_map, List.length_take, Nat.min_eq_left (by omega), Nat.sub_self]
  simp
theorem lowAt_same {l : List UInt8} {k : Nat} {c : UInt8} (h : l[k]? = some c) (hc : lowB c = c) : lowAt l k = lowAt l (k + 1) := by
  unfold lowAt
  rw [take_next h, drop_next h]
  simp [hc]

theorem conv_bytes (w : World) (s : ByteArray) : (convert 9 22 (.string s)).run Tryd.prog w = .ok (.slice (some ⟨w.heap.size, 0, none⟩) s.size (grownCap w s.size 0 5)) (Lib.bytesWorld w 5 s) :=
  Lib.run_convert_string_bytes w 9 22 5 s Tryd.underlying9 Tryd.underlying22 Tryd.underlying5

theorem lower_any (s : ByteArray) (w : World) (hs : s.size ≤ 9223372036854775807) :
    Calls Tryd.prog 69 #[.string s] w fun e w' => e = .returned (.string ⟨((lst s).map lowB).toArray⟩) ∧ Below w.heap.size w w' := by
  have hconv := conv_bytes w s
  have hrow := bytes_row w 5 s
  have hfree := bytes_free w 5 s
  have hbel := bytes_below w 5 s
  go_enter Tryd.func69, Tryd.ntmps69
  go_wp2_with fail
  clear hconv
  generalize Lib.bytesWorld w 5 s = w1 at *
  generalize grownCap w s.size 0 5 = cap at *
  go_loopw [10] (fun v wr => ∃ k : Nat, k ≤ s.size ∧ v = .int .i64 k ∧ Row8 wr w.heap.size 0 (lowAt (lst s) k) ∧ Wrote w.heap.size 0 s.size w1 wr) (fun v _ => s.size - (intOf v).toNat)
  case atStart => exact ⟨0, Nat.zero_le _, rfl, by rw [lowAt_zero]; exact hrow, Wrote.refl _ _ _ _⟩
  case round =>
    clear hrow
    obtain ⟨k, hk, rfl, hrow, hwr⟩ := hrel
    by_cases hlt : k < s.size
    · obtain ⟨c, hget⟩ : ∃ c, (lst s)[k]? = some c := ⟨_, lst_get s k hlt⟩
      have hcell := hrow k c (by rw [lowAt_get]; exact hget)
      have hfr : wr.frozen? ⟨w.heap.size, 0 + k, none⟩ = false := (hwr.frozen _).trans (hfree k hlt)
      rw [Nat.zero_add] at hcell hfr
      have HG := Lib.hid hget
      have hc : (c.toNat : Int) ≤ 255 := u8_le c
      have HB := Lib.hid hbel
      have HF := Lib.hid hfree
      clear hget hbel hfree
      rcases (show (65 ≤ (c.toNat : Int) ∧ (c.toNat : Int) ≤ 90) ∨ (c.toNat : Int) < 65 ∨ 90 < (c.toNat : Int) from by omega) with h | h | h
      · obtain ⟨h1, h2⟩ := h
        have HD := Lib.hid (hrow.set (k := k) (by rw [lowAt_length, lst_length]; exact hlt) (lowB c))
        rw [lowAt_step HG.out] at HD
        have HE := Lib.hid (lowB_yes h1 h2)
        have HW := fun v => Lib.hid (hwr.setCell (o := k) (Nat.zero_le _) hlt v)
        clear hrow hwr
        go_wp2_with fail
        go_roundw
        case rel => exact ⟨k + 1, hlt, by go_num, by have h := HD.out; rwa [HE.out, Nat.zero_add] at h, (HW _).out⟩
        case measure => simp [intOf]; omega
      all_goals
        have HE := Lib.hid (lowB_no (c := c) (by omega))
        have HD : Hid (Row8 wr w.heap.size 0 (lowAt (lst s) (k + 1))) := by rw [← lowAt_same HG.out HE.out]; exact hrow
        have HW := Lib.hid hwr
        clear hrow hwr
        go_wp2_with fail
        go_roundw
        case rel => exact ⟨k + 1, hlt, by go_num, HD.out, HW.out⟩
        case measure => simp [intOf]; omega
    · obtain rfl : k = s.size := by omega
      rw [lowAt_all _ (by rw [lst_length]; exact Nat.le_refl _)] at hrow
      have hconv := string_of_row hrow 22 9 5 cap Tryd.underlying22 Tryd.underlying5 Tryd.underlying9
      rw [List.length_map, lst_length] at hconv
      go_wp2_with fail
      go_ret
      exact ⟨rfl, hbel.trans hwr.below⟩

def scAt (l : List UInt8) (k : Nat) : List UInt8 := canL true (l.take k) ++ (l.map lowB).drop k
theorem scAt_zero (l : List UInt8) : scAt l 0 = l.map lowB := by simp [scAt, canL]
theorem scAt_all (l : List UInt8) {k : Nat} (h : l.length ≤ k) : scAt l k = canL true l := by
  unfold scAt
  rw [List.take_of_length_le h, List.drop_eq_nil_of_le (by simpa using h), List.append_nil]
theorem scAt_length (l : List UInt8) (k : Nat) : (scAt l k).length = l.length := by simp [scAt, canL_length]; omega
theorem scAt_get {l : List UInt8} {k : Nat} {c : UInt8} (h : l[k]? = some c) : (scAt l k)[k]? = some (lowB c) := by
  have hk : k < l.length := (List.getElem?_eq_some_iff.1 h).1
  unfold scAt
  rw [List.getElem?_append_right (by rw [canL_length, List.length_take]; omega), canL_length, List.length_take, Nat.min_eq_left (by omega), Nat.sub_self, List.getElem?_drop, Nat.add_zero, List.getElem?_map, h]
  rfl
theorem scAt_prev {l : List UInt8} {m : Nat} (h : m < l.length) : ∃ d, (scAt l (m + 1))[m]? = some d ∧ upL true (l.take (m + 1)) = ((d.toNat : Int) == 45) := by
  obtain ⟨c, hc⟩ : ∃ c, l[m]? = some c := ⟨_, List.getElem?_eq_getElem h⟩
  refine ⟨canB (upL true (l.take m)) c, ?_, by rw [upL_step hc, beq45]⟩
  unfold scAt
  rw [List.getElem?_append_left (by rw [canL_length, List.length_take]; omega), take_next hc, canL_snoc, List.getElem?_append_right (by rw [canL_length, List.length_take]; omega), canL_length, List.length_take, Nat.min_eq_left (by omega), Nat.sub_self]
  rfl
theorem drop_low {l : List UInt8} {k : Nat} {c : UInt8} (h : l[k]? = some c) : (l.map lowB).drop k = lowB c :: (l.map lowB).drop (k + 1) := drop_next (by rw [List.getElem?_map, h]; rfl)
theorem scAt_step {l : List UInt8} {k : Nat} {c : UInt8} (h : l[k]? = some c) : (scAt l k).set k (canB (upL true (l.take k)) c) = scAt l (k + 1) := by
  have hk : k < l.length := (List.getElem?_eq_some_iff.1 h).1
  unfold scAt
  rw [take_next h, canL_snoc, drop_low h, List.set_append_right _ _ (by rw [canL_length, List.length_take]; omega), canL_length, List.length_take, Nat.min_eq_left (by omega), Nat.sub_self]
  simp
theorem scAt_same {l : List UInt8} {k : Nat} {c : UInt8} (h : l[k]? = some c) (hc : canB (upL true (l.take k)) c = lowB c) : scAt l k = scAt l (k + 1) := by
  unfold scAt
  rw [take_next h, canL_snoc, drop_low h, hc]
  simp
theorem canB_false (c : UInt8) : canB false c = lowB c := by unfold canB lowB; rw [if_neg (by simp)]; rfl
theorem canB_true {c : UInt8} (h1 : 97 ≤ ((lowB c).toNat : Int)) (h2 : ((lowB c).toNat : Int) ≤ 122) : ((canB true c).toNat : Int) = ((lowB c).toNat : Int) - 32 := by
  by_cases hc : 65 ≤ (c.toNat : Int) ∧ (c.toNat : Int) ≤ 90
  · rw [lowB_yes hc.1 hc.2, canB_great_no (by omega)]; omega
  · rw [lowB_no hc] at h1 h2 ⊢
    exact canB_great h1 h2
theorem canB_true_no {c : UInt8} (h : ¬ (97 ≤ ((lowB c).toNat : Int) ∧ ((lowB c).toNat : Int) ≤ 122)) : canB true c = lowB c := by
  by_cases hc : 65 ≤ (c.toNat : Int) ∧ (c.toNat : Int) ≤ 90
  · rw [lowB_yes hc.1 hc.2] at h; omega
  · rw [lowB_no hc] at h ⊢
    exact canB_great_no h

/-- The canonical form of a key; a text with other bytes stays. -/
def canon (l : List UInt8) : List UInt8 := if isKey l then canL true l else l

set_option maxRecDepth 100000 in
set_option maxHeartbeats 1000000 in
theorem specCanon_any (s : ByteArray) (w : World) (hs : s.size ≤ 9223372036854775807) :
    Calls Tryd.prog 45 #[.string s] w fun e w' => e = .returned (.string ⟨(canon (lst s)).toArray⟩) ∧ Below w.heap.size w w' := by
  cases hk : isKey (lst s)
  · have H : Hid ((⟨(canon (lst s)).toArray⟩ : ByteArray) = s) := by unfold Hid canon; rw [if_neg (by rw [hk]; simp), mk_lst]
    go_enter Tryd.func45, Tryd.ntmps45
    go_wp2_with (go_at_call 42; refine (isKey_any _ _ hs).mono ?_; rintro e w' ⟨rfl, rfl⟩)
    go_ret
    exact ⟨ret_str H.out.symm, Below.refl _ _⟩
  have HC : Hid (canon (lst s) = canL true (lst s)) := by unfold Hid canon; rw [if_pos hk]
  have hconv := fun w1 => conv_bytes w1 ⟨((lst s).map lowB).toArray⟩
  have HZ : Hid ((⟨((lst s).map lowB).toArray⟩ : ByteArray).size = (lst s).length) := by unfold Hid; rw [← lst_length, lst_mk, List.length_map]
  have hlen : (lst s).length ≤ 9223372036854775807 := by rw [lst_length]; exact hs
  go_enter Tryd.func45, Tryd.ntmps45
  go_wp2_with (first
    | (go_at_call 42; refine (isKey_any _ _ hs).mono ?_; rintro e w' ⟨rfl, rfl⟩)
    | (go_at_call 69; refine (lower_any _ _ hs).mono ?_; rintro e w1 ⟨rfl, hb1⟩))
  clear hconv hk
  have hrow := bytes_row w1 5 ⟨((lst s).map lowB).toArray⟩
  have hfree := bytes_free w1 5 ⟨((lst s).map lowB).toArray⟩
  have hbel := bytes_below w1 5 ⟨((lst s).map lowB).toArray⟩
  rw [lst_mk ((lst s).map lowB)] at hrow
  rw [HZ.out] at hfree
  clear HZ
  generalize Lib.bytesWorld w1 5 ⟨((lst s).map lowB).toArray⟩ = w2 at *
  generalize grownCap w1 (lst s).length 0 5 = cap at *
  go_loopw [15] (fun v wr => ∃ k : Nat, k ≤ (lst s).length ∧ v = .int .i64 k ∧ Row8 wr w1.heap.size 0 (scAt (lst s) k) ∧ Wrote w1.heap.size 0 (lst s).length w2 wr) (fun v _ => (lst s).length - (intOf v).toNat)
  case atStart => exact ⟨0, Nat.zero_le _, rfl, by rw [scAt_zero]; exact hrow, Wrote.refl _ _ _ _⟩
  case round =>
    clear hrow
    obtain ⟨k, hk, rfl, hrow, hwr⟩ := hrel
    by_cases hlt : k < (lst s).length
    · obtain ⟨c, hget⟩ : ∃ c, (lst s)[k]? = some c := ⟨_, List.getElem?_eq_getElem hlt⟩
      have hcell := hrow k _ (scAt_get hget)
      have hfr : wr.frozen? ⟨w1.heap.size, 0 + k, none⟩ = false := (hwr.frozen _).trans (hfree k hlt)
      rw [Nat.zero_add] at hcell hfr
      have hcle : ((lowB c).toNat : Int) ≤ 255 := u8_le _
      have HD := Lib.hid (hrow.set (k := k) (by rw [scAt_length]; exact hlt) (canB (upL true ((lst s).take k)) c))
      rw [scAt_step hget] at HD
      have HS : canB (upL true ((lst s).take k)) c = lowB c → Hid (Row8 wr w1.heap.size 0 (scAt (lst s) (k + 1))) := fun h => by rw [← scAt_same hget h]; exact hrow
      have HW := fun v => Lib.hid (hwr.setCell (o := k) (Nat.zero_le _) hlt v)
      have HV := Lib.hid hwr
      have HB := Lib.hid hbel
      have HF := Lib.hid hfree
      have hprev : ∀ m, k = m + 1 → ∃ d : UInt8, wr.cell? ⟨w1.heap.size, m, none⟩ = some (.int .u8 (d.toNat : Int)) ∧ upL true ((lst s).take k) = ((d.toNat : Int) == 45) := fun m hm => by
        subst hm
        obtain ⟨d, h1, h2⟩ := scAt_prev (l := lst s) (m := m) (by omega)
        have h3 := hrow m d h1
        rw [Nat.zero_add] at h3
        exact ⟨d, h3, h2⟩
      clear hget hbel hfree hrow hwr
      rcases Nat.eq_zero_or_pos k with hk0 | hk0
      · subst hk0
        clear hprev
        have hup : upL true ((lst s).take 0) = true := rfl
        rw [hup] at HD HS
        rcases (show (97 ≤ ((lowB c).toNat : Int) ∧ ((lowB c).toNat : Int) ≤ 122) ∨ ((lowB c).toNat : Int) < 97 ∨ 122 < ((lowB c).toNat : Int) from by omega) with h | h | h
        · obtain ⟨h1, h2⟩ := h
          have HE := Lib.hid (canB_true h1 h2)
          clear HS
          go_wp2_with fail
          go_roundw
          case rel => exact ⟨0 + 1, hlt, by go_num, by have h := HD.out; rwa [HE.out] at h, (HW _).out⟩
          case measure => simp [intOf]; omega
        · have HE := HS (canB_true_no (by omega))
          clear HS
          go_wp2_with fail
          go_roundw
          case rel => exact ⟨0 + 1, hlt, by go_num, HE.out, HV.out⟩
          case measure => simp [intOf]; omega
        · have HE := HS (canB_true_no (by omega))
          have d1 : decide (((lowB c).toNat : Int) ≤ 122) = false := by simp; omega
          clear HS
          go_wp2_with fail
          go_roundw
          case rel => exact ⟨0 + 1, hlt, by go_num, HE.out, HV.out⟩
          case measure => simp [intOf]; omega
      · obtain ⟨d, hd, hup⟩ := hprev (k - 1) (by omega)
        clear hprev
        have hk1 : ((k : Int) == 0) = false := by simp; omega
        rw [hup] at HD HS
        clear hup
        cases hd45 : ((d.toNat : Int) == 45)
        · rw [hd45] at HS HD
          have HE := HS (canB_false c)
          clear HS
          go_wp2_with fail
          go_roundw
          case rel => exact ⟨k + 1, hlt, by go_num, HE.out, HV.out⟩
          case measure => simp [intOf]; omega
        · rw [hd45] at HS HD
          rcases (show (97 ≤ ((lowB c).toNat : Int) ∧ ((lowB c).toNat : Int) ≤ 122) ∨ ((lowB c).toNat : Int) < 97 ∨ 122 < ((lowB c).toNat : Int) from by omega) with h | h | h
          · obtain ⟨h1, h2⟩ := h
            have HE := Lib.hid (canB_true h1 h2)
            clear HS
            go_wp2_with fail
            go_roundw
            case rel => exact ⟨k + 1, hlt, by go_num, by have h := HD.out; rwa [HE.out, Nat.zero_add] at h, (HW _).out⟩
            case measure => simp [intOf]; omega
          · have HE := HS (canB_true_no (by omega))
            clear HS
            go_wp2_with fail
            go_roundw
            case rel => exact ⟨k + 1, hlt, by go_num, HE.out, HV.out⟩
            case measure => simp [intOf]; omega
          · have HE := HS (canB_true_no (by omega))
            have d1 : decide (((lowB c).toNat : Int) ≤ 122) = false := by simp; omega
            clear HS
            go_wp2_with fail
            go_roundw
            case rel => exact ⟨k + 1, hlt, by go_num, HE.out, HV.out⟩
            case measure => simp [intOf]; omega
    · obtain rfl : k = (lst s).length := by omega
      rw [scAt_all _ (Nat.le_refl _)] at hrow
      have hconv := string_of_row hrow 22 9 5 cap Tryd.underlying22 Tryd.underlying5 Tryd.underlying9
      rw [canL_length] at hconv
      go_wp2_with fail
      go_ret
      exact ⟨by rw [HC.out]; rfl, hb1.trans ((hbel.trans hwr.below).mono hb1.size)⟩
end Go.Proofs.YthobojpbdeepoaaDoor
