/-
  The contract of spec.Dots.
-/
import Derived.Test.YthobojpbdeepoaaDoorDotLaw
import Derived.Test.YthobojpbdeepoaaDoorHas
import Derived.Test.YthobojpbdeepoaaDoorSpecLine
namespace Go.Proofs.YthobojpbdeepoaaDoor
open Go.RowKit

/-- What spec.Dots answers. -/
def SDPost (s : ByteArray) (w : World) (e : Ending) (w' : World) : Prop :=
  (∃ n, w' = w.drewN n) ∧ ∃ (text rest : ByteArray) (what : Int), e = .returned (.tuple #[.string text, .string rest, .int .i64 what]) ∧ text.size ≤ s.size ∧
   ((what = 0 ∧ ∃ ls, Lns ls ∧ lst s = crlfs ls ++ 46 :: 13 :: 10 :: lst rest ∧ lst text = lfs (ls.map unstuff)) ∨ (what = 1 ∧ ∃ ls t, Lns ls ∧ Clean t ∧ lst s = crlfs ls ++ t) ∨ what = 2)

theorem clean_of_has {l : List UInt8} (h1 : hasB l 10 = false) (h2 : hasB l 13 = false) : Clean l := by
  intro c hc
  unfold hasB at h1 h2
  rw [List.any_eq_false] at h1 h2
  have a := h1 c hc
  have b := h2 c hc
  refine ⟨?_, ?_⟩ <;> rintro rfl
  · exact b (by decide)
  · exact a (by decide)

/-- What a round of the outer loop keeps. -/
def SDRel (s : ByteArray) (g : Nat) (v t : Value) : Prop :=
  ∃ (cur text : ByteArray) (ls : List (List UInt8)), v = .string cur ∧ t = .string text ∧ Lns ls ∧ lst s = crlfs ls ++ lst cur ∧ lst text = lfs (ls.map unstuff) ∧ cur.size ≤ g ∧ text.size + cur.size ≤ s.size

theorem lst_append (a b : ByteArray) : lst (a ++ b) = lst a ++ lst b := by unfold lst; rw [ByteArray.data_append, Array.toList_append]
theorem str_is {l : ByteArray} {x : List UInt8} (h : lst l = x) : (l.toList == x) = true := by
  have e : l.toList = lst l := ByteArray.toList_eq l
  rw [e, h]; simp
theorem str_not {l : ByteArray} {x : List UInt8} (h : lst l ≠ x) : (l.toList == x) = false := by
  have e : l.toList = lst l := ByteArray.toList_eq l
  rw [e]; simpa using h

section
variable {s cur text l l' : ByteArray} {ls : List (List UInt8)} {j g : Nat}
theorem cur_split (hl : lst l = (lst cur).take j) (h1 : j + 1 < cur.size) (h13 : cur[j] = 13) (h10 : cur[j + 1] = 10) : lst cur = lst l ++ 13 :: 10 :: lst (cur.extract (j + 2) cur.size) := by
  have e1 := lst_extract cur (j + 2) cur.size
  rw [List.take_of_length_le (by rw [List.length_drop, lst_length]; exact Nat.le_refl _)] at e1
  have e2 : lst cur = (lst cur).take j ++ (lst cur).drop j := (List.take_append_drop _ _).symm
  rw [e1, hl]
  conv => lhs; rw [e2]
  rw [drop_cons cur j (by omega), drop_cons cur (j + 1) h1, h13, h10]
theorem sd_next (H : Lns ls ∧ lst s = crlfs ls ++ lst cur ∧ lst text = lfs (ls.map unstuff) ∧ cur.size ≤ g ∧ text.size + cur.size ≤ s.size) (hl : lst l = (lst cur).take j) (h1 : j + 1 < cur.size) (h13 : cur[j] = 13) (h10 : cur[j + 1] = 10)
    (hc : Clean (lst l)) (hd : lst l ≠ [46]) (hu : lst l' = unstuff (lst l)) : SDRel s (g - 1) (.string (cur.extract (j + 2) cur.size)) (.string (text ++ (l' ++ ⟨#[10]⟩))) ∧ 1 ≤ g := by
  obtain ⟨a1, a2, a3, a4, a5⟩ := H
  have hs := cur_split hl h1 h13 h10
  have hn : cur.size = l.size + 2 + (cur.extract (j + 2) cur.size).size := by
    have := congrArg List.length hs
    simp [lst_length] at this
    simp
    omega
  have e10 : lst (⟨#[10]⟩ : ByteArray) = [10] := rfl
  have hul : l'.size ≤ l.size := by
    rw [← lst_length l', hu, ← lst_length l]
    cases lst l with
    | nil => exact Nat.le_refl _
    | cons c cs =>
      show (if c = 46 then cs else c :: cs).length ≤ _
      split <;> simp
  refine ⟨⟨_, _, ls ++ [lst l], rfl, rfl, a1.snoc hc hd, ?_, ?_, by omega, ?_⟩, by omega⟩
  · rw [a2, hs, crlfs_append]; simp [crlfs]
  · rw [lst_append, lst_append, a3, hu, e10, List.map_append, lfs_append]; simp [lfs]
  · have e1 : (text ++ (l' ++ ⟨#[10]⟩) : ByteArray).size = text.size + (l'.size + 1) := by
      rw [← lst_length, lst_append, lst_append, e10, List.length_append, List.length_append, lst_length, lst_length]; rfl
    rw [e1]; omega
theorem sd_good (H : Lns ls ∧ lst s = crlfs ls ++ lst cur ∧ lst text = lfs (ls.map unstuff) ∧ cur.size ≤ g ∧ text.size + cur.size ≤ s.size) (hl : lst l = (lst cur).take j) (h1 : j + 1 < cur.size) (h13 : cur[j] = 13) (h10 : cur[j + 1] = 10)
    (hd : lst l = [46]) {w W : World} {n : Nat} (hW : w.drewN n = W) : SDPost s w (.returned (.tuple #[.string text, .string (cur.extract (j + 2) cur.size), .int .i64 0])) W := by
  obtain ⟨a1, a2, a3, a4, a5⟩ := H
  refine ⟨⟨n, hW.symm⟩, _, _, _, rfl, by omega, .inl ⟨rfl, ls, a1, ?_, a3⟩⟩
  rw [a2, cur_split hl h1 h13 h10, hd]; rfl
end

set_option maxRecDepth 100000 in
set_option maxHeartbeats 4000000 in
theorem specDots_any (s : ByteArray) (w : World) (hs : s.size ≤ 4294967296) : Calls Tryd.prog 28 #[.string s] w (SDPost s w) := by
  go_enter Tryd.func28, Tryd.ntmps28
  go_wp2_with fail
  go_loopg [0, 2] s.size (fun g v t wr => SDRel s g v t ∧ ∃ n, wr = w.drewN n)
  case atStart => exact ⟨⟨s, _, [], rfl, rfl, (fun x hx => by simp at hx), rfl, rfl, Nat.le_refl _, by show 0 + _ ≤ _; omega⟩, 0, rfl⟩
  case round =>
    obtain ⟨⟨cur, text, ls, rfl, rfl, hls, hcur, htext, hg, hsz⟩, n, rfl⟩ := hrel
    generalize hW : w.drewN n = W
    have HW := Lib.hid hW
    clear hW
    have HI := Lib.hid (⟨hls, hcur, htext, hg, hsz⟩ : Lns ls ∧ lst s = crlfs ls ++ lst cur ∧ lst text = lfs (ls.map unstuff) ∧ cur.size ≤ gk ∧ text.size + cur.size ≤ s.size)
    have hcs : cur.size ≤ 4294967296 := by omega
    have hts0 : text.size + cur.size ≤ 4294967296 := by omega
    clear hls hcur htext hg hsz
    obtain ⟨go, hgo⟩ : ∃ go, go = gk := ⟨_, rfl⟩
    have HGO := Lib.hid hgo
    rw [← hgo] at HI
    clear hgo
    go_wp2_with fail
    go_loopg [5] cur.size (fun g v wr => ∃ j : Nat, v = .int .i64 (j : Int) ∧ wr = W ∧ j ≤ cur.size ∧ cur.size - j ≤ g)
    case atStart => exact ⟨0, rfl, rfl, Nat.zero_le _, Nat.le_refl _⟩
    case round =>
      obtain ⟨j, rfl, rfl, hj, hg⟩ := hrel
      have HO : Hid (SDPost s w (.returned (.tuple #[.string ⟨#[]⟩, .string ⟨#[]⟩, .int .i64 2])) wr) := ⟨⟨n, HW.out.symm⟩, _, _, _, rfl, Nat.zero_le _, .inr (.inr rfl)⟩
      by_cases h1 : j + 1 < cur.size
      · have b0 : (j : Int) + 1 < (cur.size : Int) := by omega
        have b1 : j < cur.size := by omega
        have b2 : (j : Int) < (cur.size : Int) := by omega
        have b3 : ¬ (cur.size : Int) ≤ (j : Int) + 1 := by omega
        have e1 : IntKind.i64.wrap ((j : Int) + 1) = (j : Int) + 1 := IntWalk.i64_in _ (by omega)
        have e2 : ((j : Int) + 1).toNat = j + 1 := by omega
        by_cases h13 : cur[j] = 13
        · have t13 : ((cur[j].toNat : Int) == 13) = true := u8_is (c := 13) h13
          have t13' : ((cur[j].toNat : Int) != 13) = false := by simp [bne, t13]
          by_cases h10 : cur[j + 1] = 10
          · have t10 : ((cur[j + 1].toNat : Int) == 10) = true := u8_is (c := 10) h10
            have t10' : ((cur[j + 1].toNat : Int) != 10) = false := by simp [bne, t10]
            have HC : Hid (cur[j] = 13 ∧ cur[j + 1] = 10) := ⟨h13, h10⟩
            clear h13 h10
            go_wp2_with fail
            generalize hl : cur.extract 0 j = l
            have hll : lst l = (lst cur).take j := by rw [← hl, lst_extract, List.drop_zero, Nat.sub_zero]
            have hls : l.size ≤ j := by rw [← lst_length, hll, List.length_take]; omega
            have HL := Lib.hid hll
            clear hl hll
            have LH := fun c => shas_any l c wr (by omega)
            have z1 : ¬ 9223372036854775807 < text.size + (l.size + 1) := by omega
            have z2 : ¬ 9223372036854775807 < text.size + (l.size - 1 + 1) := by omega
            cases hA : hasB (lst l) 10
            · cases hB : hasB (lst l) 13
              · have HCl := Lib.hid (clean_of_has hA hB)
                by_cases hd : lst l = [46]
                · have t46 := str_is hd
                  have HF := Lib.hid (sd_good HI.out HL.out h1 HC.out.1 HC.out.2 hd HW.out)
                  clear hd
                  go_wp2_with (go_at_call 52; (with_reducible refine (LH _).mono ?_); rintro e w' ⟨rfl, rfl⟩)
                  go_ret3
                  exact HF.out
                · have t46 := str_not hd
                  have hsz := lst_length l
                  cases hll : lst l with
                  | nil =>
                    rw [hll] at hsz
                    have b4 : ¬ 0 < l.size := by simp at hsz; omega
                    have HF := Lib.hid (sd_next HI.out HL.out h1 HC.out.1 HC.out.2 HCl.out hd (l' := l) (by rw [hll]; rfl))
                    clear hd hsz hll
                    go_wp2_with (go_at_call 52; (with_reducible refine (LH _).mono ?_); rintro e w' ⟨rfl, rfl⟩)
                    go_roundg (go - 1)
                    case rel => exact ⟨HF.out.1, n, HW.out.symm⟩
                    case measure => have := HF.out.2; have := HGO.out; omega
                  | cons c cs =>
                    rw [hll] at hsz
                    have b4 : 0 < l.size := by simp at hsz; omega
                    have hc0 : l[0] = c := by
                      have h3 := lst_get l 0 b4
                      rw [hll] at h3
                      exact (Option.some.inj h3).symm
                    by_cases h46 : c = 46
                    · have t2 : ((l[0].toNat : Int) == 46) = true := u8_is (c := 46) (hc0.trans h46)
                      have HF := Lib.hid (sd_next HI.out HL.out h1 HC.out.1 HC.out.2 HCl.out hd (l' := l.extract 1 l.size) (by
                        rw [lst_extract, List.take_of_length_le (by rw [List.length_drop, lst_length]; exact Nat.le_refl _), hll]
                        simp [unstuff, h46]))
                      clear hd hsz hll hc0 h46
                      go_wp2_with (go_at_call 52; (with_reducible refine (LH _).mono ?_); rintro e w' ⟨rfl, rfl⟩)
                      go_roundg (go - 1)
                      case rel => exact ⟨HF.out.1, n, HW.out.symm⟩
                      case measure => have := HF.out.2; have := HGO.out; omega
                    · have t2 : ((l[0].toNat : Int) == 46) = false := u8_not (c := 46) (by rw [hc0]; exact h46)
                      have HF := Lib.hid (sd_next HI.out HL.out h1 HC.out.1 HC.out.2 HCl.out hd (l' := l) (by rw [hll]; simp [unstuff, h46]))
                      clear hd hsz hll hc0 h46
                      go_wp2_with (go_at_call 52; (with_reducible refine (LH _).mono ?_); rintro e w' ⟨rfl, rfl⟩)
                      go_roundg (go - 1)
                      case rel => exact ⟨HF.out.1, n, HW.out.symm⟩
                      case measure => have := HF.out.2; have := HGO.out; omega
              · go_wp2_with (go_at_call 52; (with_reducible refine (LH _).mono ?_); rintro e w' ⟨rfl, rfl⟩)
                go_ret3
                exact HO.out
            · go_wp2_with (go_at_call 52; (with_reducible refine (LH _).mono ?_); rintro e w' ⟨rfl, rfl⟩)
              go_ret3
              exact HO.out
          · have t10 : ((cur[j + 1].toNat : Int) == 10) = false := u8_not (c := 10) h10
            have t10' : ((cur[j + 1].toNat : Int) != 10) = true := by simp [bne, t10]
            clear h10 h13
            go_wp2_with fail
            go_roundg (gk - 1)
            case rel => exact ⟨j + 1, by go_num, rfl, by omega, by omega⟩
            case measure => omega
        · have t13 : ((cur[j].toNat : Int) == 13) = false := u8_not (c := 13) h13
          have t13' : ((cur[j].toNat : Int) != 13) = true := by simp [bne, t13]
          clear h13
          go_wp2_with fail
          go_roundg (gk - 1)
          case rel => exact ⟨j + 1, by go_num, rfl, by omega, by omega⟩
          case measure => omega
      · have b0 : ¬ (j : Int) + 1 < (cur.size : Int) := by omega
        have b3 : (cur.size : Int) ≤ (j : Int) + 1 := by omega
        have SH := fun c => shas_any cur c wr (by omega)
        cases hA : hasB (lst cur) 10
        · cases hB : hasB (lst cur) 13
          · have HF : Hid (SDPost s w (.returned (.tuple #[.string ⟨#[]⟩, .string ⟨#[]⟩, .int .i64 1])) wr) := ⟨⟨n, HW.out.symm⟩, _, _, _, rfl, Nat.zero_le _, .inr (.inl ⟨rfl, ls, lst cur, HI.out.1, clean_of_has hA hB, HI.out.2.1⟩)⟩
            go_wp2_with (go_at_call 52; (with_reducible refine (SH _).mono ?_); rintro e w' ⟨rfl, rfl⟩)
            go_ret3
            exact HF.out
          · go_wp2_with (go_at_call 52; (with_reducible refine (SH _).mono ?_); rintro e w' ⟨rfl, rfl⟩)
            go_ret3
            exact HO.out
        · go_wp2_with (go_at_call 52; (with_reducible refine (SH _).mono ?_); rintro e w' ⟨rfl, rfl⟩)
          go_ret3
          exact HO.out
end Go.Proofs.YthobojpbdeepoaaDoor
