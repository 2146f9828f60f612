/-
  A slice of byte slices that came in; laws.zzFits1 and laws.joined.
-/
import Derived.Test.YthobojpbdeepoaaDoorMakeWriter
import Derived.Test.YthobojpbdeepoaaDoorDotTail
namespace Go.Proofs.YthobojpbdeepoaaDoor
open Go.RowKit

theorem DataAt.keep {w w' : World} {p : Option Addr} {l : List UInt8} (h : DataAt w p l) (hT : Turned [] w w') : DataAt w' p l := by
  rcases h with h | ⟨b, off, h1, h2, h3⟩
  · exact .inl h
  · exact .inr ⟨b, off, h1, Nat.lt_of_lt_of_le h2 hT.size, h3.of_block (hT.block b h2 (by simp))⟩
/-- The parts xs lie in a slice of slices. -/
def PartsAt (w : World) (pa : Option Addr) (xs : List (List UInt8)) : Prop :=
  ∀ i x, xs[i]? = some x → ∃ b off p cap, pa = some ⟨b, off, none⟩ ∧ b < w.heap.size ∧ w.cell? ⟨b, off + i, none⟩ = some (.slice p x.length cap) ∧ DataAt w p x
theorem PartsAt.keep {w w' : World} {pa : Option Addr} {xs : List (List UInt8)} (h : PartsAt w pa xs) (hT : Turned [] w w') : PartsAt w' pa xs := fun i x hx => by
  obtain ⟨b, off, p, cap, h1, h2, h3, h4⟩ := h i x hx
  exact ⟨b, off, p, cap, h1, Nat.lt_of_lt_of_le h2 hT.size, (hT.cell h2 (by simp)).trans h3, h4.keep hT⟩
theorem take_add_of {α : Type} {xs : List α} {m : Nat} {x : α} (h : xs[m]? = some x) : xs.take (m + 1) = xs.take m ++ [x] := by
  rw [List.take_add_one, h]; rfl

set_option maxRecDepth 100000 in
set_option maxHeartbeats 2000000 in
theorem fits_any (pa : Option Addr) (xs : List (List UInt8)) (cap : Nat) (w : World) (h : PartsAt w pa xs) :
    Calls Tryd.prog 24 #[.slice pa xs.length cap] w fun e w' => w = w' ∧ ∃ b, e = .returned (.bool b) ∧ (b = true → xs.length ≤ 2147483647 ∧ ∀ x, x ∈ xs → x.length ≤ 2147483647) := by
  by_cases hn : 2147483647 < xs.length
  · have b1 : (2147483647 : Int) < (xs.length : Int) := by omega
    clear h
    go_enter Tryd.func24, Tryd.ntmps24
    go_wp2_with fail
    go_ret
    exact ⟨rfl, false, rfl, fun h => by cases h⟩
  have b1 : ¬ (2147483647 : Int) < (xs.length : Int) := by omega
  have HP := Lib.hid h
  have HN : Hid (xs.length ≤ 2147483647) := by show _ ≤ _; omega
  clear h hn
  go_enter Tryd.func24, Tryd.ntmps24
  go_wp2_with fail
  go_loopg [10] xs.length (fun g i wr => ∃ m : Nat, i = .int .i64 (m : Int) ∧ m ≤ xs.length ∧ wr = w ∧ (∀ x, x ∈ xs.take m → x.length ≤ 2147483647) ∧ xs.length - m ≤ g)
  case atStart => exact ⟨0, rfl, Nat.zero_le _, rfl, (fun x hx => by simp at hx), Nat.le_refl _⟩
  case round =>
    obtain ⟨m, rfl, hm, rfl, hx, hg⟩ := hrel
    have HX := Lib.hid hx
    by_cases hlt : m < xs.length
    · obtain ⟨x, hc⟩ : ∃ x, xs[m]? = some x := ⟨_, List.getElem?_eq_getElem hlt⟩
      obtain ⟨b, off, p, c, rfl, _, cc, _⟩ := HP.out m x hc
      have d0 : (m : Int) < (xs.length : Int) := by omega
      have d1 : (0 : Int) ≤ (m : Int) := by omega
      have e1 : IntKind.i64.wrap ((m : Int) + 1) = (m : Int) + 1 := IntWalk.i64_in _ (by have := HN.out; omega)
      have HT := Lib.hid (take_add_of hc)
      have HG : Hid (xs.length - (m + 1) ≤ gk - 1 ∧ 0 < gk ∧ m + 1 ≤ xs.length) := ⟨by omega, by omega, by omega⟩
      by_cases hl : 2147483647 < x.length
      · have b2 : (2147483647 : Int) < (x.length : Int) := by omega
        clear hx hc
        go_wp2_with fail
        go_ret
        exact ⟨rfl, false, rfl, fun h => by cases h⟩
      · have b2 : ¬ (2147483647 : Int) < (x.length : Int) := by omega
        have HL : Hid (x.length ≤ 2147483647) := by show _ ≤ _; omega
        clear hx hc hl
        go_wp2_with fail
        go_roundg (gk - 1)
        case rel =>
          refine ⟨m + 1, rfl, HG.out.2.2, rfl, ?_, HG.out.1⟩
          rw [HT.out]
          intro y hy
          rcases List.mem_append.1 hy with hy | hy
          · exact HX.out y hy
          · rw [List.mem_singleton.1 hy]; exact HL.out
        case measure => have := HG.out; omega
    · have d0 : ¬ (m : Int) < (xs.length : Int) := by omega
      have HF : Hid (∀ x, x ∈ xs → x.length ≤ 2147483647) := by
        have h1 := HX.out
        rw [List.take_of_length_le (by omega)] at h1
        exact h1
      clear hx
      go_wp2_with fail
      go_ret
      exact ⟨rfl, .inr ⟨rfl, HN.out, HF.out⟩⟩

theorem flat_len (xs : List (List UInt8)) (k : Nat) (h : ∀ x, x ∈ xs → x.length ≤ k) : xs.flatten.length ≤ xs.length * k := by
  induction xs with
  | nil => simp
  | cons x xs ih =>
    have h1 := ih (fun y hy => h y (List.mem_cons_of_mem _ hy))
    have h2 := h x List.mem_cons_self
    rw [List.flatten_cons, List.length_append, List.length_cons, Nat.succ_mul]
    omega

set_option maxRecDepth 100000 in
set_option maxHeartbeats 2000000 in
theorem joined_any (pa : Option Addr) (xs : List (List UInt8)) (cap : Nat) (w : World) (h : PartsAt w pa xs) (hn : xs.length ≤ 2147483647) (hx : ∀ x, x ∈ xs → x.length ≤ 2147483647) :
    Calls Tryd.prog 25 #[.slice pa xs.length cap] w fun e w' => ∃ s : ByteArray, e = .returned (.string s) ∧ lst s = xs.flatten ∧ ∃ q, w' = w.drewN q := by
  have HP := Lib.hid h
  have HN := Lib.hid hn
  have HX := Lib.hid hx
  clear h hn hx
  go_enter Tryd.func25, Tryd.ntmps25
  go_wp2_with fail
  go_loopg [3, 8] xs.length (fun g o i wr => ∃ m : Nat, ∃ s : ByteArray, i = .int .i64 (m : Int) ∧ o = .string s ∧ lst s = (xs.take m).flatten ∧ m ≤ xs.length ∧ (∃ q, wr = w.drewN q) ∧ xs.length - m ≤ g)
  case atStart => exact ⟨0, ByteArray.empty, rfl, rfl, rfl, Nat.zero_le _, ⟨0, rfl⟩, Nat.le_refl _⟩
  case round =>
    obtain ⟨m, s, rfl, rfl, hs, hm, ⟨q, rfl⟩, hg⟩ := hrel
    by_cases hlt : m < xs.length
    · obtain ⟨x, hc⟩ : ∃ x, xs[m]? = some x := ⟨_, List.getElem?_eq_getElem hlt⟩
      obtain ⟨b, off, p, c, rfl, _, cc, hd⟩ := HP.out m x hc
      have d0 : (m : Int) < (xs.length : Int) := by omega
      have d1 : (0 : Int) ≤ (m : Int) := by omega
      have e1 : IntKind.i64.wrap ((m : Int) + 1) = (m : Int) + 1 := IntWalk.i64_in _ (by have := HN.out; omega)
      have HT : Hid (lst (s ++ ⟨x.toArray⟩) = (xs.take (m + 1)).flatten) := by
        show _ = _
        rw [take_add_of hc, List.flatten_append, ← hs]
        simp [lst]
      have HG : Hid (xs.length - (m + 1) ≤ gk - 1 ∧ 0 < gk ∧ m + 1 ≤ xs.length) := ⟨by omega, by omega, by omega⟩
      have cc2 : (w.drewN q).cell? ⟨b, off + m, none⟩ = some (.slice p x.length c) := cc
      have b3 : ¬ 9223372036854775807 < s.size + x.length := by
        have h1 := HX.out x (List.mem_of_getElem? hc)
        have h2 := flat_len (xs.take m) 2147483647 (fun y hy => HX.out y (List.mem_of_mem_take hy))
        have h3 : (xs.take m).length = m := by rw [List.length_take]; omega
        have h4 := HN.out
        rw [← hs, lst_length, h3] at h2
        have h5 : m * 2147483647 ≤ 2147483647 * 2147483647 := Nat.mul_le_mul (by omega) (Nat.le_refl _)
        omega
      have b4 : (⟨x.toArray⟩ : ByteArray).size = x.length := size_mk x
      have cv := fun n => string_of_rowP (hd.drewN n).rowP c
      clear hs hc hd cc
      go_wp2_with fail
      go_roundg (gk - 1)
      case rel => exact ⟨m + 1, _, rfl, rfl, HT.out, HG.out.2.2, ⟨_, rfl⟩, HG.out.1⟩
      case measure => have := HG.out; omega
    · have d0 : ¬ (m : Int) < (xs.length : Int) := by omega
      have HF : Hid (lst s = xs.flatten) := by
        show _ = _
        rw [hs, List.take_of_length_le (by omega)]
      clear hs
      go_wp2_with fail
      go_ret
      exact ⟨s, rfl, HF.out, q, rfl⟩
end Go.Proofs.YthobojpbdeepoaaDoor
