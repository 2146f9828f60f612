/-
  Small lemmas on bytes and strings.
-/
import Derived.Test.YtdhdcgliefjonaaDoorFrame
import Derived.Test.YtdhdcgliefjonaaDoorMem8
import Derived.Deep.LoopGhost
import Derived.Deep.RegionHeld3
namespace Go.Proofs.YtdhdcgliefjonaaDoor
open Go.RowKit

theorem u8_eq {u : UInt8} {c : UInt8} : (((u.toNat : Int)) == (c.toNat : Int)) = decide (u = c) := by
  by_cases h : u = c
  · subst h; simp
  · rw [decide_eq_false h]
    have : (u.toNat : Int) ≠ (c.toNat : Int) := fun e => h (UInt8.toNat_inj.1 (Int.ofNat.inj e))
    simpa using this
theorem size_mk (l : List UInt8) : (⟨l.toArray⟩ : ByteArray).size = l.length := by show l.toArray.size = _; simp
theorem u8_info : (Tryd.prog.info? 5).map (fun i => (i.zero, i.size, i.bytes)) = some (some (.int .u8 0), 1, 1) := by kernel_rfl
theorem str_take (s : ByteArray) (k : Nat) : s.extract 0 k = ⟨((lst s).take k).toArray⟩ := lst_inj (by rw [lst_extract, List.drop_zero, Nat.sub_zero]; rfl)
theorem str_drop (s : ByteArray) (k : Nat) : s.extract k s.size = ⟨((lst s).drop k).toArray⟩ := lst_inj (by
  rw [lst_extract, List.take_of_length_le (by rw [List.length_drop, lst_length]; exact Nat.le_refl _)]
  rfl)
theorem u8_is {u : UInt8} {c : UInt8} (h : u = c) : ((u.toNat : Int) == (c.toNat : Int)) = true := by rw [u8_eq, decide_eq_true h]
theorem u8_not {u : UInt8} {c : UInt8} (h : u ≠ c) : ((u.toNat : Int) == (c.toNat : Int)) = false := by rw [u8_eq, decide_eq_false h]

end Go.Proofs.YtdhdcgliefjonaaDoor
