/-
  Small lemmas on lists of bytes and on strings, used by all walks of this seat. No program in sight.
-/
import Derived.WalkKit
import Derived.Lib.Strings
import Derived.Lib.Hide
import Derived.Deep.QuietTactic
import Derived.BigQuiet
namespace Go.Proofs.YthobojpbdeepoaaDoor
open Go.RowKit

theorem ret_int {k : IntKind} {a b : Int} (h : a = b) : Ending.returned (.int k a) = .returned (.int k b) := by rw [h]
theorem ret_bool {a b : Bool} (h : a = b) : Ending.returned (.bool a) = .returned (.bool b) := by rw [h]
theorem ret_str {a b : ByteArray} (h : a = b) : Ending.returned (.string a) = .returned (.string b) := by rw [h]

/-- The bytes of a string. -/
def lst (s : ByteArray) : List UInt8 := s.data.toList
theorem lst_length (s : ByteArray) : (lst s).length = s.size := by unfold lst; exact (Lib.size_eq s).symm
theorem lst_mk (l : List UInt8) : lst ⟨l.toArray⟩ = l := rfl
theorem mk_lst (s : ByteArray) : (⟨(lst s).toArray⟩ : ByteArray) = s := Lib.mk_data s
theorem lst_inj {a b : ByteArray} (h : lst a = lst b) : a = b := by rw [← mk_lst a, ← mk_lst b, h]
theorem take_snoc (s : ByteArray) (k : Nat) (h : k < s.size) : (lst s).take (k + 1) = (lst s).take k ++ [s[k]] := by
  unfold lst
  rw [List.take_succ_eq_append_getElem (by simpa using h)]; rfl
theorem lst_get (s : ByteArray) (k : Nat) (h : k < s.size) : (lst s)[k]? = some s[k] := by
  unfold lst
  rw [List.getElem?_eq_getElem (by simpa using h)]; rfl
theorem drop_cons (s : ByteArray) (k : Nat) (h : k < s.size) : (lst s).drop k = s[k] :: (lst s).drop (k + 1) := by
  unfold lst
  rw [List.drop_eq_getElem_cons (by simpa using h)]; rfl
theorem lst_extract (s : ByteArray) (a b : Nat) : lst (s.extract a b) = ((lst s).drop a).take (b - a) := Lib.extract_data s a b

theorem u8_le (c : UInt8) : (c.toNat : Int) ≤ 255 := by have := c.toNat_lt; omega

/-- The list holds a byte of this number. -/
def hasB (l : List UInt8) (c : Int) : Bool := l.any fun b => ((b.toNat : Int) == c)
theorem hasB_nil (c : Int) : hasB [] c = false := rfl
theorem hasB_append (a b : List UInt8) (c : Int) : hasB (a ++ b) c = (hasB a c || hasB b c) := by unfold hasB; rw [List.any_append]
theorem hasB_one (b : UInt8) (c : Int) : hasB [b] c = ((b.toNat : Int) == c) := by unfold hasB; simp
theorem hasB_hit {s : ByteArray} {k : Nat} {c : Int} (h : k < s.size) (hc : ((s[k].toNat : Int) == c) = true) : hasB (lst s) c = true := by
  have h1 : lst s = (lst s).take (k + 1) ++ (lst s).drop (k + 1) := (List.take_append_drop _ _).symm
  rw [h1, hasB_append, take_snoc s k h, hasB_append, hasB_one, hc]
  simp
theorem hasB_step {s : ByteArray} {k : Nat} {c : Int} (h : k < s.size) (h0 : hasB ((lst s).take k) c = false) (hc : ((s[k].toNat : Int) == c) = false) : hasB ((lst s).take (k + 1)) c = false := by
  rw [take_snoc s k h, hasB_append, hasB_one, h0, hc]; rfl

/-- A contract that leaves the world alone, at a call inside a region that draws its order. -/
theorem quiet_left {P : Program} {f : FuncId} {args : Array Value} {w : World} {n : Nat} {v : Value}
    (h : Calls P f args (w.drewN n) fun e w' => e = .returned v ∧ w.drewN n = w') : Calls P f args (w.drewN n) fun e w'' => e = .returned v ∧ ∃ m, w'' = w.drewN m :=
  h.mono fun _ _ ⟨he, hm⟩ => ⟨he, n, hm.symm⟩

theorem below_drewN {B : Nat} {a w : World} (h : Below B a w) (n : Nat) : Below B a (w.drewN n) := ⟨h.os, h.tape, h.output, h.size, h.block⟩

end Go.Proofs.YthobojpbdeepoaaDoor
