/-
  The contracts of validHeaderFieldByte and validHeaderValueByte: which bytes a key and a value may have.
-/
import Derived.Test.YthobojpbdeepoaaDoorChecked
import Derived.Test.YthobojpbdeepoaaDoorBase
namespace Go.Proofs.YthobojpbdeepoaaDoor
open Go.RowKit

/-- A byte that a key may have: a letter, a digit, a sign of a token. -/
def keyB (c : Int) : Bool := (decide (48 ≤ c) && decide (c ≤ 57)) || (decide (97 ≤ c) && decide (c ≤ 122)) || (decide (65 ≤ c) && decide (c ≤ 90)) || hasB (lst ⟨#[33, 35, 36, 37, 38, 39, 42, 43, 45, 46, 94, 95, 96, 124, 126]⟩) c
/-- A byte that a value may have. -/
def valB (c : Int) : Bool := c == 9 || (decide (32 ≤ c) && c != 127)

theorem field_bits : ∀ n : Fin 256, (bits BinOp.or IntKind.u64 (bits BinOp.and IntKind.u64 (IntKind.u64.wrap (2 ^ min ((n.val : Nat) : Int).toNat 64)) 288068722172624896)
    (bits BinOp.and IntKind.u64 (IntKind.u64.wrap (2 ^ min ((((n.val : Nat) : Int) - 64) % 256).toNat 64)) 6341068274398134270) != 0) = keyB ((n.val : Nat) : Int) := by decide +kernel
theorem value_bits : ∀ n : Fin 256, (bits BinOp.or IntKind.u64 (bits BinOp.andNot IntKind.u64 (IntKind.u64.wrap (2 ^ min ((n.val : Nat) : Int).toNat 64)) 18446744069414584832)
    (bits BinOp.andNot IntKind.u64 (IntKind.u64.wrap (2 ^ min ((((n.val : Nat) : Int) - 64) % 256).toNat 64)) 9223372036854775807) == 0) = valB ((n.val : Nat) : Int) := by decide +kernel

theorem vfield_any (c : Int) (w : World) (h0 : 0 ≤ c) (h1 : c ≤ 255) :
    Calls Tryd.prog 118 #[.int .u8 c] w fun e w' => e = .returned (.bool (keyB c)) ∧ w = w' := by
  have h2 : 0 ≤ (c - 64) % 256 := by omega
  go_enter Tryd.func118, Tryd.ntmps118
  go_wp2
  go_ret
  refine ⟨?_, rfl⟩
  obtain ⟨n, rfl⟩ := Int.eq_ofNat_of_zero_le h0
  exact ret_bool (field_bits ⟨n, by omega⟩)
theorem vvalue_any (c : Int) (w : World) (h0 : 0 ≤ c) (h1 : c ≤ 255) :
    Calls Tryd.prog 106 #[.int .u8 c] w fun e w' => e = .returned (.bool (valB c)) ∧ w = w' := by
  have h2 : 0 ≤ (c - 64) % 256 := by omega
  go_enter Tryd.func106, Tryd.ntmps106
  go_wp2
  go_ret
  refine ⟨?_, rfl⟩
  obtain ⟨n, rfl⟩ := Int.eq_ofNat_of_zero_le h0
  exact ret_bool (value_bits ⟨n, by omega⟩)
end Go.Proofs.YthobojpbdeepoaaDoor
