/-
  Sentinel errors in memory.
-/
import Derived.Test.YthobojpbdeepoaaDoorTurn
namespace Go.Proofs.YthobojpbdeepoaaDoor
open Go.RowKit

/-- The sentinel error of package-level variable g lies at a; both below K. -/
structure Sent (w : World) (K g : Nat) (a : Addr) : Prop where
  glob : g < K
  below : a.block < K
  cell : w.cell? ⟨g, 0, none⟩ = some (.iface 182 (.pointer (some a)))
  row : ∃ cs t, w.heap[a.block]? = some (.cells cs t (0, 0))
theorem Sent.keep {w w' : World} {K g : Nat} {a : Addr} (h : Sent w K g a) (hb : Below K w w') : Sent w' K g a :=
  ⟨h.glob, h.below, (hb.cell h.glob).trans h.cell, by obtain ⟨cs, t, hr⟩ := h.row; exact ⟨cs, t, (hb.block _ h.below).trans hr⟩⟩

/-- The error value of a sentinel. -/
abbrev errAt (a : Addr) : Value := .iface 182 (.pointer (some a))

theorem errPtr_info : ∃ i j, Tryd.prog.info? 182 = some i ∧ i.comparable = true ∧ Tryd.prog.info? 184 = some j ∧ j.size ≠ 0 := by
  have h1 : (Tryd.prog.info? 182).map (·.comparable) = some true := by kernel_rfl
  have h2 : (Tryd.prog.info? 184).map (·.size) = some 1 := by kernel_rfl
  obtain ⟨i, hi, hc⟩ := Option.map_eq_some_iff.1 h1
  obtain ⟨j, hj, hs⟩ := Option.map_eq_some_iff.1 h2
  exact ⟨i, j, hi, hc, hj, by rw [hs]; decide⟩

theorem err_same (w : World) (a : Addr) : (binOp .eql 74 (errAt a) (errAt a)).run Tryd.prog w = .ok (.bool true) w := by
  obtain ⟨i, j, hi, hc, hj, _⟩ := errPtr_info
  exact run_eql_iface_ptr_same w a Tryd.underlying74 Tryd.underlying182 hi hc hj
theorem err_other {w : World} {K g g' : Nat} {a b : Addr} (ha : Sent w K g a) (hb : Sent w K g' b) (hne : a ≠ b) : (binOp .eql 74 (errAt a) (errAt b)).run Tryd.prog w = .ok (.bool false) w := by
  obtain ⟨i, j, hi, hc, hj, hs⟩ := errPtr_info
  obtain ⟨ca, ta, hra⟩ := ha.row
  obtain ⟨cb, tb, hrb⟩ := hb.row
  exact run_eql_iface_ptr_other w Tryd.underlying74 Tryd.underlying182 hi hc hj hs hne hra hrb
end Go.Proofs.YthobojpbdeepoaaDoor
