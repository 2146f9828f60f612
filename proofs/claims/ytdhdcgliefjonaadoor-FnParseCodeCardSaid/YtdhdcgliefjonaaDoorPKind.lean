/-
  impl's kind at every error; what a line is parsed to.
-/
import Derived.Test.YtdhdcgliefjonaaDoorPCode
import Derived.Stop.Asserts
namespace Go.Proofs.YtdhdcgliefjonaaDoor
open Go.RowKit

/-- Sentinels, without the full buffer's. -/
structure EndsC (w : World) (K : Nat) (ae ue : Addr) : Prop where
  eof : Sent w K 0 ae
  cut : Sent w K 1 ue
  ne : ae ≠ ue
theorem EndsC.keep {w w' : World} {K : Nat} {ae ue : Addr} (h : EndsC w K ae ue) (hb : Below K w w') : EndsC w' K ae ue := ⟨h.eof.keep hb, h.cut.keep hb, h.ne⟩
theorem EndsC.drewN {w : World} {K : Nat} {ae ue : Addr} (h : EndsC w K ae ue) (n : Nat) : EndsC (w.drewN n) K ae ue := ⟨⟨h.eof.glob, h.eof.below, h.eof.cell, h.eof.row⟩, ⟨h.cut.glob, h.cut.below, h.cut.cell, h.cut.row⟩, h.ne⟩

theorem kind_cut {K : Nat} {ae ue : Addr} (w : World) (h : EndsC w K ae ue) : Calls Tryd.prog 8 #[errAt ue] w fun e w' => e = .returned (.int .i64 2) ∧ w = w' := by
  have q1 := err_other h.cut h.eof (fun e => h.ne e.symm)
  have q2 := err_same w ue
  have q4 : (binOp .eql 28 (errAt ue) .nilIface).run Tryd.prog w = .ok (.bool false) w := by simp [go_sem]
  have c := h.eof.cell
  have c2 := h.cut.cell
  go_enter Tryd.func8, Tryd.ntmps8
  go_wp2_with fail
  go_ret
  exact ⟨rfl, rfl⟩

theorem kind_nil (w : World) : Calls Tryd.prog 8 #[.nilIface] w fun e w' => e = .returned (.int .i64 0) ∧ w = w' := by
  go_enter Tryd.func8, Tryd.ntmps8
  go_wp2_with fail
  go_ret
  exact ⟨rfl, rfl⟩
theorem kind_eof {K : Nat} {ae : Addr} (w : World) (h : Sent w K 0 ae) : Calls Tryd.prog 8 #[errAt ae] w fun e w' => e = .returned (.int .i64 1) ∧ w = w' := by
  have q2 := err_same w ae
  have q4 : (binOp .eql 28 (errAt ae) .nilIface).run Tryd.prog w = .ok (.bool false) w := by simp [go_sem]
  have c := h.cell
  go_enter Tryd.func8, Tryd.ntmps8
  go_wp2_with fail
  go_ret
  exact ⟨rfl, rfl⟩

/-- The errors of a reader, and their kinds. -/
def ErrK (ae ue : Addr) (er : Value) (kd : Int) : Prop :=
  (er = .nilIface ∧ kd = 0) ∨ (er = errAt ae ∧ kd = 1) ∨ (er = errAt ue ∧ kd = 2) ∨ (∃ N, er = .iface 32 (.pointer (some ⟨N, 0, none⟩)) ∧ kd = 3) ∨ (∃ t, er = .iface 33 (.string t) ∧ kd = 4)
theorem is_code (N : Nat) (w : World) : (Instr.typeAssert (.iface 32 (.pointer (some ⟨N, 0, none⟩))) 28 32 true).run Tryd.prog w = .ok (.tuple #[.pointer (some ⟨N, 0, none⟩), .bool true]) w := by kernel_rfl
theorem not_code (t : ByteArray) (w : World) : (Instr.typeAssert (.iface 33 (.string t)) 28 32 true).run Tryd.prog w = .ok (.tuple #[.pointer none, .bool false]) w := by kernel_rfl
theorem is_proto (t : ByteArray) (w : World) : (Instr.typeAssert (.iface 33 (.string t)) 28 33 true).run Tryd.prog w = .ok (.tuple #[.string t, .bool true]) w := by kernel_rfl
set_option maxRecDepth 100000 in
theorem kind_code {K : Nat} {ae ue : Addr} (N : Nat) (w : World) (h : EndsC w K ae ue) : Calls Tryd.prog 8 #[.iface 32 (.pointer (some ⟨N, 0, none⟩))] w fun e w' => e = .returned (.int .i64 3) ∧ w = w' := by
  have q1 := run_eql_iface_types (P := Tryd.prog) 32 58 (.pointer (some ⟨N, 0, none⟩)) (.pointer (some ae)) Tryd.underlying28 (by decide) w
  have q2 := run_eql_iface_types (P := Tryd.prog) 32 58 (.pointer (some ⟨N, 0, none⟩)) (.pointer (some ue)) Tryd.underlying28 (by decide) w
  have q4 : (binOp .eql 28 (.iface 32 (.pointer (some ⟨N, 0, none⟩))) .nilIface).run Tryd.prog w = .ok (.bool false) w := by simp [go_sem]
  have i1 := is_code N w
  have c := h.eof.cell
  have c2 := h.cut.cell
  clear h
  go_enter Tryd.func8, Tryd.ntmps8
  go_wp2_with fail
  go_ret
  exact ⟨rfl, rfl⟩
set_option maxRecDepth 100000 in
theorem kind_proto {K : Nat} {ae ue : Addr} (t : ByteArray) (w : World) (h : EndsC w K ae ue) : Calls Tryd.prog 8 #[.iface 33 (.string t)] w fun e w' => e = .returned (.int .i64 4) ∧ w = w' := by
  have q1 := run_eql_iface_types (P := Tryd.prog) 33 58 (.string t) (.pointer (some ae)) Tryd.underlying28 (by decide) w
  have q2 := run_eql_iface_types (P := Tryd.prog) 33 58 (.string t) (.pointer (some ue)) Tryd.underlying28 (by decide) w
  have q4 : (binOp .eql 28 (.iface 33 (.string t)) .nilIface).run Tryd.prog w = .ok (.bool false) w := by simp [go_sem]
  have i1 := not_code t w
  have i2 := is_proto t w
  have c := h.eof.cell
  have c2 := h.cut.cell
  clear h
  go_enter Tryd.func8, Tryd.ntmps8
  go_wp2_with fail
  go_ret
  exact ⟨rfl, rfl⟩
theorem kind_any {K : Nat} {ae ue : Addr} (er : Value) (kd : Int) (w : World) (h : EndsC w K ae ue) (hk : ErrK ae ue er kd) : Calls Tryd.prog 8 #[er] w fun e w' => e = .returned (.int .i64 kd) ∧ w = w' := by
  rcases hk with ⟨rfl, rfl⟩ | ⟨rfl, rfl⟩ | ⟨rfl, rfl⟩ | ⟨N, rfl, rfl⟩ | ⟨t, rfl, rfl⟩
  · exact kind_nil w
  · exact kind_eof w h.eof
  · exact kind_cut w h
  · exact kind_code N w h
  · exact kind_proto t w h

/-- What a line is parsed to. -/
def PCOut (l : List UInt8) (x n : Int) (b : Bool) (t : ByteArray) (er : Value) : Prop :=
  (∃ m, code3 l = some (n, b, m) ∧ 100 ≤ n ∧ t = ⟨m.toArray⟩ ∧ ((fitsB n x = true ∧ er = .nilIface) ∨ (fitsB n x = false ∧ ∃ N, er = .iface 32 (.pointer (some ⟨N, 0, none⟩))))) ∨
  ((∀ n b m, code3 l = some (n, b, m) → n < 100) ∧ t = ⟨#[]⟩ ∧ ∃ z, er = .iface 33 (.string z))
theorem pc_out {l : List UInt8} {x : Int} {w w' : World} {e : Ending} (h : PCPost l x w e w') : ∃ n b t er, e = .returned (.tuple #[.int .i64 n, .bool b, .string t, er]) ∧ Turned [] w w' ∧ PCOut l x n b t er := by
  obtain ⟨hT, ⟨n, b, m, h1, h2, h3, rfl⟩ | ⟨n, b, m, N, h1, h2, h3, rfl⟩ | ⟨h1, n, b, z, rfl⟩⟩ := h
  · exact ⟨n, b, _, _, rfl, hT, .inl ⟨m, h1, h2, rfl, .inl ⟨h3, rfl⟩⟩⟩
  · exact ⟨n, b, _, _, rfl, hT, .inl ⟨m, h1, h2, rfl, .inr ⟨h3, N, rfl⟩⟩⟩
  · exact ⟨n, b, _, _, rfl, hT, .inr ⟨h1, rfl, z, rfl⟩⟩
end Go.Proofs.YtdhdcgliefjonaaDoor
