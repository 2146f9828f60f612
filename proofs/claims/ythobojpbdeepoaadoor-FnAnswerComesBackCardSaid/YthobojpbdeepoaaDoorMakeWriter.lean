/-
  The contracts of bufio.NewWriter, textproto.NewWriter and DotWriter.
-/
import Derived.Test.YthobojpbdeepoaaDoorDotClose
import Derived.Test.YthobojpbdeepoaaDoorMakeReader
namespace Go.Proofs.YthobojpbdeepoaaDoor
open Go.RowKit

theorem not_bufWriter (a : Addr) (w : World) : (Instr.typeAssert (.iface 85 (.pointer (some a))) 143 83 true).run Tryd.prog w = .ok (.tuple #[.pointer none, .bool false]) w := by kernel_rfl

/-- What bufio's NewWriter leaves. -/
def NWPost (V : Nat) (w : World) (e : Ending) (w' : World) : Prop :=
  ∃ W C cur, e = .returned (.pointer (some ⟨W, 0, none⟩)) ∧ Turned [] w w' ∧ w.heap.size ≤ W ∧ w.heap.size ≤ C ∧ Blk w' C 5 (cur : List Value).toArray ∧ cur.length = 4096 ∧
    Blk w' W 151 #[.nilIface, .slice (some ⟨C, 0, none⟩) 4096 4096, .int .i64 0, .iface 85 (.pointer (some ⟨V, 0, none⟩))]

theorem nw_post (V : Nat) {w w2 : World} {C : Nat} {xs : List Value} (hown : w2.ownsRow w.heap.size 5 1 (.slice (some ⟨C, 0, none⟩) 4096 4096) 4096 xs) (hgrow : w.grownBy w2 none) :
    NWPost V w (.returned (.pointer (some ⟨w2.heap.size, 0, none⟩))) (w2.alloc (.cells #[.nilIface, .slice (some ⟨C, 0, none⟩) 4096 4096, .int .i64 0, .iface 85 (.pointer (some ⟨V, 0, none⟩))] 151)) := by
  have hT : Turned [] w w2 := (Turned.refl [] w).grown hgrow (fun x hx => by cases hx)
  rcases hown.2 with ⟨h0, _⟩ | ⟨g, cap, cur, hv, hb, hg, _, _, hsz, _⟩
  · cases h0
  · injection hv with h1 h2 h3
    injection h1 with h1
    injection h1 with h1
    subst h1 h3
    have hC : Blk w2 C 5 cur.toList.toArray := by unfold Blk; simpa using hg
    exact ⟨w2.heap.size, C, cur.toList, rfl, hT.alloc _, hT.size, hb, hC.alloc _, by rw [Array.length_toList, hsz], Blk.new w2 _ _⟩

set_option maxRecDepth 100000 in
set_option maxHeartbeats 2000000 in
theorem nwSize_any (V : Nat) (w : World) :
    Calls Tryd.prog 80 #[.iface 85 (.pointer (some ⟨V, 0, none⟩)), .int .i64 4096] w (NWPost V w) := by
  obtain ⟨i0, hi, hz0, hz1, hz2⟩ := info_parts u8_info
  have hn := not_bufWriter ⟨V, 0, none⟩
  go_enter Tryd.func80, Tryd.ntmps80
  go_wp2_with (first | (at_make; refine wpList_make_full _ rfl (.tmp 25) (.tmp 25) 22 rfl w.heap.size 5 i0 (.int .u8 0) 1 Tryd.underlying22 hi hz0 hz1 .i64 .i64 4096 4096 4096 rfl rfl rfl rfl (by rw [hz2]; decide) (by decide) (Nat.le_refl _) ?_; intro w2 hown hgrow; have HF := Lib.hid (nw_post V hown hgrow)))
  go_ret
  exact HF.out
theorem nw_any (V : Nat) (w : World) :
    Calls Tryd.prog 53 #[.iface 85 (.pointer (some ⟨V, 0, none⟩))] w (NWPost V w) := by
  have NW := nwSize_any V w
  go_enter Tryd.func53, Tryd.ntmps53
  go_wp2_with (first | (go_at_call 80; refine NW.mono ?_; intro e w2 hP; have HF := Lib.hid hP; obtain ⟨W, C, cur, rfl, _⟩ := hP))
  go_ret
  exact HF.out
theorem tw_any (W : Nat) (w : World) :
    Calls Tryd.prog 54 #[.pointer (some ⟨W, 0, none⟩)] w (fun e w' => e = .returned (.pointer (some ⟨w.heap.size, 0, none⟩)) ∧ w.alloc (.cells #[.pointer (some ⟨W, 0, none⟩), .pointer none] 147) = w') := by
  go_enter Tryd.func54, Tryd.ntmps54
  go_wp2_with fail
  go_ret
  exact ⟨rfl, rfl⟩
theorem twClose_any (T : Nat) (w : World) (h : w.cell? ⟨T, 1, none⟩ = some (.pointer none)) :
    Calls Tryd.prog 81 #[.pointer (some ⟨T, 0, none⟩)] w (fun e w' => e = .returned (.tuple #[]) ∧ w = w') := by
  go_enter Tryd.func81, Tryd.ntmps81
  go_wp2_with fail
  first | refine bodyPost_ret (results_none rfl _ _ _) rfl ?_ | refine bodyPost_end (results_none rfl _ _ _) rfl ?_
  exact ⟨rfl, rfl⟩
/-- What DotWriter leaves. -/
def DWOpen (T W : Nat) (w : World) (e : Ending) (w' : World) : Prop :=
  ∃ D, w.heap.size ≤ D ∧ e = .returned (.iface 145 (.pointer (some ⟨D, 0, none⟩))) ∧ Turned [T] w w' ∧ Blk w' T 147 #[.pointer (some ⟨W, 0, none⟩), .pointer (some ⟨D, 0, none⟩)] ∧ Blk w' D 149 #[.pointer (some ⟨T, 0, none⟩), .int .i64 0]
theorem dwOpen_any (T W : Nat) (w : World) (h : Blk w T 147 #[.pointer (some ⟨W, 0, none⟩), .pointer none]) :
    Calls Tryd.prog 55 #[.pointer (some ⟨T, 0, none⟩)] w (DWOpen T W w) := by
  have CD := twClose_any T w (by rw [h.cell]; rfl)
  have ha := h.alloc (.cells #[.pointer (some ⟨T, 0, none⟩), .int .i64 0] 149)
  have c1 : (w.alloc (.cells #[.pointer (some ⟨T, 0, none⟩), .int .i64 0] 149)).cell? ⟨T, 1, none⟩ = some (.pointer none) := by rw [ha.cell]; rfl
  have f1 := ha.frozen 1
  have hne : T ≠ w.heap.size := by have := h.lt; omega
  have HF : Hid (DWOpen T W w (.returned (.iface 145 (.pointer (some ⟨w.heap.size, 0, none⟩)))) ((w.alloc (.cells #[.pointer (some ⟨T, 0, none⟩), .int .i64 0] 149)).setCell ⟨T, 1, none⟩ (.pointer (some ⟨w.heap.size, 0, none⟩)))) := by
    refine ⟨w.heap.size, Nat.le_refl _, rfl, ((Turned.refl _ _).alloc _).setCell (.inl (by simp)) _, ?_, (Blk.new w _ _).far (by simpa using fun e => hne e.symm) _⟩
    simpa using (h.alloc (.cells #[.pointer (some ⟨T, 0, none⟩), .int .i64 0] 149)).set_ 1 (.pointer (some ⟨w.heap.size, 0, none⟩))
  clear h ha
  go_enter Tryd.func55, Tryd.ntmps55
  go_wp2_with (first | (go_at_call 81; refine CD.mono ?_; rintro e w2 ⟨rfl, rfl⟩))
  go_ret
  exact HF.out
end Go.Proofs.YthobojpbdeepoaaDoor
