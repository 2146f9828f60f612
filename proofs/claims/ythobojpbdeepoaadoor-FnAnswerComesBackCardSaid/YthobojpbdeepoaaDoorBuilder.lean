/-
  The contracts of strings.Builder's methods, over a builder that the call itself has made (the kit's worked proofs turned to this program).
-/
import Derived.Test.YthobojpbdeepoaaDoorReadCode
import Derived.Lib.Builder
import Derived.Lib.AppendStr
import Derived.Lib.UnsafeStr
import Derived.Laws.Externs
namespace Go.Proofs.YthobojpbdeepoaaDoor
open Go.RowKit

/-- Block b is a builder of the call's own, from block B on; it holds the bytes l. -/
def Sb (w : World) (B b : Nat) (l : List UInt8) : Prop := Lib.IsBuilder 134 5 B b (by8 l) w
abbrev SbAt (p : Value) (w : World) (B b : Nat) (l : List UInt8) : Prop := Lib.BuilderAt 134 5 B b p (by8 l) w
theorem Sb.at {w : World} {B b : Nat} {l : List UInt8} (h : Sb w B b l) : ∃ p, SbAt p w B b l := by
  rcases h with h | h
  · exact ⟨_, h⟩
  · exact ⟨_, h⟩
theorem Sb.keep {w w' : World} {B b : Nat} {l : List UInt8} {S : List Nat} (h : Sb w B b l) (hT : Turned S w w') (hS : ∀ x, x ∈ S → x < B) : Sb w' B b l := by
  have gen : ∀ p, SbAt p w B b l → SbAt p w' B b l := by
    rintro p ⟨hB, v, hb, hown, hne⟩
    have hlt : b < w.heap.size := Lib.BuilderAt.lt ⟨hB, v, hb, hown, hne⟩
    exact ⟨hB, v, (hT.block b hlt (fun hx => by have := hS b hx; omega)).trans hb, own_keep hown hT hS, hne⟩
  rcases h with h | h
  · exact .inl (gen _ h)
  · exact .inr (gen _ h)
theorem Sb.fresh (w : World) : Sb (w.alloc (.cells #[.pointer none, .slice none 0 0] 134)) w.heap.size w.heap.size [] := Lib.fresh_isBuilder _ _ w

set_option maxHeartbeats 1000000 in
set_option maxRecDepth 100000 in
theorem copyCheck_used (b : Nat) (w : World) (h0 : w.cell? ⟨b, 0, none⟩ = some (.pointer (some ⟨b, 0, none⟩))) :
    Calls Tryd.prog 91 #[.pointer (some ⟨b, 0, none⟩)] w fun e w' => e = .returned (.tuple #[]) ∧ w' = w := by
  obtain ⟨j, hj, _⟩ := Option.map_eq_some_iff.1 (show (Tryd.prog.info? 134).map (·.size) = some 2 by kernel_rfl)
  go_enter Tryd.func91, Tryd.ntmps91
  go_wp2
  rw [Lib.run_neq_ptr_same w _ Tryd.underlying132 hj]
  go_wp2
  go_end0
  exact ⟨rfl, rfl⟩

set_option maxHeartbeats 1000000 in
set_option maxRecDepth 100000 in
theorem copyCheck_fresh (b : Nat) (w : World) (h0 : w.cell? ⟨b, 0, none⟩ = some (.pointer none)) (hsh : w.shape? b = some (134, 2)) (hfz : w.frozen? ⟨b, 0, none⟩ = false) :
    Calls Tryd.prog 91 #[.pointer (some ⟨b, 0, none⟩)] w fun e w' => e = .returned (.tuple #[]) ∧ w' = w.setCell ⟨b, 0, none⟩ (.pointer (some ⟨b, 0, none⟩)) := by
  obtain ⟨j, hj, hjs⟩ := Option.map_eq_some_iff.1 (show (Tryd.prog.info? 134).map (·.size) = some 2 by kernel_rfl)
  have hl : liesAt Tryd.prog Tryd.prog.depth 134 (2 / Tryd.prog.cellsOf 134) 0 134 1 = true := by kernel_rfl
  go_enter Tryd.func91, Tryd.ntmps91
  go_wp2
  rw [Lib.run_to_unsafe w ⟨b, 0, none⟩ Tryd.underlying132 Tryd.underlying178 hj (by rw [hjs]; decide) hsh (Nat.zero_lt_succ 1)]
  simp only [Result.andThen]
  rw [Oper.upon_value]
  go_wp2
  rw [run_callFunc_extern Tryd.func109 (by kernel_rfl) (by kernel_rfl) (by kernel_rfl) (e := Extern.AbiNoEscape.same) (by kernel_rfl)]
  rw [Lib.run_noEscape]
  simp only [Result.andThen]
  rw [Oper.upon_value]
  go_wp2
  rw [Lib.run_from_unsafe w ⟨b, 0, none⟩ Tryd.underlying178 Tryd.underlying132 hj hsh hl]
  simp only [Result.andThen]
  rw [Oper.upon_value]
  go_wp2
  go_end0
  exact ⟨rfl, rfl⟩

theorem copyCheck_any (B b : Nat) (l : List UInt8) (w : World) (h : Sb w B b l) :
    Calls Tryd.prog 91 #[.pointer (some ⟨b, 0, none⟩)] w fun e w' => e = .returned (.tuple #[]) ∧ SbAt (.pointer (some ⟨b, 0, none⟩)) w' B b l ∧ Below B w w' := by
  rcases h with h | h
  · refine (copyCheck_fresh b w h.cell0 h.shape h.frozen0).mono ?_
    rintro e w' ⟨rfl, rfl⟩
    exact ⟨rfl, h.used _, (Below.refl B w).setCell (p := ⟨b, 0, none⟩) h.1 _⟩
  · refine (copyCheck_used b w h.cell0).mono ?_
    rintro e w' ⟨rfl, rfl⟩
    exact ⟨rfl, h, Below.refl B _⟩

theorem bu_ne : 134 ≠ 5 := by decide
set_option maxHeartbeats 2000000 in
set_option maxRecDepth 100000 in
theorem buWriteByte_any (B b : Nat) (l : List UInt8) (c : UInt8) (w : World) (h : Sb w B b l) (hlen : l.length + 1 ≤ 4294967296) (hBw : B ≤ w.heap.size) :
    Calls Tryd.prog 77 #[.pointer (some ⟨b, 0, none⟩), .int .u8 (c.toNat : Int)] w fun e w' => e = .returned .nilIface ∧ Sb w' B b (l ++ [c]) ∧ Below B w w' := by
  obtain ⟨i0, hi, hz0, hz1, hz2⟩ := info_parts u8_info
  have CC := Lib.hid (copyCheck_any B b l w h)
  clear h
  go_enter Tryd.func77, Tryd.ntmps77
  go_wp2_with fail
  go_at_call 91
  (with_reducible refine CC.out.mono ?_)
  rintro e w1 ⟨rfl, h1, hb1⟩
  obtain ⟨hB, v, hbk, hown, hne⟩ := h1
  rw [by8_length] at hown
  have c0 : w1.cell? ⟨b, 0, none⟩ = some (.pointer (some ⟨b, 0, none⟩)) := by rw [Lib.cell_of_heap hbk]; rfl
  have c1 : w1.cell? ⟨b, 1, none⟩ = some v := by rw [Lib.cell_of_heap hbk]; rfl
  have hlt : b < w1.heap.size := by
    rcases Nat.lt_or_ge b w1.heap.size with h' | h'
    · exact h'
    · simp [Array.getElem?_eq_none h'] at hbk
  have HB := Lib.hid hB
  have HBK := Lib.hid hbk
  have HO := Lib.hid hown
  have HOA := Lib.hid (hown.alloc (.cells #[.int .u8 (c.toNat : Int)] 5))
  have HNE := Lib.hid hne
  have HB1 := Lib.hid hb1
  have L2 : Hid (l.length + 1 ≤ maxLen) := by show _ ≤ _; unfold maxLen; omega
  have L3 : Hid ((l.length + 1) * 1 ≤ 140737488355328) := by show _ ≤ _; omega
  have HS : Hid (B ≤ (w1.alloc (.cells #[.int .u8 (c.toNat : Int)] 5)).heap.size) := by have := hb1.size; show _ ≤ _; simp; omega
  clear hB hbk hown hne hb1
  go_wp2_with (at_builtin; refine wpList_append_own_at _ rfl (.tmp 11) (.tmp 13) 22 rfl B 5 i0 (.int .u8 0) 1 1 Tryd.underlying22 hi hz0 hz1 hz2 rfl (by decide) _ l.length (by8 l) rfl HOA.out ⟨w1.heap.size, 0, none⟩ 1 1 [.int .u8 (c.toNat : Int)] rfl rfl (cell_one_new _ _ _) (by simp [Value.oneCell']) L2.out L3.out HS.out ?_; intro v' w2 hown' hgrow hnil hat; refine Hid.out ?_)
  refine Lib.hid ?_
  have hb2 : w2.heap[b]? = some (.cells #[.pointer (some ⟨b, 0, none⟩), v] 134 (0, 0)) := by
    rw [hgrow.block b (by simp; omega) (fun e => HNE.out e.symm), Lib.alloc_old w1 _ b hlt]
    exact HBK.out
  have d0 : w2.cell? ⟨b, 0, none⟩ = some (.pointer (some ⟨b, 0, none⟩)) := by rw [Lib.cell_of_heap hb2]; rfl
  have d1 : w2.cell? ⟨b, 1, none⟩ = some v := by rw [Lib.cell_of_heap hb2]; rfl
  have f1 : w2.frozen? ⟨b, 1, none⟩ = false := Lib.frozen_of_heap hb2 1
  obtain ⟨g, cap, hv⟩ : ∃ g cap, v' = .slice (some ⟨g, 0, none⟩) (l.length + 1) cap := by
    rcases hown'.2 with ⟨_, h0⟩ | ⟨g, cap, cur, hv, _⟩
    · omega
    · exact ⟨g, cap, hv⟩
  have hby : by8 l ++ [.int .u8 (c.toNat : Int)] = by8 (l ++ [c]) := by unfold by8; rw [List.map_append]; rfl
  have HF : Hid (Sb (w2.setCell ⟨b, 1, none⟩ v') B b (l ++ [c]) ∧ Below B w (w2.setCell ⟨b, 1, none⟩ v')) := by
    refine ⟨.inr ?_, ?_⟩
    · refine Lib.BuilderAt.put (T := 134) (e := 5) HB.out hb2 (bs' := by8 (l ++ [c])) ?_ bu_ne
      rw [← hby, List.length_append, by8_length]
      exact hown'
    · exact ((HB1.out.alloc (by have := HB1.out.size; omega) _).grown hgrow (by have := HB1.out.size; simp; omega) (fun k hk => (HO.out.lt k hk).1)).setCell (p := ⟨b, 1, none⟩) HB.out _
  rw [hv] at HF
  rw [hv]
  clear hown' hgrow hnil hat hb2 hv hby
  go_wp2_with fail
  go_ret
  exact ⟨rfl, HF.out⟩
set_option maxHeartbeats 2000000 in
set_option maxRecDepth 100000 in
theorem buWriteString_any (B b : Nat) (l : List UInt8) (s : ByteArray) (w : World) (h : Sb w B b l) (hlen : l.length + s.size ≤ 4294967296) (hBw : B ≤ w.heap.size) :
    Calls Tryd.prog 75 #[.pointer (some ⟨b, 0, none⟩), .string s] w fun e w' => e = .returned (.tuple #[.int .i64 (s.size : Int), .nilIface]) ∧ Sb w' B b (l ++ lst s) ∧ Below B w w' := by
  obtain ⟨i0, hi, hz0, hz1, hz2⟩ := info_parts u8_info
  have CC := Lib.hid (copyCheck_any B b l w h)
  clear h
  go_enter Tryd.func75, Tryd.ntmps75
  go_wp2_with fail
  go_at_call 91
  (with_reducible refine CC.out.mono ?_)
  rintro e w1 ⟨rfl, h1, hb1⟩
  obtain ⟨hB, v, hbk, hown, hne⟩ := h1
  rw [by8_length] at hown
  have c0 : w1.cell? ⟨b, 0, none⟩ = some (.pointer (some ⟨b, 0, none⟩)) := by rw [Lib.cell_of_heap hbk]; rfl
  have c1 : w1.cell? ⟨b, 1, none⟩ = some v := by rw [Lib.cell_of_heap hbk]; rfl
  have hlt : b < w1.heap.size := by
    rcases Nat.lt_or_ge b w1.heap.size with h' | h'
    · exact h'
    · simp [Array.getElem?_eq_none h'] at hbk
  have HB := Lib.hid hB
  have HBK := Lib.hid hbk
  have HO := Lib.hid hown
  have HNE := Lib.hid hne
  have HB1 := Lib.hid hb1
  have L2 : Hid (l.length + s.size ≤ maxLen) := by show _ ≤ _; unfold maxLen; omega
  have L3 : Hid (l.length + s.size ≤ 140737488355328) := by show _ ≤ _; omega
  have HS : Hid (B ≤ w1.heap.size) := by have := hb1.size; show _ ≤ _; omega
  clear hB hbk hown hne hb1
  go_wp2_with (at_builtin; refine Lib.wpList_append_own_string _ rfl (.tmp 12) (.tmp 13) 22 9 rfl B 5 i0 Tryd.underlying22 Tryd.underlying9 hi hz0 hz1 hz2 _ l.length (by8 l) rfl HO.out s rfl L2.out L3.out HS.out ?_; intro v' w2 hown' hgrow hnil; refine Hid.out ?_)
  refine Lib.hid ?_
  have hb2 : w2.heap[b]? = some (.cells #[.pointer (some ⟨b, 0, none⟩), v] 134 (0, 0)) := by
    rw [hgrow.block b hlt (fun e => HNE.out e.symm)]
    exact HBK.out
  have d0 : w2.cell? ⟨b, 0, none⟩ = some (.pointer (some ⟨b, 0, none⟩)) := by rw [Lib.cell_of_heap hb2]; rfl
  have d1 : w2.cell? ⟨b, 1, none⟩ = some v := by rw [Lib.cell_of_heap hb2]; rfl
  have f1 : w2.frozen? ⟨b, 1, none⟩ = false := Lib.frozen_of_heap hb2 1
  obtain ⟨ao, n', cap, hv⟩ : ∃ ao n' cap, v' = .slice ao n' cap := by
    rcases hown'.2 with ⟨hv, _⟩ | ⟨g, cap, cur, hv, _⟩
    · exact ⟨_, _, _, hv⟩
    · exact ⟨_, _, _, hv⟩
  have hby : by8 l ++ Lib.strCells s = by8 (l ++ lst s) := by unfold by8; rw [List.map_append]; rfl
  have HF : Hid (Sb (w2.setCell ⟨b, 1, none⟩ v') B b (l ++ lst s) ∧ Below B w (w2.setCell ⟨b, 1, none⟩ v')) := by
    refine ⟨.inr ?_, ?_⟩
    · refine Lib.BuilderAt.put (T := 134) (e := 5) HB.out hb2 (bs' := by8 (l ++ lst s)) ?_ bu_ne
      rw [← hby, List.length_append, by8_length, Lib.strCells_length]
      exact hown'
    · exact (HB1.out.grown hgrow (by have := HB1.out.size; omega) (fun k hk => (HO.out.lt k hk).1)).setCell (p := ⟨b, 1, none⟩) HB.out _
  rw [hv] at HF
  rw [hv]
  clear hown' hgrow hnil hb2 hv hby
  go_wp2_with fail
  go_ret2
  exact ⟨rfl, HF.out⟩

theorem unsafeString_none (W : World) (q : Option Addr) : (Builtin.unsafeString_ #[164, 3] 9 #[.pointer q, .int .i64 0]).run Tryd.prog W = .ok (.string .empty) W :=
  Lib.run_unsafeString_none W _ _ _ q
set_option maxHeartbeats 1000000 in
set_option maxRecDepth 100000 in
theorem buString_some (B b : Nat) (l : List UInt8) (w : World) (h : Sb w B b l) (h0 : l ≠ []) :
    Calls Tryd.prog 79 #[.pointer (some ⟨b, 0, none⟩)] w fun e w' => e = .returned (.string ⟨l.toArray⟩) ∧ Below B w w' := by
  obtain ⟨p, hB, v, hbk, hown, hne⟩ := h.at
  have hl0 : l.length ≠ 0 := by simpa using h0
  rw [by8_length] at hown
  obtain ⟨g, cap, cur, rfl, hbg, hg, hnc, hcm, hcs, htake⟩ : ∃ g cap cur, v = .slice (some ⟨g, 0, none⟩) l.length cap ∧ B ≤ g ∧ w.heap[g]? = some (.cells cur 5 (0, 0)) ∧ l.length ≤ cap ∧ cap ≤ maxLen ∧ cur.size = cap * 1 ∧ cur.toList.take (l.length * 1) = by8 l := by
    rcases hown.2 with ⟨_, hz⟩ | ⟨g, cap, cur, hv, r⟩
    · exact absurd hz hl0
    · exact ⟨g, cap, cur, hv, r⟩
  have hco : Tryd.prog.cellsOf 5 = 1 := by kernel_rfl
  have c1 : w.drew.cell? ⟨b, 1, none⟩ = some (.slice (some ⟨g, 0, none⟩) l.length cap) := by
    have : w.drew.heap[b]? = some (.cells #[p, .slice (some ⟨g, 0, none⟩) l.length cap] 134 (0, 0)) := hbk
    rw [Lib.cell_of_heap this]; rfl
  have hSD : (Builtin.unsafeSliceData_ #[22] 164 #[.slice (some ⟨g, 0, none⟩) l.length cap]).run Tryd.prog w.drew = .ok (.pointer (some ⟨g, 0, none⟩)) w.drew :=
    Lib.run_unsafeSliceData_row _ _ _ _ _ _ (by omega)
  have hUS : (Builtin.unsafeString_ #[164, 3] 9 #[.pointer (some ⟨g, 0, none⟩), .int .i64 l.length]).run Tryd.prog w.drew = .ok (.string ⟨l.toArray⟩) (w.drew.freeze ⟨g, 0, none⟩ l.length) := by
    refine Lib.run_unsafeString_row w.drew 164 3 9 5 Tryd.underlying164 hco g cur.size (by have hg' : w.drew.heap[g]? = some (.cells cur 5 (0, 0)) := hg; simp [World.shape?, hg']) l h0 (by omega) (by unfold maxLen at hcm; omega) ?_
    intro j x hx
    exact hown.cells (g := g) rfl j (.int .u8 x.toNat) (by8_get hx)
  go_enter Tryd.func79, Tryd.ntmps79
  go_wp2
  go_region
  all_goals (go_wp2; go_ret; exact ⟨rfl, Lib.below_freeze (Below.drew (Below.refl B w)) (p := ⟨g, 0, none⟩) hbg _⟩)
set_option maxHeartbeats 1000000 in
set_option maxRecDepth 100000 in
theorem buString_nil (B b : Nat) (p : Value) (w : World) (hbk : w.heap[b]? = some (.cells #[p, .slice none 0 0] 134 (0, 0))) :
    Calls Tryd.prog 79 #[.pointer (some ⟨b, 0, none⟩)] w fun e w' => e = .returned (.string ⟨#[]⟩) ∧ Below B w w' := by
  have hUS := unsafeString_none
  have c1 : w.drew.cell? ⟨b, 1, none⟩ = some (.slice none 0 0) := by
    have : w.drew.heap[b]? = some (.cells #[p, .slice none 0 0] 134 (0, 0)) := hbk
    rw [Lib.cell_of_heap this]; rfl
  have hSD : (Builtin.unsafeSliceData_ #[22] 164 #[.slice none 0 0]).run Tryd.prog w.drew = .ok (.pointer none) w.drew := rfl
  go_enter Tryd.func79, Tryd.ntmps79
  go_wp2
  go_region
  all_goals (go_wp2; go_ret; exact ⟨rfl, Below.drew (Below.refl B w)⟩)
set_option maxHeartbeats 2000000 in
set_option maxRecDepth 100000 in
theorem buString_noroom (B b g : Nat) (p : Value) (cur : Array Value) (w : World) (hBw : B ≤ w.heap.size) (hbk : w.heap[b]? = some (.cells #[p, .slice (some ⟨g, 0, none⟩) 0 0] 134 (0, 0))) (hg : w.heap[g]? = some (.cells cur 5 (0, 0))) :
    Calls Tryd.prog 79 #[.pointer (some ⟨b, 0, none⟩)] w fun e w' => e = .returned (.string ⟨#[]⟩) ∧ Below B w w' := by
  have hUS := unsafeString_none
  have hlt : b < w.heap.size := by
    rcases Nat.lt_or_ge b w.heap.size with h' | h'
    · exact h'
    · simp [Array.getElem?_eq_none h'] at hbk
  have c1 : w.drew.cell? ⟨b, 1, none⟩ = some (.slice (some ⟨g, 0, none⟩) 0 0) := by
    have : w.drew.heap[b]? = some (.cells #[p, .slice (some ⟨g, 0, none⟩) 0 0] 134 (0, 0)) := hbk
    rw [Lib.cell_of_heap this]; rfl
  have hSD : (Builtin.unsafeSliceData_ #[22] 164 #[.slice (some ⟨g, 0, none⟩) 0 0]).run Tryd.prog w.drew = .ok (.pointer (some ⟨w.drew.heap.size, 0, none⟩)) (w.drew.alloc (.view ⟨g, 0, none⟩ 5)) :=
    Lib.run_unsafeSliceData_zero w.drew _ _ 5 Tryd.underlying164 ⟨g, 0, none⟩ 0 (5, cur.size) (by have hg' : w.drew.heap[g]? = some (.cells cur 5 (0, 0)) := hg; simp [World.shape?, hg'])
  have c2 : (w.drew.alloc (.view ⟨g, 0, none⟩ 5)).cell? ⟨b, 1, none⟩ = some (.slice (some ⟨g, 0, none⟩) 0 0) := by
    have : (w.drew.alloc (.view ⟨g, 0, none⟩ 5)).heap[b]? = _ := (Lib.alloc_old w.drew _ b hlt).trans hbk
    rw [Lib.cell_of_heap this]; rfl
  have c3 : (w.alloc (.view ⟨g, 0, none⟩ 5)).drew.cell? ⟨b, 1, none⟩ = some (.slice (some ⟨g, 0, none⟩) 0 0) := c2
  have c0 : w.cell? ⟨b, 1, none⟩ = some (.slice (some ⟨g, 0, none⟩) 0 0) := c1
  go_enter Tryd.func79, Tryd.ntmps79
  go_wp2
  go_region
  all_goals (go_wp2; go_ret; exact ⟨rfl, (Below.drew (Below.refl B w)).alloc hBw _⟩)
set_option maxHeartbeats 1000000 in
set_option maxRecDepth 100000 in
theorem buString_room (B b g cap : Nat) (p : Value) (w : World) (hc0 : cap ≠ 0) (hbk : w.heap[b]? = some (.cells #[p, .slice (some ⟨g, 0, none⟩) 0 cap] 134 (0, 0))) :
    Calls Tryd.prog 79 #[.pointer (some ⟨b, 0, none⟩)] w fun e w' => e = .returned (.string ⟨#[]⟩) ∧ Below B w w' := by
  have hUS := unsafeString_none
  have c1 : w.drew.cell? ⟨b, 1, none⟩ = some (.slice (some ⟨g, 0, none⟩) 0 cap) := by
    have : w.drew.heap[b]? = some (.cells #[p, .slice (some ⟨g, 0, none⟩) 0 cap] 134 (0, 0)) := hbk
    rw [Lib.cell_of_heap this]; rfl
  have hSD : (Builtin.unsafeSliceData_ #[22] 164 #[.slice (some ⟨g, 0, none⟩) 0 cap]).run Tryd.prog w.drew = .ok (.pointer (some ⟨g, 0, none⟩)) w.drew :=
    Lib.run_unsafeSliceData_row _ _ _ _ _ _ hc0
  clear hc0
  go_enter Tryd.func79, Tryd.ntmps79
  go_wp2
  go_region
  all_goals (go_wp2; go_ret; exact ⟨rfl, Below.drew (Below.refl B w)⟩)
theorem buString_any (B b : Nat) (l : List UInt8) (w : World) (h : Sb w B b l) (hBw : B ≤ w.heap.size) :
    Calls Tryd.prog 79 #[.pointer (some ⟨b, 0, none⟩)] w fun e w' => e = .returned (.string ⟨l.toArray⟩) ∧ Below B w w' := by
  by_cases h0 : l = []
  · subst h0
    obtain ⟨p, hB, v, hbk, hown, hne⟩ := h.at
    rcases hown.2 with ⟨rfl, _⟩ | ⟨g, cap, cur, rfl, hbg, hg, _, _, _, _⟩
    · exact buString_nil B b p w hbk
    · by_cases hc0 : cap = 0
      · subst hc0
        exact buString_noroom B b g p cur w hBw hbk hg
      · exact buString_room B b g cap p w hc0 hbk
  · exact buString_some B b l w h h0
end Go.Proofs.YthobojpbdeepoaaDoor
