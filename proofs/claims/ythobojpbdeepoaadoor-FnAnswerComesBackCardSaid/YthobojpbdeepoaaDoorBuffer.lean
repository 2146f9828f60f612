/-
  The contracts of bytes.Buffer's Write and Bytes, for a buffer that has only been written.
-/
import Derived.Test.YthobojpbdeepoaaDoorDotTail
import Derived.Lib.AppendZeros
import Derived.Laws.CopyRow
import Derived.Laws.IdiomCopy
import Derived.Lib.ByteType
import Derived.Defers
import Derived.Recover
import Derived.OwnWalk
import Derived.Lib.SliceRun
namespace Go.Proofs.YthobojpbdeepoaaDoor
open Go.RowKit

theorem zeroC_size (n : Nat) : (Builtin.zeroCells (Value.int .u8 0).cells n).size = n := by
  unfold Builtin.zeroCells
  rw [Array.size_map, Array.size_range]
  show n * 1 = n
  omega

/-- The deferred closure of growSlice finds nothing to recover. -/
theorem catch_idle (w : World) : CallsD Tryd.prog 177 #[] .returning w fun e u' w' => e = .returned (.tuple #[]) ∧ u' = .returning ∧ w' = w := by
  have hnn : ∀ w, (binOp .neq 20 .nilIface .nilIface).run Tryd.prog w = .ok (.bool false) w := fun w => Lib.run_neq_nil_nil w Tryd.underlying20
  refine callsD_of_wpS Tryd.func177 rfl fun c₀ cs hu => ?_
  apply wpS_seq
  apply wpS_region
  simp [wpOpsS, go_sem, recoverD, hu, hnn, Tryd.ntmps177, Exit.thenS]
  refine wpS_cond (t := false) (by simp [Act.eval, Array.replicate]) ?_
  simp only [Bool.false_eq_true, if_false]
  refine wpS_of_wp (wp_skip ?_)
  cases c₀
  simp_all [bodyPostS, results]

/-- What growSlice leaves: a new row that begins with the old cells. -/
def GrowSl (l n : Nat) (old : List Value) (w : World) (e : Ending) (w' : World) : Prop :=
  ∃ cap2, ∃ cells : List Value, e = .returned (.slice (some ⟨w.heap.size, 0, none⟩) l cap2) ∧ Blk w' w.heap.size 5 cells.toArray ∧ cells.length = cap2 ∧ cells.take l = old ∧ l + n ≤ cap2 ∧ cap2 ≤ maxLen ∧ Below w.heap.size w w'

set_option maxRecDepth 100000 in
set_option maxHeartbeats 4000000 in
theorem growSlice_nil (n : Nat) (w : World) (hn : 1 ≤ n) (hlim : n ≤ 1099511627776) : Calls Tryd.prog 176 #[.slice none 0 0, .int .i64 (n : Int)] w (GrowSl 0 n [] w) := by
  obtain ⟨i0, hi, hz0, hz1, hz2⟩ := info_parts u8_info
  have happ := Lib.run_append_nil_zeros (P := Tryd.prog) w 22 3 22 5 i0 (.int .u8 0) .i64 .i64 Tryd.underlying22 Tryd.underlying3 hi hz0 n (by omega) (by rw [hz1]; decide) (by omega) (by rw [hz2]; omega)
  generalize hcap : grownCap w n 0 5 = cap2 at happ
  have hcapge : n ≤ cap2 := by rw [← hcap]; exact grownCap_ge w _ 0 5
  have hcaple : cap2 ≤ maxLen := by rw [← hcap]; exact grownCap_le_maxLen w _ 0 5 (by unfold maxLen; omega)
  generalize hZ : (Builtin.zeroCells (Value.int .u8 0).cells n ++ Builtin.zeroCells (Value.int .u8 0).cells (cap2 - n)) = Z at happ
  have hZs : Z.size = cap2 := by rw [← hZ, Array.size_append, zeroC_size, zeroC_size]; omega
  clear hcap hZ
  have hcopy := run_copy_nil (P := Tryd.prog) (w.alloc (.cells Z 5)).drew 22 22 3 5 ⟨w.heap.size, 0, none⟩ n cap2 Tryd.underlying22 (by rw [hi]; rfl)
  have HF : Hid (GrowSl 0 n [] w (.returned (.slice (some ⟨w.heap.size, 0, none⟩) 0 cap2)) (w.alloc (.cells Z 5)).drew) :=
    ⟨cap2, Z.toList, rfl, by have := Blk.new w 5 Z; simpa using this.drew, by rw [Array.length_toList, hZs], rfl, by omega, hcaple, ⟨rfl, rfl, rfl, by simp, fun k hk => Below.heap_alloc w _ k hk⟩⟩
  go_enter_defers Tryd.func176, Tryd.ntmps176
  go_wp2_with (at_builtin; refine Lib.wpList_append_run _ rfl _ _ _ _ rfl _ _ rfl rfl _ _ happ ?_)
  refine leaves_cons (f := 177) (args := #[]) (by simp) (enters_of Tryd.func177 (by kernel_rfl) rfl _ _) ?_
  refine (catch_idle _).mono ?_
  rintro e u' w'' ⟨rfl, rfl, rfl⟩
  refine ⟨_, results_tmp rfl _ _ _, ?_⟩
  exact HF.out

set_option maxRecDepth 100000 in
set_option maxHeartbeats 4000000 in
theorem growSlice_row (g l c n : Nat) (cur : List Value) (w : World) (hg : Blk w g 5 cur.toArray) (hcs : cur.length = c) (hlc : l ≤ c) (hn : 1 ≤ n) (hlim : l + n ≤ 1099511627776) (hc2 : c < l + n) (h1 : ∀ v ∈ cur.take l, v.oneCell' = true) :
    Calls Tryd.prog 176 #[.slice (some ⟨g, 0, none⟩) l c, .int .i64 (n : Int)] w (GrowSl l n (cur.take l) w) := by
  obtain ⟨i0, hi, hz0, hz1, hz2⟩ := info_parts u8_info
  have hgl := hg.lt
  have hxl : (cur.take l).length = l := by rw [List.length_take]; omega
  obtain ⟨C, hC, hC1, hC2⟩ : ∃ C, (C = if l + n < 2 * c then 2 * c else l + n) ∧ l + n ≤ C ∧ C ≤ 2199023255552 := ⟨_, rfl, by split <;> omega, by split <;> omega⟩
  have happ := Lib.run_append_nil_zeros (P := Tryd.prog) w 22 3 22 5 i0 (.int .u8 0) .i64 .i64 Tryd.underlying22 Tryd.underlying3 hi hz0 C (by omega) (by rw [hz1]; decide) (by omega) (by rw [hz2]; omega)
  generalize hcap : grownCap w C 0 5 = cap2 at happ
  have hcapge : C ≤ cap2 := by rw [← hcap]; exact grownCap_ge w _ 0 5
  have hcaple : cap2 ≤ maxLen := by rw [← hcap]; exact grownCap_le_maxLen w _ 0 5 (by unfold maxLen; omega)
  generalize hZ : (Builtin.zeroCells (Value.int .u8 0).cells C ++ Builtin.zeroCells (Value.int .u8 0).cells (cap2 - C)) = Z at happ
  have hZs : Z.size = cap2 := by rw [← hZ, Array.size_append, zeroC_size, zeroC_size]; omega
  clear hcap hZ
  have hg1 : (w.alloc (.cells Z 5)).drew.heap[g]? = some (.cells cur.toArray 5 (0, 0)) := hg.alloc _
  have hcopy := run_copy_row (P := Tryd.prog) (w.alloc (.cells Z 5)).drew 22 22 3 5 w.heap.size 0 C cap2 ⟨g, 0, none⟩ l c Z 5 (cur.take l) Tryd.underlying22 (by rw [hi]; simp [hz1]) (heap_alloc_new w _) (by rw [hxl]; exact (Nat.min_eq_left (by omega)).symm)
    (fun j v hj => by
      have h2 := cell_of_row (w.alloc (.cells Z 5)).drew g (0 + j) cur.toArray 5 (0, 0) hg1
      have hjl : j < l := by have h3 := (List.getElem?_eq_some_iff.1 hj).1; omega
      rw [List.getElem?_take_of_lt hjl] at hj
      unfold Addr.add
      split
      · subst_vars; rw [h2]; simpa using hj
      · rw [h2]; simpa using hj) (by rw [hxl]; omega) h1
  rw [hxl] at hcopy
  generalize hY : (Z.toList.take 0 ++ cur.take l ++ Z.toList.drop (0 + l)).toArray = Y at hcopy
  have hYl : Y.toList = cur.take l ++ Z.toList.drop l := by rw [← hY]; simp
  have HF : Hid (GrowSl l n (cur.take l) w (.returned (.slice (some ⟨w.heap.size, 0, none⟩) l cap2)) ((w.alloc (.cells Z 5)).drew.setRow w.heap.size Y)) := by
    refine ⟨cap2, Y.toList, rfl, ?_, ?_, ?_, by omega, hcaple, ⟨rfl, rfl, rfl, by simp [World.setRow], fun k hk => by rw [setRow_other _ _ _ _ (by omega)]; exact Below.heap_alloc w _ k hk⟩⟩
    · have h2 := setRow_heap (w.alloc (.cells Z 5)).drew w.heap.size Z Y 5 (0, 0) (heap_alloc_new w _)
      simpa [Blk] using h2
    · rw [hYl, List.length_append, hxl, List.length_drop, Array.length_toList, hZs]; omega
    · rw [hYl, List.take_append_of_le_length (by rw [hxl]; exact Nat.le_refl _), List.take_of_length_le (by rw [hxl]; exact Nat.le_refl _)]
  have d1 : IntKind.i64.wrap ((l : Int) + (n : Int)) = (l : Int) + (n : Int) := IntWalk.i64_in _ (by omega)
  have d2 : IntKind.i64.wrap (2 * (c : Int)) = 2 * (c : Int) := IntWalk.i64_in _ (by omega)
  have b0 : (0 : Int) ≤ (l : Int) := by omega
  have b1 : (l : Int) ≤ (cap2 : Int) := by omega
  clear hg1 hg hYl hY h1 hZs hcapge hcaple hgl
  by_cases hlt : l + n < 2 * c
  · rw [if_pos hlt] at hC
    subst hC
    have e1 : ((2 * c : Nat) : Int) = 2 * (c : Int) := by omega
    rw [e1] at happ
    have t1 : (l : Int) + (n : Int) < 2 * (c : Int) := by omega
    clear hlt hC1 hC2
    go_enter_defers Tryd.func176, Tryd.ntmps176
    go_wp2_with (at_builtin; refine Lib.wpList_append_run _ rfl _ _ _ _ rfl _ _ rfl rfl _ _ happ ?_)
    refine leaves_cons (f := 177) (args := #[]) (by simp) (enters_of Tryd.func177 (by kernel_rfl) rfl _ _) ?_
    refine (catch_idle _).mono ?_
    rintro e u' w'' ⟨rfl, rfl, rfl⟩
    refine ⟨_, results_tmp rfl _ _ _, ?_⟩
    exact HF.out
  · rw [if_neg hlt] at hC
    subst hC
    have e1 : ((l + n : Nat) : Int) = (l : Int) + (n : Int) := by omega
    rw [e1] at happ
    have t1 : ¬ (l : Int) + (n : Int) < 2 * (c : Int) := by omega
    clear hlt hC1 hC2
    go_enter_defers Tryd.func176, Tryd.ntmps176
    go_wp2_with (at_builtin; refine Lib.wpList_append_run _ rfl _ _ _ _ rfl _ _ rfl rfl _ _ happ ?_)
    refine leaves_cons (f := 177) (args := #[]) (by simp) (enters_of Tryd.func177 (by kernel_rfl) rfl _ _) ?_
    refine (catch_idle _).mono ?_
    rintro e u' w'' ⟨rfl, rfl, rfl⟩
    refine ⟨_, results_tmp rfl _ _ _, ?_⟩
    exact HF.out

/-- tryGrowByReslice, where there is room. -/
theorem tryGrow_room (V : Nat) (ao : Option Addr) (l cap n : Nat) (lr : Int) (w : World) (h : Blk w V 82 #[.slice ao l cap, .int .i64 0, .int .i8 lr]) (hlc : l ≤ cap) (hcap : cap ≤ maxLen) (hn : n ≤ cap - l) :
    Calls Tryd.prog 173 #[.pointer (some ⟨V, 0, none⟩), .int .i64 (n : Int)] w fun e w' => e = .returned (.tuple #[.int .i64 (l : Int), .bool true]) ∧ w' = w.setCell ⟨V, 0, none⟩ (.slice ao (l + n) cap) := by
  have c0 : w.cell? ⟨V, 0, none⟩ = some (.slice ao l cap) := by rw [h.cell]; rfl
  have f0 := h.frozen 0
  unfold maxLen at hcap
  have e1 : IntKind.i64.wrap ((cap : Int) - (l : Int)) = (cap : Int) - (l : Int) := IntWalk.i64_in _ (by omega)
  have e2 : IntKind.i64.wrap ((l : Int) + (n : Int)) = (l : Int) + (n : Int) := IntWalk.i64_in _ (by omega)
  have e3 : ((l : Int) + (n : Int)).toNat = l + n := by omega
  have b1 : (n : Int) ≤ (cap : Int) - (l : Int) := by omega
  have b2 : (0 : Int) ≤ (l : Int) + (n : Int) := by omega
  have b3 : (l : Int) + (n : Int) ≤ (cap : Int) := by omega
  clear h
  go_enter Tryd.func173, Tryd.ntmps173
  go_wp2_with fail
  go_ret2
  exact ⟨rfl, rfl⟩
/-- .. where there is none. -/
theorem tryGrow_none (V : Nat) (ao : Option Addr) (l cap n : Nat) (lr : Int) (w : World) (h : Blk w V 82 #[.slice ao l cap, .int .i64 0, .int .i8 lr]) (hlc : l ≤ cap) (hcap : cap ≤ maxLen) (hn : cap - l < n) :
    Calls Tryd.prog 173 #[.pointer (some ⟨V, 0, none⟩), .int .i64 (n : Int)] w fun e w' => e = .returned (.tuple #[.int .i64 0, .bool false]) ∧ w = w' := by
  have c0 : w.cell? ⟨V, 0, none⟩ = some (.slice ao l cap) := by rw [h.cell]; rfl
  unfold maxLen at hcap
  have e1 : IntKind.i64.wrap ((cap : Int) - (l : Int)) = (cap : Int) - (l : Int) := IntWalk.i64_in _ (by omega)
  have b1 : ¬ (n : Int) ≤ (cap : Int) - (l : Int) := by omega
  clear h
  go_enter Tryd.func173, Tryd.ntmps173
  go_wp2_with fail
  go_ret2
  exact ⟨rfl, rfl⟩
theorem bufLen (V : Nat) (ao : Option Addr) (l cap : Nat) (lr : Int) (w : World) (h : Blk w V 82 #[.slice ao l cap, .int .i64 0, .int .i8 lr]) (hl : l ≤ maxLen) :
    Calls Tryd.prog 175 #[.pointer (some ⟨V, 0, none⟩)] w fun e w' => e = .returned (.int .i64 (l : Int)) ∧ ∃ q, w' = w.drewN q := by
  have c0 : w.cell? ⟨V, 0, none⟩ = some (.slice ao l cap) := by rw [h.cell]; rfl
  have c1 : w.cell? ⟨V, 1, none⟩ = some (.int .i64 0) := by rw [h.cell]; rfl
  unfold maxLen at hl
  clear h
  go_enter Tryd.func175, Tryd.ntmps175
  go_wp2_with fail
  go_quiet (fail)
  go_wp2_with fail
  go_ret
  exact ⟨rfl, _, rfl⟩

/-- What grow leaves: a new row that begins with the old cells, with room for n more. -/
def GrowPost (V l n : Nat) (old : List Value) (lr : Int) (w : World) (e : Ending) (w' : World) : Prop :=
  e = .returned (.int .i64 (l : Int)) ∧ ∃ g cap, ∃ cells : List Value, w.heap.size ≤ g ∧ Blk w' V 82 #[.slice (some ⟨g, 0, none⟩) (l + n) cap, .int .i64 0, .int .i8 lr] ∧ Blk w' g 5 cells.toArray ∧ cells.length = cap ∧ cells.take l = old ∧ l + n ≤ cap ∧ cap ≤ maxLen ∧ Turned [V] w w'

/-- Sixty-four zero bytes. -/
def zero64 : List Value := List.replicate 64 (.int .u8 0)
theorem zero64_eq : madeCells (Value.int .u8 0).cells 64 = zero64.toArray := by kernel_rfl
theorem make64 (n : Nat) (hn : n ≤ 64) (w : World) : (Instr.makeSlice 22 (.int .i64 (n : Int)) (.int .i64 64)).run Tryd.prog w = .ok (.slice (some ⟨w.heap.size, 0, none⟩) n 64) (w.alloc (.cells zero64.toArray 5)) := by
  obtain ⟨i0, hi, hz0, hz1, hz2⟩ := info_parts u8_info
  have h := run_make (P := Tryd.prog) w 22 5 i0 (.int .u8 0) Tryd.underlying22 hi hz0 .i64 .i64 (n : Int) 64 (by omega) (by omega) (by rw [hz2]; decide) (by decide)
  rw [hz1] at h
  have e : (64 : Int).toNat * 1 = 64 := by decide
  rw [e, zero64_eq] at h
  simpa using h

/-- b.buf is let go to a new row of which l + n are taken. -/
theorem grow_post {V l n g cap : Nat} {cells : List Value} {old : List Value} {lr : Int} {v : Value} {w w1 : World} (_h : Blk w V 82 #[v, .int .i64 0, .int .i8 lr]) (hT : Turned [V] w w1) (hV : Blk w1 V 82 #[.slice (some ⟨g, 0, none⟩) (l + n) cap, .int .i64 0, .int .i8 lr])
    (hg : w.heap.size ≤ g) (hG : Blk w1 g 5 cells.toArray) (hc : cells.length = cap) (hx : cells.take l = old) (hln : l + n ≤ cap) (hm : cap ≤ maxLen) : GrowPost V l n old lr w (.returned (.int .i64 (l : Int))) w1 :=
  ⟨rfl, g, cap, cells, hg, hV, hG, hc, hx, hln, hm, hT⟩

set_option maxRecDepth 100000 in
set_option maxHeartbeats 4000000 in
theorem grow_nil (V n : Nat) (lr : Int) (w : World) (h : Blk w V 82 #[.slice none 0 0, .int .i64 0, .int .i8 lr]) (hn : 1 ≤ n) (hl : n ≤ 1099511627776) :
    Calls Tryd.prog 174 #[.pointer (some ⟨V, 0, none⟩), .int .i64 (n : Int)] w (GrowPost V 0 n [] lr w) := by
  have BL := bufLen V none 0 0 lr w h (Nat.zero_le _)
  have TG := Lib.hid (fun q => tryGrow_none V none 0 0 n lr (w.drewN q) (h.drewN q) (Nat.le_refl _) (Nat.zero_le _) (by omega))
  have c0 : w.cell? ⟨V, 0, none⟩ = some (.slice none 0 0) := by rw [h.cell]; rfl
  have c1 : w.cell? ⟨V, 1, none⟩ = some (.int .i64 0) := by rw [h.cell]; rfl
  have f0 := h.frozen 0
  have f1 := h.frozen 1
  have Q1 := fun (W : World) a n c => Lib.run_eql_slice_nil (P := Tryd.prog) W 22 5 a n c 0 0 Tryd.underlying22
  have hlt := h.lt
  have hne : V ≠ w.heap.size := by omega
  by_cases h64 : n ≤ 64
  · have mk := make64 n h64
    have b0 : (n : Int) ≤ 64 := by omega
    have k0 : ∀ q, ((w.drewN q).alloc (.cells zero64.toArray 5)).cell? ⟨V, 0, none⟩ = some (.slice none 0 0) := fun q => by rw [((h.drewN q).alloc _).cell]; rfl
    have k1 : ∀ q, ((w.drewN q).alloc (.cells zero64.toArray 5)).frozen? ⟨V, 0, none⟩ = false := fun q => ((h.drewN q).alloc _).frozen 0
    have HF : Hid (∀ q, GrowPost V 0 n [] lr w (.returned (.int .i64 0)) (((w.drewN q).alloc (.cells zero64.toArray 5)).setCell ⟨V, 0, none⟩ (.slice (some ⟨w.heap.size, 0, none⟩) n 64))) := by
      intro q
      have hT : Turned [V] w (((w.drewN q).alloc (.cells zero64.toArray 5)).setCell ⟨V, 0, none⟩ (.slice (some ⟨w.heap.size, 0, none⟩) n 64)) := ((((Turned.refl _ _).drewN q).alloc _).setCell (.inl (by simp)) _)
      have hn2 : Blk ((w.drewN q).alloc (.cells zero64.toArray 5)) w.heap.size 5 zero64.toArray := Blk.new (w.drewN q) 5 zero64.toArray
      exact grow_post (l := 0) (g := w.heap.size) (cap := 64) h hT (by have h2 := ((h.drewN q).alloc (.cells zero64.toArray 5)).set_ 0 (.slice (some ⟨w.heap.size, 0, none⟩) n 64); simpa using h2) (Nat.le_refl _) (hn2.far (by simpa using hne.symm) _) rfl rfl (by omega) (by decide)
    clear h
    go_enter Tryd.func174, Tryd.ntmps174
    go_wp2_with (first | (go_at_call 175; (with_reducible refine BL.mono ?_); rintro e w1 ⟨rfl, q, rfl⟩) | (go_at_call 173; (with_reducible refine (TG.out _).mono ?_); rintro e w1 ⟨rfl, rfl⟩))
    go_ret
    exact HF.out _
  · have b0 : ¬ (n : Int) ≤ 64 := by omega
    have b1 : ¬ (n : Int) ≤ 0 := by omega
    have e2 : IntKind.i64.wrap (n : Int) = (n : Int) := IntWalk.i64_in _ (by omega)
    have e1 : IntKind.i64.wrap (9223372036854775807 - (n : Int)) = 9223372036854775807 - (n : Int) := IntWalk.i64_in _ (by omega)
    have b2 : ¬ 9223372036854775807 - (n : Int) < 0 := by omega
    have b3 : (0 : Int) ≤ 9223372036854775807 - (n : Int) := by omega
    have GS := Lib.hid (fun q => growSlice_nil n (w.drewN q) hn hl)
    have HF : Hid (∀ q w1 e, GrowSl 0 n [] (w.drewN q) e w1 → ∃ g cap, e = .returned (.slice (some ⟨g, 0, none⟩) 0 cap) ∧ n ≤ cap ∧ cap ≤ 9223372036854775807 ∧ w1.cell? ⟨V, 0, none⟩ = some (.slice none 0 0) ∧ w1.cell? ⟨V, 1, none⟩ = some (.int .i64 0) ∧ w1.frozen? ⟨V, 0, none⟩ = false ∧ w1.frozen? ⟨V, 1, none⟩ = false ∧
        Hid (GrowPost V 0 n [] lr w (.returned (.int .i64 0)) (((w1.setCell ⟨V, 0, none⟩ (.slice (some ⟨g, 0, none⟩) 0 cap)).setCell ⟨V, 1, none⟩ (.int .i64 0)).setCell ⟨V, 0, none⟩ (.slice (some ⟨g, 0, none⟩) n cap)))) := by
      rintro q w1 e ⟨cap, cells, rfl, hG, hcl, hx, hln, hm, hb⟩
      have hV1 : Blk w1 V 82 #[.slice none 0 0, .int .i64 0, .int .i8 lr] := (h.drewN q).below hb h.lt
      have hne : w.heap.size ≠ V := by have := h.lt; omega
      have hG' : Blk w1 w.heap.size 5 cells.toArray := hG
      have hT : Turned [V] w w1 := ((Turned.refl [V] w).drewN q).trans (Turned.of_below hb)
      have hm' := hm
      unfold maxLen at hm'
      refine ⟨_, cap, rfl, by omega, hm', by rw [hV1.cell]; rfl, by rw [hV1.cell]; rfl, hV1.frozen 0, hV1.frozen 1, ?_⟩
      refine grow_post (l := 0) (g := w.heap.size) (cap := cap) (cells := cells) h (((hT.setCell (.inl (by simp)) _).setCell (.inl (by simp)) _).setCell (.inl (by simp)) _) ?_ (Nat.le_refl _) (((hG'.far hne _).far hne _).far hne _) hcl hx (by omega) hm
      have h2 := ((hV1.set_ 0 (.slice (some ⟨w.heap.size, 0, none⟩) 0 cap)).set_ 1 (.int .i64 0)).set_ 0 (.slice (some ⟨w.heap.size, 0, none⟩) n cap)
      simpa using h2
    clear h
    go_enter Tryd.func174, Tryd.ntmps174
    go_wp2_with (first | (go_at_call 175; (with_reducible refine BL.mono ?_); rintro e w1 ⟨rfl, q, rfl⟩) | (go_at_call 173; (with_reducible refine (TG.out _).mono ?_); rintro e w1 ⟨rfl, rfl⟩))
    go_region_law (first | (go_simp; go_at_call 176; (with_reducible refine (GS.out _).mono ?_); intro e w1 hP; obtain ⟨g, cap, rfl, hnc, hcm, d0, d1, g0, g1, hF⟩ := HF.out _ _ _ hP; clear hP))
    all_goals
      have d2 : (n : Int) ≤ (cap : Int) := by omega
      clear HF GS TG BL
      go_wp2_with fail
      go_ret
      exact hF.out

set_option maxRecDepth 100000 in
set_option maxHeartbeats 4000000 in
theorem grow_row (V g0 l c n : Nat) (cur : List Value) (lr : Int) (w : World) (h : Blk w V 82 #[.slice (some ⟨g0, 0, none⟩) l c, .int .i64 0, .int .i8 lr]) (hg0 : Blk w g0 5 cur.toArray) (hcs : cur.length = c) (h0 : 1 ≤ l) (hlc : l ≤ c) (hn : 1 ≤ n) (hl : l + n ≤ 1099511627776) (hc : c < l + n)
    (h1 : ∀ v ∈ cur.take l, v.oneCell' = true) : Calls Tryd.prog 174 #[.pointer (some ⟨V, 0, none⟩), .int .i64 (n : Int)] w (GrowPost V l n (cur.take l) lr w) := by
  have BL := bufLen V (some ⟨g0, 0, none⟩) l c lr w h (by unfold maxLen; omega)
  have TG := Lib.hid (fun q => tryGrow_none V (some ⟨g0, 0, none⟩) l c n lr (w.drewN q) (h.drewN q) hlc (by unfold maxLen; omega) (by omega))
  have c0 : w.cell? ⟨V, 0, none⟩ = some (.slice (some ⟨g0, 0, none⟩) l c) := by rw [h.cell]; rfl
  have c1 : w.cell? ⟨V, 1, none⟩ = some (.int .i64 0) := by rw [h.cell]; rfl
  have f0 := h.frozen 0
  have f1 := h.frozen 1
  have Q1 := fun (W : World) a n c => Lib.run_eql_slice_nil (P := Tryd.prog) W 22 5 a n c 0 0 Tryd.underlying22
  have e1 : IntKind.i64.wrap (9223372036854775807 - (c : Int)) = 9223372036854775807 - (c : Int) := IntWalk.i64_in _ (by omega)
  have e3 : IntKind.i64.wrap (9223372036854775807 - (c : Int) - (n : Int)) = 9223372036854775807 - (c : Int) - (n : Int) := IntWalk.i64_in _ (by omega)
  have e4 : IntKind.i64.wrap ((c : Int) / 2 - (l : Int)) = (c : Int) / 2 - (l : Int) := IntWalk.i64_in _ (by omega)
  have e2 : IntKind.i64.wrap (n : Int) = (n : Int) := IntWalk.i64_in _ (by omega)
  have e5 : IntKind.i64.wrap ((l : Int) + (n : Int)) = (l : Int) + (n : Int) := IntWalk.i64_in _ (by omega)
  have e6 : ((l : Int) + (n : Int)).toNat = l + n := by omega
  have b0 : (0 : Int) ≤ (c : Int) := by omega
  have b1 : ¬ (n : Int) ≤ (c : Int) / 2 - (l : Int) := by omega
  have b2 : ¬ 9223372036854775807 - (c : Int) - (n : Int) < (c : Int) := by omega
  have b4 : (0 : Int) ≤ (l : Int) + (n : Int) := by omega
  have GS := Lib.hid (fun q => growSlice_row g0 l c n cur (w.drewN q) (hg0.drewN q) hcs hlc hn hl hc h1)
  have HF : Hid (∀ q w1 e, GrowSl l n (cur.take l) (w.drewN q) e w1 → ∃ g cap, e = .returned (.slice (some ⟨g, 0, none⟩) l cap) ∧ l + n ≤ cap ∧ cap ≤ 9223372036854775807 ∧ w1.cell? ⟨V, 0, none⟩ = some (.slice (some ⟨g0, 0, none⟩) l c) ∧ w1.cell? ⟨V, 1, none⟩ = some (.int .i64 0) ∧ w1.frozen? ⟨V, 0, none⟩ = false ∧ w1.frozen? ⟨V, 1, none⟩ = false ∧
      Hid (GrowPost V l n (cur.take l) lr w (.returned (.int .i64 (l : Int))) (((w1.setCell ⟨V, 0, none⟩ (.slice (some ⟨g, 0, none⟩) l cap)).setCell ⟨V, 1, none⟩ (.int .i64 0)).setCell ⟨V, 0, none⟩ (.slice (some ⟨g, 0, none⟩) (l + n) cap)))) := by
    rintro q w1 e ⟨cap, cells, rfl, hG, hcl, hx, hln, hm, hb⟩
    have hV1 : Blk w1 V 82 #[.slice (some ⟨g0, 0, none⟩) l c, .int .i64 0, .int .i8 lr] := (h.drewN q).below hb h.lt
    have hne : w.heap.size ≠ V := by have := h.lt; omega
    have hG' : Blk w1 w.heap.size 5 cells.toArray := hG
    have hT : Turned [V] w w1 := ((Turned.refl [V] w).drewN q).trans (Turned.of_below hb)
    have hm' := hm
    unfold maxLen at hm'
    refine ⟨_, cap, rfl, by omega, hm', by rw [hV1.cell]; rfl, by rw [hV1.cell]; rfl, hV1.frozen 0, hV1.frozen 1, ?_⟩
    refine grow_post (g := w.heap.size) (cap := cap) (cells := cells) h (((hT.setCell (.inl (by simp)) _).setCell (.inl (by simp)) _).setCell (.inl (by simp)) _) ?_ (Nat.le_refl _) (((hG'.far hne _).far hne _).far hne _) hcl hx (by omega) hm
    have h2 := ((hV1.set_ 0 (.slice (some ⟨w.heap.size, 0, none⟩) l cap)).set_ 1 (.int .i64 0)).set_ 0 (.slice (some ⟨w.heap.size, 0, none⟩) (l + n) cap)
    simpa using h2
  clear h hg0 h1
  go_enter Tryd.func174, Tryd.ntmps174
  · have t0 : ((l : Int) == 0) = false := beq_eq_false_iff_ne.2 (by omega)
    go_wp2_with (first | (go_at_call 175; (with_reducible refine BL.mono ?_); rintro e w1 ⟨rfl, q, rfl⟩) | (go_at_call 173; (with_reducible refine (TG.out _).mono ?_); rintro e w1 ⟨rfl, rfl⟩))
    go_region_law (first | (go_simp; go_at_call 176; (with_reducible refine (GS.out _).mono ?_); intro e w1 hP; obtain ⟨g, cap, rfl, hnc, hcm, d0, d1, g0, g1, hF⟩ := HF.out _ _ _ hP; clear hP))
    all_goals
      have d2 : (l : Int) + (n : Int) ≤ (cap : Int) := by omega
      clear HF GS TG BL
      go_wp2_with fail
      go_ret
      exact hF.out
end Go.Proofs.YthobojpbdeepoaaDoor
