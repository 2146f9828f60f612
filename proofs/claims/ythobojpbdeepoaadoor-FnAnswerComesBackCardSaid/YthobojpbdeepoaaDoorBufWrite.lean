/-
  The contracts of bytes.Buffer's Write and Bytes.
-/
import Derived.Test.YthobojpbdeepoaaDoorBuffer
namespace Go.Proofs.YthobojpbdeepoaaDoor
open Go.RowKit

/-- The row of a slice, as a list. -/
def ownL : Value → List Nat
  | .slice (some a) _ _ => [a.block]
  | _ => []
theorem mem_ownL {v : Value} {x : Nat} (h : x ∈ ownL v) : v.ownBlock = some x := by
  unfold ownL at h
  split at h
  · simp at h; subst h; rfl
  · simp at h

/-- Block V is a bytes.Buffer that has only been written: its row v (nil, or one of the call's own) holds the bytes l. -/
structure BufAt (w : World) (K V : Nat) (v : Value) (l : List UInt8) : Prop where
  kv : K ≤ V
  blk : ∃ lr, Blk w V 82 #[v, .int .i64 0, .int .i8 lr]
  own : w.ownsRow K 5 1 v l.length (by8 l)
  nz : v = .slice none 0 0 ∨ 1 ≤ l.length

/-- What Write leaves: the bytes behind those that were there; of the old blocks the buffer's own two alone may have turned; its row is the old one or new. -/
def BWPost (K V : Nat) (v : Value) (l cs : List UInt8) (w : World) (e : Ending) (w' : World) : Prop :=
  e = .returned (.tuple #[.int .i64 (cs.length : Int), .nilIface]) ∧ ∃ v', BufAt w' K V v' (l ++ cs) ∧ Turned (V :: ownL v) w w' ∧ ∀ x, v'.ownBlock = some x → v.ownBlock = some x ∨ w.heap.size ≤ x

theorem bw_post {K V g cap n : Nat} {lr : Int} {v : Value} {l cs : List UInt8} {cells : List Value} {w w1 : World} (hkv : K ≤ V) (hK : K ≤ g) (hT : Turned (V :: ownL v) w w1) (hV : Blk w1 V 82 #[.slice (some ⟨g, 0, none⟩) (l.length + n) cap, .int .i64 0, .int .i8 lr])
    (hG : Blk w1 g 5 cells.toArray) (hc : cells.length = cap) (hx : cells.take l.length = by8 l) (hln : l.length + n ≤ cap) (hm : cap ≤ maxLen) (hn : n = cs.length) (h1 : 1 ≤ n) (hg : v.ownBlock = some g ∨ w.heap.size ≤ g) :
    BWPost K V v l cs w (.returned (.tuple #[.int .i64 (cs.length : Int), .nilIface])) (w1.setRow g (cells.take l.length ++ by8 cs ++ cells.drop (l.length + cs.length)).toArray) := by
  subst hn
  have hvg : V ≠ g := hV.ne_ hG (by decide)
  have hb : Blk (w1.setRow g (cells.take l.length ++ by8 cs ++ cells.drop (l.length + cs.length)).toArray) g 5 (cells.take l.length ++ by8 cs ++ cells.drop (l.length + cs.length)).toArray := setRow_heap w1 g _ _ 5 (0, 0) hG
  have h8 : (by8 cs).length = cs.length := by8_length cs
  have h9 : (by8 l).length = l.length := by8_length l
  have he : by8 (l ++ cs) = by8 l ++ by8 cs := by unfold by8; rw [List.map_append]
  have hT2 := turned_setRow w1 g (cells.take l.length ++ by8 cs ++ cells.drop (l.length + cs.length)).toArray
  refine ⟨rfl, .slice (some ⟨g, 0, none⟩) (l ++ cs).length cap, ⟨hkv, ⟨lr, ?_⟩, ?_, .inr (by rw [List.length_append]; omega)⟩, ?_, ?_⟩
  · rw [List.length_append]
    exact hT2.blk hV (by simpa using hvg)
  · refine own_of_blk hb ?_ (by rw [List.length_append]; omega) hm hK ?_ (by rw [by8_length])
    · rw [List.length_append, List.length_append, hx, h8, h9, List.length_drop]; omega
    · rw [hx, he, List.length_append, List.take_left' (by rw [List.length_append, h8, h9])]
  · refine ⟨hT2.os.trans hT.os, hT2.tape.trans hT.tape, hT2.output.trans hT.output, Nat.le_trans hT.size hT2.size, fun i hi hni => (hT2.block i (Nat.lt_of_lt_of_le hi hT.size) ?_).trans (hT.block i hi hni)⟩
    intro hm2
    simp at hm2
    subst hm2
    rcases hg with hg | hg
    · have : i ∈ ownL v := by
        cases v <;> simp [Value.ownBlock] at hg
        rename_i a n c
        cases a
        · simp at hg
        · simp at hg
          simp [ownL, hg]
      exact hni (List.mem_cons_of_mem _ this)
    · omega
  · intro x hx2
    have : g = x := by simpa [Value.ownBlock] using hx2
    subst this
    exact hg

theorem Addr.add_lit2 (b o j : Nat) : (⟨b, o, none⟩ : Addr).add j = ⟨b, o + j, none⟩ := by
  unfold Addr.add
  split
  · subst_vars; rfl
  · rfl

set_option maxRecDepth 100000 in
set_option maxHeartbeats 4000000 in
theorem bufWrite_any (K V : Nat) (v : Value) (l cs : List UInt8) (P o c : Nat) (w : World) (h : BufAt w K V v l) (hr : Row8 w P o cs) (hPV : P ≠ V) (hPv : v.ownBlock ≠ some P) (hPs : P < w.heap.size) (hn : 1 ≤ cs.length) (hl : l.length + cs.length ≤ 1073741824) :
    Calls Tryd.prog 171 #[.pointer (some ⟨V, 0, none⟩), .slice (some ⟨P, o, none⟩) cs.length c] w (BWPost K V v l cs w) := by
  obtain ⟨lr, hb⟩ := h.blk
  have c0 : w.cell? ⟨V, 0, none⟩ = some v := by rw [hb.cell]; rfl
  have c2 : w.cell? ⟨V, 2, none⟩ = some (.int .i8 lr) := by rw [hb.cell]; rfl
  have f2 := hb.frozen 2
  have hb1 : Blk (w.setCell ⟨V, 2, none⟩ (.int .i8 0)) V 82 #[v, .int .i64 0, .int .i8 0] := by simpa using hb.set_ 2 (.int .i8 0)
  have hT1 : Turned [V] w (w.setCell ⟨V, 2, none⟩ (.int .i8 0)) := (Turned.refl _ _).setCell (.inl (by simp)) _
  have hsz : (Tryd.prog.info? 5).map (·.size) = some 1 := u8_size
  have h8 : (by8 cs).length = cs.length := by8_length cs
  have h9 : (by8 l).length = l.length := by8_length l
  have hkv := h.kv
  have hvlt := hb.lt
  -- the copy into a row that has room
  have COPY : ∀ (w1 : World) (g cap : Nat) (cells : List Value), Blk w1 g 5 cells.toArray → cells.length = cap → l.length + cs.length ≤ cap → Row8 w1 P o cs →
      (Builtin.copy_ #[22, 22] 3 #[.slice (some ⟨g, l.length, none⟩) cs.length (cap - l.length), .slice (some ⟨P, o, none⟩) cs.length c]).run Tryd.prog w1 =
        .ok (goInt cs.length) (w1.setRow g (cells.take l.length ++ by8 cs ++ cells.drop (l.length + cs.length)).toArray) := by
    intro w1 g cap cells hG hc hln hrow
    have h3 := run_copy_row (P := Tryd.prog) w1 22 22 3 5 g l.length cs.length (cap - l.length) ⟨P, o, none⟩ cs.length c cells.toArray 5 (by8 cs) Tryd.underlying22 hsz hG (by rw [h8]; exact (Nat.min_self _).symm)
      (fun j u hj => by
        unfold by8 at hj
        rw [List.getElem?_map] at hj
        obtain ⟨x, hx, rfl⟩ := Option.map_eq_some_iff.1 hj
        rw [Addr.add_lit2]
        exact hrow j x hx) (by rw [h8]; simpa [hc] using hln) (by8_one cs)
    rw [h8] at h3
    simpa using h3
  rcases h.own.2 with ⟨rfl, h0⟩ | ⟨g0, cap0, cur, rfl, hbg, hg0, hnc, hcm, hcs, htk⟩
  · -- the buffer is nil
    obtain rfl : l = [] := List.eq_nil_of_length_eq_zero h0
    have TG := Lib.hid (tryGrow_none V none 0 0 cs.length 0 _ hb1 (Nat.le_refl _) (Nat.zero_le _) (by omega))
    have GR := Lib.hid (grow_nil V cs.length 0 _ hb1 hn (by omega))
    have HF : Hid (∀ e w1, GrowPost V 0 cs.length [] 0 (w.setCell ⟨V, 2, none⟩ (.int .i8 0)) e w1 → e = .returned (.int .i64 0) ∧ ∃ g cap, cs.length ≤ cap ∧ cap ≤ 9223372036854775807 ∧ w1.cell? ⟨V, 0, none⟩ = some (.slice (some ⟨g, 0, none⟩) cs.length cap) ∧
        ∃ W, (Builtin.copy_ #[22, 22] 3 #[.slice (some ⟨g, 0, none⟩) cs.length cap, .slice (some ⟨P, o, none⟩) cs.length c]).run Tryd.prog w1 = .ok (goInt cs.length) W ∧ Hid (BWPost K V (.slice none 0 0) [] cs w (.returned (.tuple #[.int .i64 (cs.length : Int), .nilIface])) W)) := by
      rintro e w1 ⟨rfl, g, cap, cells, hg, hV, hG, hc, hx, hln, hm, hT⟩
      have hm' := hm
      unfold maxLen at hm'
      rw [Nat.zero_add] at hV hln
      have hT2 : Turned [V] w w1 := hT1.trans hT
      have hgs : w.heap.size ≤ g := by simpa [World.setCell] using hg
      have hrow : Row8 w1 P o cs := hr.of_block (hT2.block P hPs (by simpa using hPV))
      refine ⟨rfl, g, cap, hln, hm', by rw [hV.cell]; rfl, w1.setRow g (cells.take ([] : List UInt8).length ++ by8 cs ++ cells.drop (([] : List UInt8).length + cs.length)).toArray, ?_, ?_⟩
      · have h3 := COPY w1 g cap cells hG hc (by simpa using hln) hrow
        simpa using h3
      · have h4 := bw_post (l := []) (n := cs.length) (v := .slice none 0 0) (cs := cs) hkv (by omega) (hT2.mono (by simp)) (by simpa using hV) hG hc (by simp [by8]) (by simpa using hln) hm rfl hn (.inr hgs)
        exact Lib.hid (by simpa using h4)
    clear COPY h hr hb hb1 hT1
    go_enter Tryd.func171, Tryd.ntmps171
    go_wp2_with (first | (go_at_call 173; (with_reducible refine TG.out.mono ?_); rintro e w1 ⟨rfl, rfl⟩) | (go_at_call 174; (with_reducible refine GR.out.mono ?_); intro e w1 hP; obtain ⟨rfl, g, cap, hnc, hcm, d0, W, hcp, hF⟩ := HF.out _ _ hP; clear hP))
    go_ret2
    exact hF.out
  · -- the buffer has a row
    have hnz : 1 ≤ l.length := by
      rcases h.nz with h1 | h1
      · cases h1
      · exact h1
    have hG0 : Blk w g0 5 cur.toList.toArray := by unfold Blk; simpa using hg0
    have hcl : cur.toList.length = cap0 := by rw [Array.length_toList, hcs, Nat.mul_one]
    have htk0 : cur.toList.take l.length = by8 l := by rw [Nat.mul_one] at htk; exact htk
    have hg0V : g0 ≠ V := hG0.ne_ hb (by decide)
    have hPg : P ≠ g0 := fun e => hPv (by rw [e]; rfl)
    have hcm' := hcm
    unfold maxLen at hcm'
    have hG1 : Blk (w.setCell ⟨V, 2, none⟩ (.int .i8 0)) g0 5 cur.toList.toArray := hG0.far (by simpa using hg0V) _
    by_cases hroom : cs.length ≤ cap0 - l.length
    · have TG := Lib.hid (tryGrow_room V (some ⟨g0, 0, none⟩) l.length cap0 cs.length 0 _ hb1 hnc hcm hroom)
      have hV2 : Blk ((w.setCell ⟨V, 2, none⟩ (.int .i8 0)).setCell ⟨V, 0, none⟩ (.slice (some ⟨g0, 0, none⟩) (l.length + cs.length) cap0)) V 82 #[.slice (some ⟨g0, 0, none⟩) (l.length + cs.length) cap0, .int .i64 0, .int .i8 0] := by
        simpa using hb1.set_ 0 (.slice (some ⟨g0, 0, none⟩) (l.length + cs.length) cap0)
      have hG2 := hG1.far (p := ⟨V, 0, none⟩) (by simpa using hg0V) (.slice (some ⟨g0, 0, none⟩) (l.length + cs.length) cap0)
      have hT2 := hT1.setCell (p := ⟨V, 0, none⟩) (.inl (by simp)) (.slice (some ⟨g0, 0, none⟩) (l.length + cs.length) cap0)
      have d0 : ((w.setCell ⟨V, 2, none⟩ (.int .i8 0)).setCell ⟨V, 0, none⟩ (.slice (some ⟨g0, 0, none⟩) (l.length + cs.length) cap0)).cell? ⟨V, 0, none⟩ = some (.slice (some ⟨g0, 0, none⟩) (l.length + cs.length) cap0) := by rw [hV2.cell]; rfl
      have hrow : Row8 ((w.setCell ⟨V, 2, none⟩ (.int .i8 0)).setCell ⟨V, 0, none⟩ (.slice (some ⟨g0, 0, none⟩) (l.length + cs.length) cap0)) P o cs := hr.of_block (hT2.block P hPs (by simpa using hPV))
      have hcp := COPY _ g0 cap0 cur.toList hG2 hcl (by omega) hrow
      have HF := Lib.hid (bw_post (v := .slice (some ⟨g0, 0, none⟩) l.length cap0) (n := cs.length) hkv hbg (hT2.mono (by simp [ownL])) hV2 hG2 hcl htk0 (by omega) hcm rfl hn (.inl rfl))
      have b1 : (l.length : Int) ≤ (l.length : Int) + (cs.length : Int) := by omega
      have b2 : ¬ cap0 = l.length := by omega
      have b3 : (l.length : Int) + (cs.length : Int) ≤ (cap0 : Int) := by omega
      have b5 : (l.length : Int) ≤ (cap0 : Int) := by omega
      have b4 : l.length + cs.length - l.length = cs.length := by omega
      generalize hY : (cur.toList.take l.length ++ by8 cs ++ cur.toList.drop (l.length + cs.length)).toArray = Y at hcp HF
      clear COPY h hr hb hb1 hT1 hV2 hG2 hT2 hrow hG1 hG0 hY hg0 htk htk0
      go_enter Tryd.func171, Tryd.ntmps171
      go_wp2_with (go_at_call 173; (with_reducible refine TG.out.mono ?_); rintro e w1 ⟨rfl, rfl⟩)
      go_ret2
      exact HF.out
    · have TG := Lib.hid (tryGrow_none V (some ⟨g0, 0, none⟩) l.length cap0 cs.length 0 _ hb1 hnc hcm (by omega))
      have GR := Lib.hid (grow_row V g0 l.length cap0 cs.length cur.toList 0 _ hb1 hG1 hcl hnz hnc hn (by omega) (by omega) (by rw [htk0]; exact by8_one l))
      have HF : Hid (∀ e w1, GrowPost V l.length cs.length (cur.toList.take l.length) 0 (w.setCell ⟨V, 2, none⟩ (.int .i8 0)) e w1 → e = .returned (.int .i64 (l.length : Int)) ∧ ∃ g cap, l.length + cs.length ≤ cap ∧ cap ≤ 9223372036854775807 ∧ w1.cell? ⟨V, 0, none⟩ = some (.slice (some ⟨g, 0, none⟩) (l.length + cs.length) cap) ∧
          ∃ W, (Builtin.copy_ #[22, 22] 3 #[.slice (some ⟨g, l.length, none⟩) cs.length (cap - l.length), .slice (some ⟨P, o, none⟩) cs.length c]).run Tryd.prog w1 = .ok (goInt cs.length) W ∧ Hid (BWPost K V (.slice (some ⟨g0, 0, none⟩) l.length cap0) l cs w (.returned (.tuple #[.int .i64 (cs.length : Int), .nilIface])) W)) := by
        rintro e w1 ⟨rfl, g, cap, cells, hg, hV, hG, hc, hx, hln, hm, hT⟩
        have hm' := hm
        unfold maxLen at hm'
        have hT2 : Turned [V] w w1 := hT1.trans hT
        have hgs : w.heap.size ≤ g := by simpa [World.setCell] using hg
        have hrow : Row8 w1 P o cs := hr.of_block (hT2.block P hPs (by simpa using hPV))
        exact ⟨rfl, g, cap, hln, hm', by rw [hV.cell]; rfl, _, COPY w1 g cap cells hG hc hln hrow, bw_post (v := .slice (some ⟨g0, 0, none⟩) l.length cap0) (n := cs.length) hkv (by omega) (hT2.mono (by simp [ownL])) hV hG hc (by rw [hx, htk0]) hln hm rfl hn (.inr hgs)⟩
      have b1 : (l.length : Int) ≤ (l.length : Int) + (cs.length : Int) := by omega
      have b4 : l.length + cs.length - l.length = cs.length := by omega
      clear COPY h hr hb hb1 hT1 hG1 hG0 hg0 htk htk0
      go_enter Tryd.func171, Tryd.ntmps171
      go_wp2_with (first | (go_at_call 173; (with_reducible refine TG.out.mono ?_); rintro e w1 ⟨rfl, rfl⟩) | (go_at_call 174; (with_reducible refine GR.out.mono ?_); intro e w1 hP; obtain ⟨rfl, g, cap, hnc2, hcm2, d0, W, hcp, hF⟩ := HF.out _ _ hP; clear hP; have b2 : ¬ cap = l.length := (by omega)))
      go_ret2
      exact hF.out

theorem bufBytes_any (K V : Nat) (v : Value) (l : List UInt8) (w : World) (h : BufAt w K V v l) (hl : l.length ≤ 1073741824) :
    Calls Tryd.prog 58 #[.pointer (some ⟨V, 0, none⟩)] w fun e w' => e = .returned v ∧ ∃ q, w' = w.drewN q := by
  obtain ⟨lr, hb⟩ := h.blk
  have c1 : w.cell? ⟨V, 1, none⟩ = some (.int .i64 0) := by rw [hb.cell]; rfl
  have c0 : w.cell? ⟨V, 0, none⟩ = some v := by rw [hb.cell]; rfl
  rcases h.own.2 with ⟨rfl, _⟩ | ⟨g0, cap0, cur, rfl, _, _, hnc, hcm, _, _⟩
  · clear h hb
    go_enter Tryd.func58, Tryd.ntmps58
    go_wp2_with fail
    go_quiet (fail)
    go_wp2_with fail
    go_ret
    exact ⟨rfl, _, rfl⟩
  · unfold maxLen at hcm
    have b0 : (0 : Int) ≤ (l.length : Int) := by omega
    have b2 : ¬ cap0 = 0 := by
      rcases h.nz with h1 | h1
      · cases h1
      · omega
    clear h hb
    go_enter Tryd.func58, Tryd.ntmps58
    go_wp2_with fail
    go_quiet (fail)
    go_wp2_with fail
    go_ret
    exact ⟨rfl, _, rfl⟩
end Go.Proofs.YthobojpbdeepoaaDoor
