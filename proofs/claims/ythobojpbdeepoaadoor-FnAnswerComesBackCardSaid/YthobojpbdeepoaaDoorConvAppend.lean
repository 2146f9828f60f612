/-
  'append([]byte(s), data...)': onto the row that a conversion has laid, whose mark lies behind its cells.
-/
import Derived.Test.YthobojpbdeepoaaDoorRespWalk
import Derived.Test.YthobojpbdeepoaaDoorParts
namespace Go.Proofs.YthobojpbdeepoaaDoor
open Go.RowKit

section
variable {P : Program} (w : World)
theorem storeCells_mark (g o : Nat) (t : TypeId) (fr : Nat × Nat) : ∀ (vs : List Value) (i : Nat) (cur : Array Value) (w : World), w.heap[g]? = some (.cells cur t fr) → cur.size ≤ fr.1 → o + i + vs.length ≤ cur.size → (∀ v ∈ vs, v.oneCell' = true) →
    (storeCells ⟨g, o, none⟩ vs i).run P w = .ok () (w.setRow g (cur.toList.take (o + i) ++ vs ++ cur.toList.drop (o + i + vs.length)).toArray)
  | [], i, cur, w, hg, _, _, _ => by
    simp only [storeCells, List.append_nil, List.length_nil, Nat.add_zero, List.take_append_drop, Array.toArray_toList]
    rw [setRow_self w g cur t fr hg]
    rfl
  | v :: rest, i, cur, w, hg, hm, hl, h1 => by
    have hi : o + i < cur.size := by simp at hl; omega
    have hadd : (⟨g, o, none⟩ : Addr).add i = ⟨g, o + i, none⟩ := by unfold Addr.add; split <;> simp_all
    have hcell : w.cell? ⟨g, o + i, none⟩ = some cur[o + i] := by simp [World.cell?, hg, hi]
    have hfro : w.frozen? ⟨g, o + i, none⟩ = false := by
      obtain ⟨lo, hi'⟩ := fr
      have hm' : cur.size ≤ lo := hm
      have hlo : ¬ lo ≤ o + i := by omega
      simp [World.frozen?, hg, hlo]
    have hst : (store ((⟨g, o, none⟩ : Addr).add i) v).run P w = .ok () (w.setRow g (cur.setIfInBounds (o + i) v)) := by
      rw [hadd, run_store P w _ v _ (h1 v (by simp)), hcell]
      simp [hfro, setCell_eq_setRow w g (o + i) cur t fr v hg]
    have ih := storeCells_mark g o t fr rest (i + 1) (cur.setIfInBounds (o + i) v) (w.setRow g (cur.setIfInBounds (o + i) v)) (setRow_heap w g cur _ t _ hg) (by simpa using hm) (by simp at hl ⊢; omega) (fun x hx => h1 x (by simp [hx]))
    simp only [storeCells, Sem.run_bind, hst, Result.andThen_ok, ih, setRow_setRow]
    congr 3
    have e := list_seg_step cur.toList (o + i) v rest (by simp at hl ⊢; omega)
    simpa [Array.toList_setIfInBounds, Nat.add_assoc] using e

theorem append_room_mark (t ty e : TypeId) (i : TypeInfo) (ht : P.underlying t = some (.slice e)) (hi : P.info? e = some i) (fr : Nat × Nat)
    (g sLen sCap : Nat) (cur : Array Value) (hg : w.heap[g]? = some (.cells cur e fr)) (hm : cur.size ≤ fr.1)
    (a : Addr) (m c : Nat) (news : List Value) (hl : news.length = m * i.size) (hnews : ∀ j u, news[j]? = some u → w.cell? (a.add j) = some u) (h1 : ∀ u ∈ news, u.oneCell' = true)
    (hroom : sLen + m ≤ sCap) (hfit : sLen * i.size + news.length ≤ cur.size) :
    (Builtin.append_ #[t, t] ty #[.slice (some ⟨g, 0, none⟩) sLen sCap, .slice (some a) m c]).run P w =
      .ok (.slice (some ⟨g, 0, none⟩) (sLen + m) sCap) (w.setRow g (cur.toList.take (sLen * i.size) ++ news ++ cur.toList.drop (sLen * i.size + news.length)).toArray) := by
  have hf := run_firstCells_some (P := P) w i.size m a m c news hl hnews
  have hst := storeCells_mark (P := P) g (sLen * i.size) e fr news 0 cur w hg hm (by simpa using hfit) h1
  simp only [Nat.add_zero] at hst
  simp [Builtin.append_, run_underlying ht, sizeOf, typeInfo, hi, Builtin.lenOf, hroom, hf, Addr.add_lit, hst]
theorem append_none_any (t ty e : TypeId) (i : TypeInfo) (ht : P.underlying t = some (.slice e)) (hi : P.info? e = some i) (a : Addr) (sLen sCap : Nat) (hle : sLen ≤ sCap) :
    (Builtin.append_ #[t, t] ty #[.slice (some a) sLen sCap, .slice none 0 0]).run P w = .ok (.slice (some a) sLen sCap) w := by
  simp [Builtin.append_, run_underlying ht, sizeOf, typeInfo, hi, Builtin.lenOf, Builtin.firstCells, loadCells, storeCells, hle]
end

/-- The row of a conversion: the bytes t, at block g, of the length n, as a slice of capacity cap. -/
structure Conv8 (w : World) (g cap : Nat) (t : List UInt8) : Prop where
  row : ∃ cur fr, w.heap[g]? = some (.cells cur 5 fr) ∧ cur.size = cap ∧ cap ≤ fr.1 ∧ cur.toList.take t.length = by8 t
  le : t.length ≤ cap
  lim : t.length ≤ 1073741824
theorem conv8 (w : World) (s : ByteArray) (hs : s.size ≤ 1073741824) : Conv8 (Lib.bytesWorld w 5 s) w.heap.size (grownCap w s.size 0 5) (lst s) := by
  have h1 : (Lib.bytesCells w 5 s).size = grownCap w s.size 0 5 := by
    have h2 := grownCap_ge w s.size 0 5
    unfold Lib.bytesCells
    rw [Array.size_append, Array.size_map, Array.size_replicate]
    have : s.data.size = s.size := rfl
    omega
  refine ⟨⟨_, _, Lib.bytesWorld_at_new w 5 s, h1, by rw [h1]; exact Nat.le_refl _, ?_⟩, by rw [lst_length]; exact grownCap_ge _ _ _ _, by rw [lst_length]; exact hs⟩
  unfold Lib.bytesCells by8 lst
  rw [Array.toList_append, Array.toList_map, List.take_append_of_le_length (by rw [List.length_map]; exact Nat.le_refl _), List.take_of_length_le (by rw [List.length_map]; exact Nat.le_refl _)]

theorem row8_of_take {w : World} {g : Nat} {cur : Array Value} {fr : Nat × Nat} {l : List UInt8} (h : w.heap[g]? = some (.cells cur 5 fr)) (ht : cur.toList.take l.length = by8 l) : Row8 w g 0 l := by
  intro j u hu
  have hj := (List.getElem?_eq_some_iff.1 hu).1
  have h1 : (by8 l)[j]? = some (.int .u8 (u.toNat : Int)) := by8_get hu
  rw [← ht, List.getElem?_take_of_lt hj] at h1
  rw [Nat.zero_add, cell_of_row w g j cur 5 fr h]
  simpa using h1

set_option maxRecDepth 100000 in
/-- 'append' onto such a row. -/
theorem wpList_append_conv {w : World} {ops : Array Oper} {rest : List Oper} {o : Oper} {a : Act} {Q : Exit → Act → World → Prop} (hgd : o.guard = none) (s x : Operand)
    (ho : o.op = .call { callee := .builtin .append, args := #[s, x], argTypes := #[22, 22] }) (g cap : Nat) (t l : List UInt8) (hs : a.eval s = .slice (some ⟨g, 0, none⟩) t.length cap) (hc : Conv8 w g cap t)
    (p : Option Addr) (lc : Nat) (hx : a.eval x = .slice p l.length lc) (hd : DataAt w p l) (hn : p = none → lc = 0) (hlen : t.length + l.length ≤ 1073741824)
    (h : ∀ p' cap' w', DataAt w' p' (t ++ l) → Turned [g] w w' → wpList Tryd.prog ops Q rest (a.put o.dst (.slice p' (t.length + l.length) cap')) w') : wpList Tryd.prog ops Q (o :: rest) a w := by
  obtain ⟨i0, hi, hz0, hz1, hz2⟩ := info_parts u8_info
  obtain ⟨cur, fr, hg, hcs, hfr, htk⟩ := hc.row
  have hle := hc.le
  have hglt : g < w.heap.size := (Array.getElem?_eq_some_iff.1 hg).1
  refine wpList_plain hgd fun K hK => ?_
  have key : ∃ p' cap' w', (Builtin.append_ #[22, 22] o.type #[.slice (some ⟨g, 0, none⟩) t.length cap, .slice p l.length lc]).run Tryd.prog w = .ok (.slice p' (t.length + l.length) cap') w' ∧ DataAt w' p' (t ++ l) ∧ Turned [g] w w' := by
    cases p with
    | none =>
      obtain rfl := hn rfl
      obtain rfl : l = [] := by
        rcases hd with h | ⟨_, _, h, _⟩
        · exact h
        · cases h
      refine ⟨some ⟨g, 0, none⟩, cap, w, append_none_any w 22 o.type 5 i0 Tryd.underlying22 hi ⟨g, 0, none⟩ t.length cap hle, ?_, Turned.refl _ _⟩
      rw [List.append_nil]
      exact .inr ⟨g, 0, rfl, hglt, row8_of_take hg htk⟩
    | some ad =>
      have hnews : ∀ j u, (by8 l)[j]? = some u → w.cell? (ad.add j) = some u := by
        intro j u hj
        rcases hd with rfl | ⟨b, off, h1, _, h3⟩
        · simp [by8] at hj
        · injection h1 with h1
          subst h1
          unfold by8 at hj
          rw [List.getElem?_map] at hj
          obtain ⟨y, hy, rfl⟩ := Option.map_eq_some_iff.1 hj
          have h4 := h3 j y hy
          unfold Addr.add
          split
          · subst_vars; simpa using h4
          · exact h4
      by_cases hroom : t.length + l.length ≤ cap
      · have hr := append_room_mark (P := Tryd.prog) w 22 o.type 5 i0 Tryd.underlying22 hi fr g t.length cap cur hg (by rw [hcs]; exact hfr) ad l.length lc (by8 l) (by rw [by8_length, hz1, Nat.mul_one]) hnews (by8_one l) hroom (by rw [hz1, Nat.mul_one, by8_length, hcs]; exact hroom)
        rw [hz1, Nat.mul_one] at hr
        refine ⟨_, _, _, hr, .inr ⟨g, 0, rfl, ?_, ?_⟩, turned_setRow _ _ _⟩
        · have h1 : (w.setRow g (cur.toList.take t.length ++ by8 l ++ cur.toList.drop (t.length + (by8 l).length)).toArray).heap.size = w.heap.size := by simp [World.setRow]
          rw [h1]; exact hglt
        · refine row8_of_take (setRow_heap w g cur _ 5 fr hg) ?_
          rw [List.toList_toArray, htk, List.length_append]
          have e1 : by8 (t ++ l) = by8 t ++ by8 l := by unfold by8; rw [List.map_append]
          rw [e1, List.take_append_of_le_length (by rw [List.length_append, by8_length, by8_length]; exact Nat.le_refl _), List.take_of_length_le (by rw [List.length_append, by8_length, by8_length]; exact Nat.le_refl _)]
      · have holds : ∀ j u, (by8 t)[j]? = some u → w.cell? ((⟨g, 0, none⟩ : Addr).add j) = some u := by
          intro j u hj
          unfold by8 at hj
          rw [List.getElem?_map] at hj
          obtain ⟨y, hy, rfl⟩ := Option.map_eq_some_iff.1 hj
          have h4 := row8_of_take hg htk j y hy
          unfold Addr.add
          split
          · subst_vars; simpa using h4
          · simpa using h4
        have hr := run_append_grow (P := Tryd.prog) w 22 o.type 5 i0 (.int .u8 0) Tryd.underlying22 hi hz0 ⟨g, 0, none⟩ t.length cap (by8 t) (by rw [by8_length, hz1, Nat.mul_one]) holds ad l.length lc (by8 l) (by rw [by8_length, hz1, Nat.mul_one]) hnews (by omega) (by omega)
          (growslice_fits (by omega) (by rw [hz2]; omega))
        refine ⟨_, _, _, hr, .inr ⟨w.heap.size, 0, rfl, by simp, ?_⟩, ⟨rfl, rfl, rfl, by simp, fun k hk _ => Below.heap_alloc w.drew _ k hk⟩⟩
        refine row8_of_take (heap_alloc_new w.drew _) ?_
        have e1 : by8 (t ++ l) = by8 t ++ by8 l := by unfold by8; rw [List.map_append]
        rw [List.length_append, e1]
        simp only [Array.toList_append, List.append_assoc]
        rw [← List.append_assoc, List.take_append_of_le_length (by rw [List.length_append, by8_length, by8_length]; exact Nat.le_refl _), List.take_of_length_le (by rw [List.length_append, by8_length, by8_length]; exact Nat.le_refl _)]
  obtain ⟨p', cap', w', hr, h2, h3⟩ := key
  unfold Oper.wp execOp
  simp only [ho, resolve, invoke, builtin, Sem.run_bind, Sem.run_pure, Result.andThen_ok, List.map_toArray, List.map_cons, List.map_nil, hs, hx, hr]
  exact hK _ _ (h p' cap' w' h2 h3)
end Go.Proofs.YthobojpbdeepoaaDoor
