/-
  What came in, at FnFieldsComeBack: slices of strings, 'append([]byte(s), data...)', the errors' kinds. (Printed by wip/gen_comein.py out of other texts.)
-/
import Derived.Test.YthobojpbdeepoaaDoorFnLineWalk
import Derived.Test.YthobojpbdeepoaaDoorDataIn
import Derived.Deep.Strs
import Derived.Stop.Asserts
import Derived.Lib.UnsafeStr
import Derived.Lib.IfaceEq
import Derived.Lib.BufferWrite
import Derived.Lib.Walk
import Derived.Laws.MakeOwn
import Derived.Deep.RegionWith
namespace Go.Proofs.YthobojpbdeepoaaDoor
open Go.RowKit Go.ChangeShapes Go.WideShapes

theorem lst_append (a b : ByteArray) : lst (a ++ b) = lst a ++ lst b := by unfold lst; rw [ByteArray.data_append, Array.toList_append]
theorem conv_str8 (w : World) (s : ByteArray) : (convert 9 22 (.string s)).run Tryd.prog w = .ok (.slice (some ⟨w.heap.size, 0, none⟩) s.size (grownCap w s.size 0 5)) (Lib.bytesWorld w 5 s) :=
  Lib.run_convert_string_bytes w 9 22 5 s Tryd.underlying9 Tryd.underlying22 Tryd.underlying5
theorem turned_bytes (w : World) (e : TypeId) (s : ByteArray) : Turned [] w (Lib.bytesWorld w e s) := Turned.of_below (bytes_below w e s)
theorem DataAt.keep {w w' : World} {p : Option Addr} {l : List UInt8} (h : DataAt w p l) (hT : Turned [] w w') : DataAt w' p l := by
  rcases h with h | ⟨b, off, h1, h2, h3⟩
  · exact .inl h
  · exact .inr ⟨b, off, h1, Nat.lt_of_lt_of_le h2 hT.size, h3.of_block (hT.block b h2 (by simp))⟩
theorem take_add_of {α : Type} {xs : List α} {m : Nat} {x : α} (h : xs[m]? = some x) : xs.take (m + 1) = xs.take m ++ [x] := by
  rw [List.take_add_one, h]; rfl
theorem DataAt.rowP {w : World} {p : Option Addr} {l : List UInt8} (h : DataAt w p l) : RowP w p l := by
  rcases h with rfl | ⟨b, off, rfl, _, hr⟩
  · exact .inl rfl
  · exact .inr ⟨b, off, rfl, hr⟩
/-- What is known of the three sentinels. -/
structure Ends3 (w : World) (K : Nat) (ae fe ue : Addr) : Prop where
  e2 : Ends w K ae fe
  cut : Sent w K 1 ue
  neu : ae ≠ ue
/-- Sentinels, without the full buffer's. -/
structure EndsC (w : World) (K : Nat) (ae ue : Addr) : Prop where
  eof : Sent w K 0 ae
  cut : Sent w K 1 ue
  ne : ae ≠ ue
theorem EndsC.keep {w w' : World} {K : Nat} {ae ue : Addr} (h : EndsC w K ae ue) (hb : Below K w w') : EndsC w' K ae ue := ⟨h.eof.keep hb, h.cut.keep hb, h.ne⟩
theorem Ends3.endsC {w : World} {K : Nat} {ae fe ue : Addr} (h : Ends3 w K ae fe ue) : EndsC w K ae ue := ⟨h.e2.eof, h.cut, h.neu⟩
theorem Ends3.keep {w w' : World} {K : Nat} {ae fe ue : Addr} (h : Ends3 w K ae fe ue) (hb : Below K w w') : Ends3 w' K ae fe ue := ⟨⟨h.e2.eof.keep hb, h.e2.full.keep hb, h.e2.ne⟩, h.cut.keep hb, h.neu⟩
theorem not_code (t : ByteArray) (w : World) : (Instr.typeAssert (.iface 125 (.string t)) 74 131 true).run Tryd.prog w = .ok (.tuple #[.pointer none, .bool false]) w := by kernel_rfl
theorem is_proto (t : ByteArray) (w : World) : (Instr.typeAssert (.iface 125 (.string t)) 74 125 true).run Tryd.prog w = .ok (.tuple #[.string t, .bool true]) w := by kernel_rfl
set_option maxRecDepth 100000 in
theorem kind_proto {K : Nat} {ae ue : Addr} (t : ByteArray) (w : World) (h : EndsC w K ae ue) : Calls Tryd.prog 50 #[.iface 125 (.string t)] w fun e w' => e = .returned (.int .i64 4) ∧ w = w' := by
  have q1 := run_eql_iface_types (P := Tryd.prog) 125 182 (.string t) (.pointer (some ae)) Tryd.underlying74 (by decide) w
  have q2 := run_eql_iface_types (P := Tryd.prog) 125 182 (.string t) (.pointer (some ue)) Tryd.underlying74 (by decide) w
  have q4 : (binOp .eql 74 (.iface 125 (.string t)) .nilIface).run Tryd.prog w = .ok (.bool false) w := by simp [go_sem]
  have i1 := not_code t w
  have i2 := is_proto t w
  have c := h.eof.cell
  have c2 := h.cut.cell
  clear h
  go_enter Tryd.func50, Tryd.ntmps50
  go_wp2_with fail
  go_ret
  exact ⟨rfl, rfl⟩
/-- The cells of a slice. -/
def CellsAt (w : World) (pa : Option Addr) (vs : List Value) : Prop := ∀ i v, vs[i]? = some v → ∃ b off, pa = some ⟨b, off, none⟩ ∧ b < w.heap.size ∧ w.cell? ⟨b, off + i, none⟩ = some v
theorem CellsAt.keep {w w' : World} {pa : Option Addr} {vs : List Value} (h : CellsAt w pa vs) (hT : Turned [] w w') : CellsAt w' pa vs := fun i v hv => by
  obtain ⟨b, off, h1, h2, h3⟩ := h i v hv
  exact ⟨b, off, h1, Nat.lt_of_lt_of_le h2 hT.size, (hT.cell h2 (by simp)).trans h3⟩
def StrsAt (w : World) (pa : Option Addr) (xs : List ByteArray) : Prop := CellsAt w pa (xs.map Value.string)
def BoolsAt (w : World) (pa : Option Addr) (xs : List Bool) : Prop := CellsAt w pa (xs.map Value.bool)
theorem StrsAt.at {w : World} {pa : Option Addr} {xs : List ByteArray} (h : StrsAt w pa xs) {i : Nat} {x : ByteArray} (hx : xs[i]? = some x) : ∃ b off, pa = some ⟨b, off, none⟩ ∧ b < w.heap.size ∧ w.cell? ⟨b, off + i, none⟩ = some (.string x) :=
  h i _ (by rw [List.getElem?_map, hx]; rfl)
theorem BoolsAt.at {w : World} {pa : Option Addr} {xs : List Bool} (h : BoolsAt w pa xs) {i : Nat} {x : Bool} (hx : xs[i]? = some x) : ∃ b off, pa = some ⟨b, off, none⟩ ∧ b < w.heap.size ∧ w.cell? ⟨b, off + i, none⟩ = some (.bool x) :=
  h i _ (by rw [List.getElem?_map, hx]; rfl)
/-- Out of the cells by number. -/
theorem cells_of {w : World} {a : Addr} {len : Nat} {V : Nat → Value} (h : ∀ i, i < len → w.cell? (a.add i) = some (V i)) : CellsAt w (some a) ((List.range len).map V) := by
  intro i v hv
  rw [List.getElem?_map] at hv
  obtain ⟨j, hj, rfl⟩ := Option.map_eq_some_iff.1 hv
  obtain ⟨hi, hij⟩ := List.getElem?_eq_some_iff.1 hj
  rw [List.length_range] at hi
  rw [List.getElem_range] at hij
  subst hij
  have c0 := h 0 (by omega)
  have ci := h i hi
  obtain ⟨b, off, spot⟩ := a
  have e0 : (⟨b, off, spot⟩ : Addr).add 0 = ⟨b, off, spot⟩ := by unfold Addr.add; rw [if_pos rfl]
  rw [e0] at c0
  have hb : b < w.heap.size ∧ spot = none := by
    unfold World.cell? at c0
    split at c0
    · rename_i heq
      refine ⟨?_, ?_⟩
      · rcases Nat.lt_or_ge b w.heap.size with h' | h'
        · exact h'
        · rw [Array.getElem?_eq_none h'] at heq; cases heq
      · cases spot with
        | none => rfl
        | some k => simp at c0
    · cases c0
  obtain ⟨hb, rfl⟩ := hb
  refine ⟨b, off, rfl, hb, ?_⟩
  rw [← ci]
  unfold Addr.add
  split
  · subst_vars; rfl
  · rfl
theorem cells_nil (w : World) (pa : Option Addr) : CellsAt w pa [] := fun i v hv => by simp at hv

/-- A '[]string', as the row reads it. -/
theorem strs_in {H : Type} {enc : TypeId × Value → H} {P : Program} {w : World} {base : Nat} {spare : Nat → Bool} {held : Bool} {t e : TypeId} {fuel : Nat} {pa : Option Addr} {len cap : Nat} {x : DataW H × List MemPlace}
    (ht : P.underlying t = some (.slice e)) (he : P.underlying e = some .string) (hc : P.cellsOf e = 1) (h : DataW.trod enc P w base spare held fuel t [.slice pa len cap] = some x) (hs : ∀ b, spare b = true) :
    ∃ xs : List ByteArray, xs.length = len ∧ StrsAt w pa xs := by
  rcases Go.Deep.open_strs ht he hc h with ⟨h0, _⟩ | ⟨a, l, c, m, Sx, h0, _, hl, _, hm, _, hcell⟩
  · injection h0 with h0
    injection h0 with h1 h2 h3
    subst h2
    exact ⟨[], rfl, cells_nil w pa⟩
  · injection h0 with h0
    injection h0 with h1 h2 h3
    subst h1 h2 h3
    rw [hs a.block, if_pos rfl] at hm
    refine ⟨(List.range len).map Sx, by simp, ?_⟩
    have h4 := cells_of (w := w) (a := a) (len := len) (V := fun i => .string (Sx i)) (fun i hi => (hcell i (by omega)).1)
    unfold StrsAt
    rw [List.map_map]
    exact h4
/-- A '[]bool', as the row reads it. -/
theorem bools_in {H : Type} {enc : TypeId × Value → H} {P : Program} {w : World} {base : Nat} {spare : Nat → Bool} {held : Bool} {t e : TypeId} {fuel : Nat} {pa : Option Addr} {len cap : Nat} {x : DataW H × List MemPlace}
    (ht : P.underlying t = some (.slice e)) (he : P.underlying e = some .bool) (hc : P.cellsOf e = 1) (h : DataW.trod enc P w base spare held fuel t [.slice pa len cap] = some x) (hs : ∀ b, spare b = true) :
    ∃ xs : List Bool, xs.length = len ∧ BoolsAt w pa xs := by
  rcases Go.Deep.open_slice1 ht hc h with ⟨h0, _⟩ | ⟨a, l, c, m, n, V, D, Pl, h0, _, hl, _, hm, _, hx⟩
  · injection h0 with h0
    injection h0 with h1 h2 h3
    subst h2
    exact ⟨[], rfl, cells_nil w pa⟩
  · injection h0 with h0
    injection h0 with h1 h2 h3
    subst h1 h2 h3
    rw [hs a.block, if_pos rfl] at hm
    have each : ∀ i, i < len → ∃ y : Bool, V i = .bool y := fun i hi => by
      obtain ⟨y, h1, _⟩ := DataW.trod_bool he (hx i (by omega)).2
      exact ⟨y, by simpa using h1⟩
    obtain ⟨B, hB⟩ := Go.Deep.choose_lt each
    refine ⟨(List.range len).map B, by simp, ?_⟩
    have h4 := cells_of (w := w) (a := a) (len := len) (V := fun i => .bool (B i)) (fun i hi => by rw [(hx i (by omega)).1, hB i hi])
    unfold BoolsAt
    rw [List.map_map]
    exact h4

set_option maxRecDepth 100000 in
set_option maxHeartbeats 2000000 in
theorem fits2_any (pa : Option Addr) (xs : List ByteArray) (cap : Nat) (w : World) (h : StrsAt w pa xs) :
    Calls Tryd.prog 20 #[.slice pa xs.length cap] w fun e w' => w = w' ∧ ∃ b, e = .returned (.bool b) ∧ (b = true → xs.length ≤ 2147483647 ∧ ∀ x, x ∈ xs → x.size ≤ 2147483647) := by
  by_cases hn : 2147483647 < xs.length
  · have b1 : (2147483647 : Int) < (xs.length : Int) := by omega
    clear h
    go_enter Tryd.func20, Tryd.ntmps20
    go_wp2_with fail
    go_ret
    exact ⟨rfl, false, rfl, fun h => by cases h⟩
  have b1 : ¬ (2147483647 : Int) < (xs.length : Int) := by omega
  have HP := Lib.hid h
  have HN : Hid (xs.length ≤ 2147483647) := by show _ ≤ _; omega
  clear h hn
  go_enter Tryd.func20, Tryd.ntmps20
  go_wp2_with fail
  go_loopg [10] xs.length (fun g i wr => ∃ m : Nat, i = .int .i64 (m : Int) ∧ m ≤ xs.length ∧ wr = w ∧ (∀ x, x ∈ xs.take m → x.size ≤ 2147483647) ∧ xs.length - m ≤ g)
  case atStart => exact ⟨0, rfl, Nat.zero_le _, rfl, (fun x hx => by simp at hx), Nat.le_refl _⟩
  case round =>
    obtain ⟨m, rfl, hm, rfl, hx, hg⟩ := hrel
    have HX := Lib.hid hx
    by_cases hlt : m < xs.length
    · obtain ⟨x, hc⟩ : ∃ x, xs[m]? = some x := ⟨_, List.getElem?_eq_getElem hlt⟩
      obtain ⟨b, off, rfl, _, cc⟩ := HP.out.at hc
      have d0 : (m : Int) < (xs.length : Int) := by omega
      have d1 : (0 : Int) ≤ (m : Int) := by omega
      have e1 : IntKind.i64.wrap ((m : Int) + 1) = (m : Int) + 1 := IntWalk.i64_in _ (by have := HN.out; omega)
      have HT := Lib.hid (take_add_of hc)
      have HG : Hid (xs.length - (m + 1) ≤ gk - 1 ∧ 0 < gk ∧ m + 1 ≤ xs.length) := ⟨by omega, by omega, by omega⟩
      by_cases hl : 2147483647 < x.size
      · have b2 : (2147483647 : Int) < (x.size : Int) := by omega
        clear hx hc
        go_wp2_with fail
        go_ret
        exact ⟨rfl, false, rfl, fun h => by cases h⟩
      · have b2 : ¬ (2147483647 : Int) < (x.size : Int) := by omega
        have HL : Hid (x.size ≤ 2147483647) := by show _ ≤ _; omega
        clear hx hc hl
        go_wp2_with fail
        go_roundg (gk - 1)
        case rel =>
          refine ⟨m + 1, rfl, HG.out.2.2, rfl, ?_, HG.out.1⟩
          rw [HT.out]
          intro y hy
          rcases List.mem_append.1 hy with hy | hy
          · exact HX.out y hy
          · rw [List.mem_singleton.1 hy]; exact HL.out
        case measure => have := HG.out; omega
    · have d0 : ¬ (m : Int) < (xs.length : Int) := by omega
      have HF : Hid (∀ x, x ∈ xs → x.size ≤ 2147483647) := by
        have h1 := HX.out
        rw [List.take_of_length_le (by omega)] at h1
        exact h1
      clear hx
      go_wp2_with fail
      go_ret
      exact ⟨rfl, .inr ⟨rfl, HN.out, HF.out⟩⟩
section
variable {P : Program} (w : World)
theorem storeCells_mark (g o : Nat) (t : TypeId) (fr : Nat × Nat) : ∀ (vs : List Value) (i : Nat) (cur : Array Value) (w : World), w.heap[g]? = some (.cells cur t fr) → cur.size ≤ fr.1 → o + i + vs.length ≤ cur.size → (∀ v ∈ vs, v.oneCell' = true) →
    (storeCells ⟨g, o, none⟩ vs i).run P w = .ok () (w.setRow g (cur.toList.take (o + i) ++ vs ++ cur.toList.drop (o + i + vs.length)).toArray)
  | [], i, cur, w, hg, _, _, _ => by
    simp only [storeCells, List.append_nil, List.length_nil, Nat.add_zero, List.take_append_drop, Array.toArray_toList]
    rw [setRow_self w g cur t fr hg]
    rfl
  | v :: rest, i, cur, w, hg, hm, hl, h1 => by
    have hi : o + i < cur.size := by simp at hl; omega
    have hadd : (⟨g, o, none⟩ : Addr).add i = ⟨g, o + i, none⟩ := by unfold Addr.add; split <;> simp_all
    have hcell : w.cell? ⟨g, o + i, none⟩ = some cur[o + i] := by simp [World.cell?, hg, hi]
    have hfro : w.frozen? ⟨g, o + i, none⟩ = false := by
      obtain ⟨lo, hi'⟩ := fr
      have hm' : cur.size ≤ lo := hm
      have hlo : ¬ lo ≤ o + i := by omega
      simp [World.frozen?, hg, hlo]
    have hst : (store ((⟨g, o, none⟩ : Addr).add i) v).run P w = .ok () (w.setRow g (cur.setIfInBounds (o + i) v)) := by
      rw [hadd, run_store P w _ v _ (h1 v (by simp)), hcell]
      simp [hfro, setCell_eq_setRow w g (o + i) cur t fr v hg]
    have ih := storeCells_mark g o t fr rest (i + 1) (cur.setIfInBounds (o + i) v) (w.setRow g (cur.setIfInBounds (o + i) v)) (setRow_heap w g cur _ t _ hg) (by simpa using hm) (by simp at hl ⊢; omega) (fun x hx => h1 x (by simp [hx]))
    simp only [storeCells, Sem.run_bind, hst, Result.andThen_ok, ih, setRow_setRow]
    congr 3
    have e := list_seg_step cur.toList (o + i) v rest (by simp at hl ⊢; omega)
    simpa [Array.toList_setIfInBounds, Nat.add_assoc] using e

theorem append_room_mark (t ty e : TypeId) (i : TypeInfo) (ht : P.underlying t = some (.slice e)) (hi : P.info? e = some i) (fr : Nat × Nat)
    (g sLen sCap : Nat) (cur : Array Value) (hg : w.heap[g]? = some (.cells cur e fr)) (hm : cur.size ≤ fr.1)
    (a : Addr) (m c : Nat) (news : List Value) (hl : news.length = m * i.size) (hnews : ∀ j u, news[j]? = some u → w.cell? (a.add j) = some u) (h1 : ∀ u ∈ news, u.oneCell' = true)
    (hroom : sLen + m ≤ sCap) (hfit : sLen * i.size + news.length ≤ cur.size) :
    (Builtin.append_ #[t, t] ty #[.slice (some ⟨g, 0, none⟩) sLen sCap, .slice (some a) m c]).run P w =
      .ok (.slice (some ⟨g, 0, none⟩) (sLen + m) sCap) (w.setRow g (cur.toList.take (sLen * i.size) ++ news ++ cur.toList.drop (sLen * i.size + news.length)).toArray) := by
  have hf := run_firstCells_some (P := P) w i.size m a m c news hl hnews
  have hst := storeCells_mark (P := P) g (sLen * i.size) e fr news 0 cur w hg hm (by simpa using hfit) h1
  simp only [Nat.add_zero] at hst
  simp [Builtin.append_, run_underlying ht, sizeOf, typeInfo, hi, Builtin.lenOf, hroom, hf, Addr.add_lit, hst]
theorem append_none_any (t ty e : TypeId) (i : TypeInfo) (ht : P.underlying t = some (.slice e)) (hi : P.info? e = some i) (a : Addr) (sLen sCap : Nat) (hle : sLen ≤ sCap) :
    (Builtin.append_ #[t, t] ty #[.slice (some a) sLen sCap, .slice none 0 0]).run P w = .ok (.slice (some a) sLen sCap) w := by
  simp [Builtin.append_, run_underlying ht, sizeOf, typeInfo, hi, Builtin.lenOf, Builtin.firstCells, loadCells, storeCells, hle]
end

/-- The row of a conversion: the bytes t, at block g, of the length n, as a slice of capacity cap. -/
structure Conv8 (w : World) (g cap : Nat) (t : List UInt8) : Prop where
  row : ∃ cur fr, w.heap[g]? = some (.cells cur 5 fr) ∧ cur.size = cap ∧ cap ≤ fr.1 ∧ cur.toList.take t.length = by8 t
  le : t.length ≤ cap
  lim : t.length ≤ 1073741824
theorem conv8 (w : World) (s : ByteArray) (hs : s.size ≤ 1073741824) : Conv8 (Lib.bytesWorld w 5 s) w.heap.size (grownCap w s.size 0 5) (lst s) := by
  have h1 : (Lib.bytesCells w 5 s).size = grownCap w s.size 0 5 := by
    have h2 := grownCap_ge w s.size 0 5
    unfold Lib.bytesCells
    rw [Array.size_append, Array.size_map, Array.size_replicate]
    have : s.data.size = s.size := rfl
    omega
  refine ⟨⟨_, _, Lib.bytesWorld_at_new w 5 s, h1, by rw [h1]; exact Nat.le_refl _, ?_⟩, by rw [lst_length]; exact grownCap_ge _ _ _ _, by rw [lst_length]; exact hs⟩
  unfold Lib.bytesCells by8 lst
  rw [Array.toList_append, Array.toList_map, List.take_append_of_le_length (by rw [List.length_map]; exact Nat.le_refl _), List.take_of_length_le (by rw [List.length_map]; exact Nat.le_refl _)]

theorem row8_of_take {w : World} {g : Nat} {cur : Array Value} {fr : Nat × Nat} {l : List UInt8} (h : w.heap[g]? = some (.cells cur 5 fr)) (ht : cur.toList.take l.length = by8 l) : Row8 w g 0 l := by
  intro j u hu
  have hj := (List.getElem?_eq_some_iff.1 hu).1
  have h1 : (by8 l)[j]? = some (.int .u8 (u.toNat : Int)) := by8_get hu
  rw [← ht, List.getElem?_take_of_lt hj] at h1
  rw [Nat.zero_add, cell_of_row w g j cur 5 fr h]
  simpa using h1

set_option maxRecDepth 100000 in
/-- 'append' onto such a row. -/
theorem wpList_append_conv {w : World} {ops : Array Oper} {rest : List Oper} {o : Oper} {a : Act} {Q : Exit → Act → World → Prop} (hgd : o.guard = none) (s x : Operand)
    (ho : o.op = .call { callee := .builtin .append, args := #[s, x], argTypes := #[22, 22] }) (g cap : Nat) (t l : List UInt8) (hs : a.eval s = .slice (some ⟨g, 0, none⟩) t.length cap) (hc : Conv8 w g cap t)
    (p : Option Addr) (lc : Nat) (hx : a.eval x = .slice p l.length lc) (hd : DataAt w p l) (hn : p = none → lc = 0) (hlen : t.length + l.length ≤ 1073741824)
    (h : ∀ p' cap' w', DataAt w' p' (t ++ l) → Turned [g] w w' → wpList Tryd.prog ops Q rest (a.put o.dst (.slice p' (t.length + l.length) cap')) w') : wpList Tryd.prog ops Q (o :: rest) a w := by
  obtain ⟨i0, hi, hz0, hz1, hz2⟩ := info_parts u8_info
  obtain ⟨cur, fr, hg, hcs, hfr, htk⟩ := hc.row
  have hle := hc.le
  have hglt : g < w.heap.size := (Array.getElem?_eq_some_iff.1 hg).1
  refine wpList_plain hgd fun K hK => ?_
  have key : ∃ p' cap' w', (Builtin.append_ #[22, 22] o.type #[.slice (some ⟨g, 0, none⟩) t.length cap, .slice p l.length lc]).run Tryd.prog w = .ok (.slice p' (t.length + l.length) cap') w' ∧ DataAt w' p' (t ++ l) ∧ Turned [g] w w' := by
    cases p with
    | none =>
      obtain rfl := hn rfl
      obtain rfl : l = [] := by
        rcases hd with h | ⟨_, _, h, _⟩
        · exact h
        · cases h
      refine ⟨some ⟨g, 0, none⟩, cap, w, append_none_any w 22 o.type 5 i0 Tryd.underlying22 hi ⟨g, 0, none⟩ t.length cap hle, ?_, Turned.refl _ _⟩
      rw [List.append_nil]
      exact .inr ⟨g, 0, rfl, hglt, row8_of_take hg htk⟩
    | some ad =>
      have hnews : ∀ j u, (by8 l)[j]? = some u → w.cell? (ad.add j) = some u := by
        intro j u hj
        rcases hd with rfl | ⟨b, off, h1, _, h3⟩
        · simp [by8] at hj
        · injection h1 with h1
          subst h1
          unfold by8 at hj
          rw [List.getElem?_map] at hj
          obtain ⟨y, hy, rfl⟩ := Option.map_eq_some_iff.1 hj
          have h4 := h3 j y hy
          unfold Addr.add
          split
          · subst_vars; simpa using h4
          · exact h4
      by_cases hroom : t.length + l.length ≤ cap
      · have hr := append_room_mark (P := Tryd.prog) w 22 o.type 5 i0 Tryd.underlying22 hi fr g t.length cap cur hg (by rw [hcs]; exact hfr) ad l.length lc (by8 l) (by rw [by8_length, hz1, Nat.mul_one]) hnews (by8_one l) hroom (by rw [hz1, Nat.mul_one, by8_length, hcs]; exact hroom)
        rw [hz1, Nat.mul_one] at hr
        refine ⟨_, _, _, hr, .inr ⟨g, 0, rfl, ?_, ?_⟩, turned_setRow _ _ _⟩
        · have h1 : (w.setRow g (cur.toList.take t.length ++ by8 l ++ cur.toList.drop (t.length + (by8 l).length)).toArray).heap.size = w.heap.size := by simp [World.setRow]
          rw [h1]; exact hglt
        · refine row8_of_take (setRow_heap w g cur _ 5 fr hg) ?_
          rw [List.toList_toArray, htk, List.length_append]
          have e1 : by8 (t ++ l) = by8 t ++ by8 l := by unfold by8; rw [List.map_append]
          rw [e1, List.take_append_of_le_length (by rw [List.length_append, by8_length, by8_length]; exact Nat.le_refl _), List.take_of_length_le (by rw [List.length_append, by8_length, by8_length]; exact Nat.le_refl _)]
      · have holds : ∀ j u, (by8 t)[j]? = some u → w.cell? ((⟨g, 0, none⟩ : Addr).add j) = some u := by
          intro j u hj
          unfold by8 at hj
          rw [List.getElem?_map] at hj
          obtain ⟨y, hy, rfl⟩ := Option.map_eq_some_iff.1 hj
          have h4 := row8_of_take hg htk j y hy
          unfold Addr.add
          split
          · subst_vars; simpa using h4
          · simpa using h4
        have hr := run_append_grow (P := Tryd.prog) w 22 o.type 5 i0 (.int .u8 0) Tryd.underlying22 hi hz0 ⟨g, 0, none⟩ t.length cap (by8 t) (by rw [by8_length, hz1, Nat.mul_one]) holds ad l.length lc (by8 l) (by rw [by8_length, hz1, Nat.mul_one]) hnews (by omega) (by omega)
          (growslice_fits (by omega) (by rw [hz2]; omega))
        refine ⟨_, _, _, hr, .inr ⟨w.heap.size, 0, rfl, by simp, ?_⟩, ⟨rfl, rfl, rfl, by simp, fun k hk _ => Below.heap_alloc w.drew _ k hk⟩⟩
        refine row8_of_take (heap_alloc_new w.drew _) ?_
        have e1 : by8 (t ++ l) = by8 t ++ by8 l := by unfold by8; rw [List.map_append]
        rw [List.length_append, e1]
        simp only [Array.toList_append, List.append_assoc]
        rw [← List.append_assoc, List.take_append_of_le_length (by rw [List.length_append, by8_length, by8_length]; exact Nat.le_refl _), List.take_of_length_le (by rw [List.length_append, by8_length, by8_length]; exact Nat.le_refl _)]
  obtain ⟨p', cap', w', hr, h2, h3⟩ := key
  unfold Oper.wp execOp
  simp only [ho, resolve, invoke, builtin, Sem.run_bind, Sem.run_pure, Result.andThen_ok, List.map_toArray, List.map_cons, List.map_nil, hs, hx, hr]
  exact hK _ _ (h p' cap' w' h2 h3)
end Go.Proofs.YthobojpbdeepoaaDoor
