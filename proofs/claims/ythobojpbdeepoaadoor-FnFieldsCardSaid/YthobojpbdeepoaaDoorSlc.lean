/-
  Slices of texts in memory: nil, or cells that hold the texts; room behind them only in a row of the call's own. What an append leaves.
-/
import Derived.Test.YthobojpbdeepoaaDoorTurn
import Derived.Maps.AppendAt
import Derived.Laws.OwnMore
namespace Go.Proofs.YthobojpbdeepoaaDoor
open Go.RowKit

/-- A text as a value. -/
def tv (l : List UInt8) : Value := .string ⟨l.toArray⟩
theorem tv_inj {a b : List UInt8} (h : tv a = tv b) : a = b := by
  unfold tv at h
  injection h with h
  have := congrArg lst h
  rwa [lst_mk, lst_mk] at this
theorem tv_of (s : ByteArray) : tv (lst s) = .string s := by unfold tv; rw [mk_lst]
theorem tv_one (l : List UInt8) : (tv l).oneCell' = true := rfl

/-- The block that an append may write. -/
def roomOf : Value → Option Nat
  | .slice (some a) n c => if n < c then some a.block else none
  | _ => none
theorem room_slice (a : Addr) (n c : Nat) : roomOf (.slice (some a) n c) = if n < c then some a.block else none := rfl
theorem room_own {v : Value} {g : Nat} (h : roomOf v = some g) : v.ownBlock = some g := by
  unfold roomOf at h
  split at h
  · split at h
    · exact h
    · cases h
  · cases h

/-- The slice v reads as these texts. -/
def SV (w : World) (base : Nat) (v : Value) (zs : List (List UInt8)) : Prop :=
  (v = .slice none 0 0 ∧ zs = []) ∨ ∃ g off c, v = .slice (some ⟨g, off, none⟩) zs.length c ∧ zs.length ≤ c ∧ base ≤ g ∧ g < w.heap.size ∧
    (∀ j z, zs[j]? = some z → w.cell? ⟨g, off + j, none⟩ = some (tv z)) ∧ (zs.length < c → off = 0 ∧ c ≤ maxLen ∧ ∃ cur : Array Value, w.heap[g]? = some (.cells cur 9 (0, 0)) ∧ cur.size = c)

section
variable {w w' : World} {base : Nat} {v v' : Value} {zs : List (List UInt8)}
theorem SV.nil (w : World) (base : Nat) : SV w base (.slice none 0 0) [] := .inl ⟨rfl, rfl⟩
theorem SV.form (h : SV w base v zs) : ∃ p c, v = .slice p zs.length c ∧ (p = none → zs = [] ∧ c = 0) ∧ ∀ j z, zs[j]? = some z → ∃ g off, p = some ⟨g, off, none⟩ ∧ g < w.heap.size ∧ w.cell? ⟨g, off + j, none⟩ = some (tv z) := by
  rcases h with ⟨rfl, rfl⟩ | ⟨g, off, c, rfl, hc, hb, hg, hcell, _⟩
  · exact ⟨none, 0, rfl, (fun _ => ⟨rfl, rfl⟩), fun j z hj => by simp at hj⟩
  · exact ⟨_, c, rfl, (fun h => by cases h), fun j z hj => ⟨g, off, rfl, hg, hcell j z hj⟩⟩
theorem SV.lt (h : SV w base v zs) : ∀ g, v.ownBlock = some g → base ≤ g ∧ g < w.heap.size := by
  rcases h with ⟨rfl, _⟩ | ⟨g, off, c, rfl, hc, hb, hg, _⟩
  · intro g hg; cases hg
  · intro g' hg'
    simp only [Value.ownBlock, Option.some.injEq] at hg'
    subst hg'
    exact ⟨hb, hg⟩
theorem SV.mono {base' : Nat} (h : SV w base v zs) (hb : base' ≤ base) : SV w base' v zs := by
  rcases h with h | ⟨g, off, c, h1, h2, h3, h4⟩
  · exact .inl h
  · exact .inr ⟨g, off, c, h1, h2, Nat.le_trans hb h3, h4⟩
/-- The block is as it was. -/
theorem SV.keep (h : SV w base v zs) (hsz : w.heap.size ≤ w'.heap.size) (hb : ∀ g, v.ownBlock = some g → w'.heap[g]? = w.heap[g]?) : SV w' base v zs := by
  rcases h with h | ⟨g, off, c, rfl, hc, hbb, hg, hcell, hr⟩
  · exact .inl h
  · have e := hb g rfl
    refine .inr ⟨g, off, c, rfl, hc, hbb, by omega, fun j z hj => (World.cell?_of_block (w := w) e).trans (hcell j z hj), fun hlt => ?_⟩
    obtain ⟨h1, h2, cur, h3, h4⟩ := hr hlt
    exact ⟨h1, h2, cur, e.trans h3, h4⟩
theorem SV.turned {S : List Nat} (h : SV w base v zs) (ht : Turned S w w') (hn : ∀ g, v.ownBlock = some g → g ∉ S) : SV w' base v zs :=
  h.keep ht.size fun g hg => ht.block g (h.lt g hg).2 (hn g hg)
theorem SV.grown {row : Option Nat} (h : SV w base v zs) (hg : w.grownBy w' row) (hn : ∀ g, v.ownBlock = some g → row ≠ some g) : SV w' base v zs :=
  h.keep hg.size fun g hb => hg.block g (h.lt g hb).2 (fun e => hn g hb e.symm)
theorem SV.drewN (h : SV w base v zs) (n : Nat) : SV (w.drewN n) base v zs := h
/-- A cell that is none of its own is written. -/
theorem SV.setCell (h : SV w base v zs) {b o : Nat} (u : Value) (hn : ∀ g off n c, v = .slice (some ⟨g, off, none⟩) n c → g = b → off + n ≤ o ∧ roomOf v = none) : SV (w.setCell ⟨b, o, none⟩ u) base v zs := by
  rcases h with h | ⟨g, off, c, rfl, hc, hbb, hg, hcell, hr⟩
  · exact .inl h
  · refine .inr ⟨g, off, c, rfl, hc, hbb, by simpa [World.setCell] using hg, fun j z hj => ?_, fun hlt => ?_⟩
    · rw [World.cell?_setCell_other]
      · exact hcell j z hj
      · intro e
        injection e with e1 e2
        have := (hn g off _ c rfl e1.symm).1
        have hjl := (List.getElem?_eq_some_iff.1 hj).1
        omega
    · have hgb : g ≠ b := by
        intro e
        have := (hn g off _ c rfl e).2
        rw [room_slice, if_pos hlt] at this
        cases this
      obtain ⟨h1, h2, cur, h3, h4⟩ := hr hlt
      exact ⟨h1, h2, cur, (Below.heap_setCell w ⟨b, o, none⟩ u g hgb).trans h3, h4⟩
theorem SV.of_own (h : w.ownsRow base 9 1 v zs.length (zs.map tv)) : SV w base v zs := by
  have hlt := h.lt
  obtain ⟨h1, h2⟩ := h
  rcases h2 with ⟨rfl, h0⟩ | ⟨g, cap, cur, rfl, hb, hg, hn, hm, hs, ht⟩
  · exact .inl ⟨rfl, List.length_eq_zero_iff.1 h0⟩
  · refine .inr ⟨g, 0, cap, rfl, hn, hb, (hlt g rfl).2, fun j z hj => ?_, fun _ => ⟨rfl, hm, cur, hg, by simpa using hs⟩⟩
    rw [Nat.zero_add, cell_of_row w g j cur _ _ hg]
    have hjl := (List.getElem?_eq_some_iff.1 hj).1
    have h3 : (cur.toList.take (zs.length * 1))[j]? = some (tv z) := by rw [ht, List.getElem?_map, hj]; rfl
    rw [List.getElem?_take] at h3
    split at h3
    · simpa using h3
    · cases h3
theorem SV.own (h : SV w base v zs) (hr : roomOf v ≠ none) : w.ownsRow base 9 1 v zs.length (zs.map tv) := by
  rcases h with ⟨rfl, rfl⟩ | ⟨g, off, c, rfl, hc, hb, hg, hcell, hrow⟩
  · exact World.ownsRow_nil _ _ _ _
  · have hlt : zs.length < c := by
      rw [room_slice] at hr
      rcases Nat.lt_or_ge zs.length c with h | h
      · exact h
      · rw [if_neg (by omega)] at hr
        exact absurd rfl hr
    obtain ⟨rfl, hm, cur, hcur, hsz⟩ := hrow hlt
    refine ⟨by simp, .inr ⟨g, c, cur, rfl, hb, hcur, hc, hm, by simpa using hsz, ?_⟩⟩
    rw [Nat.mul_one]
    apply List.ext_getElem?
    intro j
    rw [List.getElem?_take, List.getElem?_map]
    split
    · rename_i hj
      have := hcell j _ (List.getElem?_eq_getElem hj)
      rw [Nat.zero_add, cell_of_row w g j cur _ _ hcur] at this
      rw [List.getElem?_eq_getElem hj]
      simpa using this
    · rename_i hj
      rw [List.getElem?_eq_none (by omega)]; rfl
end

/-- 'append' of texts onto such a slice: into its room, or into a new block. -/
theorem run_append_sv {P : Program} (w : World) (base : Nat) (t ty : TypeId) (i : TypeInfo) (z : Value) (ht : P.underlying t = some (.slice 9)) (hi : P.info? 9 = some i) (hz : i.zero = some z)
    (hsize : i.size = 1) (hby : i.bytes = 16) (hzs : z.cells.size = 1) (v : Value) (zs : List (List UInt8)) (h : SV w base v zs)
    (a : Addr) (c : Nat) (ys : List (List UInt8)) (hy : ys ≠ []) (hnews : ∀ j u, ys[j]? = some u → w.cell? (a.add j) = some (tv u)) (h63 : zs.length + ys.length ≤ 1048576) (hbase : base ≤ w.heap.size) :
    ∃ v' w', (Builtin.append_ #[t, t] ty #[v, .slice (some a) ys.length c]).run P w = .ok v' w' ∧ SV w' base v' (zs ++ ys) ∧ w.grownBy w' (roomOf v) ∧ (v'.ownBlock = some w.heap.size ∨ ∃ g, roomOf v = some g ∧ v'.ownBlock = some g) := by
  have hl : (ys.map tv).length = ys.length * 1 := by simp
  have hyl : 0 < ys.length := List.length_pos_iff.2 hy
  have hn : ∀ j u, (ys.map tv)[j]? = some u → w.cell? (a.add j) = some u := by
    intro j u hj
    rw [List.getElem?_map] at hj
    obtain ⟨x, hx, rfl⟩ := Option.map_eq_some_iff.1 hj
    exact hnews j x hx
  have h1 : ∀ u ∈ ys.map tv, u.oneCell' = true := by
    intro u hu
    obtain ⟨x, _, rfl⟩ := List.mem_map.1 hu
    rfl
  have happ : (zs ++ ys).map tv = zs.map tv ++ ys.map tv := List.map_append
  have hlen : (zs ++ ys).length = zs.length + ys.length := List.length_append
  by_cases hr : roomOf v = none
  · rcases h with ⟨rfl, rfl⟩ | ⟨g, off, cc, rfl, hc, hb, hg, hcell, hrow⟩
    · obtain ⟨v', w', e1, e2, e3, e4, e5⟩ := run_append_own_at (P := P) w base t ty 9 i z 1 16 ht hi hz hsize hby hzs (by decide) (.slice none 0 0) 0 [] (World.ownsRow_nil _ _ _ _) a ys.length c (ys.map tv) hl hn h1 (by unfold maxLen; omega) (by omega) hbase
      refine ⟨v', w', e1, SV.of_own (by rw [List.nil_append]; simpa using e2), e3, ?_⟩
      rcases e5 with e5 | e5
      · exfalso
        rcases e2.2 with ⟨_, h0⟩ | ⟨g, cap, cur, rfl, _⟩
        · omega
        · cases e5
      · exact .inl e5
    · have hcl : cc = zs.length := by
        rw [room_slice] at hr
        split at hr
        · cases hr
        · omega
      subst hcl
      have ho : ∀ j u, (zs.map tv)[j]? = some u → w.cell? ((⟨g, off, none⟩ : Addr).add j) = some u := by
        intro j u hj
        rw [List.getElem?_map] at hj
        obtain ⟨x, hx, rfl⟩ := Option.map_eq_some_iff.1 hj
        have := hcell j x hx
        unfold Addr.add
        split
        · subst_vars; exact this
        · exact this
      have hrun := run_append_grow (P := P) w t ty 9 i z ht hi hz ⟨g, off, none⟩ zs.length zs.length (zs.map tv) (by simp [hsize]) ho a ys.length c (ys.map tv) (by simp [hsize]) hn (by omega) (by omega) (growslice_fits (by omega) (by rw [hby]; omega))
      have hge := grownCap_ge w (zs.length + ys.length) zs.length 9
      have hcm : grownCap w (zs.length + ys.length) zs.length 9 ≤ maxLen := grownCap_le_maxLen w _ _ _ (by unfold maxLen; omega)
      refine ⟨_, _, hrun, ?_, ?_, .inl rfl⟩
      · apply SV.of_own
        rw [happ, hlen]
        refine ⟨by simp, .inr ⟨w.heap.size, _, _, rfl, hbase, heap_alloc_new w.drew _, hge, hcm, ?_, ?_⟩⟩
        · simp only [Array.size_append, List.size_toArray, size_zeroCells, hzs, List.length_map]
          omega
        · simp only [Array.toList_append, Nat.mul_one]
          rw [show zs.length + ys.length = (zs.map tv ++ ys.map tv).length by simp]
          exact List.take_left
      · rw [hr]
        exact ⟨rfl, rfl, rfl, by simp, fun k hk _ => Below.heap_alloc w.drew _ k hk⟩
  · have ho := h.own hr
    obtain ⟨v', w', e1, e2, e3, e4, e5⟩ := run_append_own_at (P := P) w base t ty 9 i z 1 16 ht hi hz hsize hby hzs (by decide) v zs.length (zs.map tv) ho a ys.length c (ys.map tv) hl hn h1 (by unfold maxLen; omega) (by omega) hbase
    obtain ⟨g, hg⟩ := Option.ne_none_iff_exists'.1 hr
    have hb := room_own hg
    refine ⟨v', w', e1, SV.of_own (by rw [happ, hlen]; exact e2), by rw [hg, ← hb]; exact e3, ?_⟩
    rcases e5 with e5 | e5
    · exact .inr ⟨g, hg, by rw [e5, hb]⟩
    · exact .inl e5

theorem run_append_sv_none {P : Program} (w : World) (t ty : TypeId) (i : TypeInfo) (ht : P.underlying t = some (.slice 9)) (hi : P.info? 9 = some i) (pa : Option Addr) (c : Nat) :
    (Builtin.append_ #[t, t] ty #[.slice none 0 0, .slice pa 0 c]).run P w = .ok (.slice none 0 0) w := by
  cases pa <;> simp [Builtin.append_, run_underlying ht, sizeOf, typeInfo, hi, Builtin.lenOf, Builtin.firstCells, loadCells, loadCellsFrom]

section
variable {P : Program} (w : World) {ops : Array Oper} {rest : List Oper} {o : Oper} {a : Act} {Q : Exit → Act → World → Prop}
/-- .. at the operation: one text. -/
theorem wpList_append_sv (hgd : o.guard = none) (s x : Operand) (t : TypeId) (ho : o.op = .call { callee := .builtin .append, args := #[s, x], argTypes := #[t, t] })
    (base : Nat) (i : TypeInfo) (z : Value) (ht : P.underlying t = some (.slice 9)) (hi : P.info? 9 = some i) (hz : i.zero = some z) (hsize : i.size = 1) (hby : i.bytes = 16) (hzs : z.cells.size = 1)
    (v : Value) (zs : List (List UInt8)) (hs : a.eval s = v) (h : SV w base v zs) (ad : Addr) (c : Nat) (y : List UInt8) (hx : a.eval x = .slice (some ad) 1 c) (hnew : w.cell? ad = some (tv y))
    (h63 : zs.length + 1 ≤ 1048576) (hbase : base ≤ w.heap.size)
    (hK : ∀ v' w', SV w' base v' (zs ++ [y]) → w.grownBy w' (roomOf v) → (v'.ownBlock = some w.heap.size ∨ ∃ g, roomOf v = some g ∧ v'.ownBlock = some g) → wpList P ops Q rest (a.put o.dst v') w') :
    wpList P ops Q (o :: rest) a w := by
  refine wpList_plain hgd fun K hK' => ?_
  obtain ⟨v', w', hr, h2, h3, h4⟩ := run_append_sv (P := P) w base t o.type i z ht hi hz hsize hby hzs v zs h ad c [y] (by simp) (fun j u hj => by
    match j, hj with
    | 0, hj =>
      simp at hj
      subst hj
      simpa [Addr.add] using hnew) (by simpa using h63) hbase
  simp only [List.length_singleton] at hr
  unfold Oper.wp execOp
  simp only [ho, resolve, invoke, builtin, Sem.run_bind, Sem.run_pure, Result.andThen_ok, List.map_toArray, List.map_cons, List.map_nil, hs, hx, hr]
  exact hK' _ _ (hK v' w' h2 h3 h4)
/-- .. a copy of a slice, onto nil. -/
theorem wpList_append_copy (hgd : o.guard = none) (s x : Operand) (t : TypeId) (ho : o.op = .call { callee := .builtin .append, args := #[s, x], argTypes := #[t, t] })
    (base base' : Nat) (i : TypeInfo) (z : Value) (ht : P.underlying t = some (.slice 9)) (hi : P.info? 9 = some i) (hz : i.zero = some z) (hsize : i.size = 1) (hby : i.bytes = 16) (hzs : z.cells.size = 1)
    (v : Value) (zs : List (List UInt8)) (hs : a.eval s = .slice none 0 0) (hx : a.eval x = v) (h : SV w base v zs) (h63 : zs.length ≤ 1048576) (hbase : base' ≤ w.heap.size)
    (hK : ∀ v' w', SV w' base' v' zs → w.grownBy w' none → (∀ g, v'.ownBlock = some g → w.heap.size ≤ g) → wpList P ops Q rest (a.put o.dst v') w') :
    wpList P ops Q (o :: rest) a w := by
  refine wpList_plain hgd fun K hK' => ?_
  obtain ⟨p, c, rfl, hp, hcell⟩ := h.form
  unfold Oper.wp execOp
  simp only [ho, resolve, invoke, builtin, Sem.run_bind, Sem.run_pure, Result.andThen_ok, List.map_toArray, List.map_cons, List.map_nil, hs, hx]
  by_cases h0 : zs = []
  · subst h0
    simp only [List.length_nil, run_append_sv_none (P := P) w t o.type i ht hi p c]
    exact hK' _ _ (hK _ _ (SV.nil _ _) ⟨rfl, rfl, rfl, Nat.le_refl _, fun _ _ _ => rfl⟩ (fun g hg => by cases hg))
  · obtain ⟨z0, hz0⟩ : ∃ z0, zs[0]? = some z0 := ⟨_, List.getElem?_eq_getElem (List.length_pos_iff.2 h0)⟩
    obtain ⟨g, off, rfl, _, _⟩ := hcell 0 z0 hz0
    obtain ⟨v', w', hr, h2, h3, h4⟩ := run_append_sv (P := P) w base' t o.type i z ht hi hz hsize hby hzs (.slice none 0 0) [] (SV.nil _ _) ⟨g, off, none⟩ c zs h0 (fun j u hj => by
      obtain ⟨g', off', he, _, hc⟩ := hcell j u hj
      injection he with he
      injection he with e1 e2
      subst e1 e2
      unfold Addr.add
      split
      · subst_vars; exact hc
      · exact hc) (by simpa using h63) hbase
    simp only [hr]
    refine hK' _ _ (hK v' w' (by simpa using h2) h3 (fun g' hg' => ?_))
    rcases h4 with h4 | ⟨x, hx, _⟩
    · rw [h4] at hg'
      cases hg'
      exact Nat.le_refl _
    · cases hx
end
end Go.Proofs.YthobojpbdeepoaaDoor
