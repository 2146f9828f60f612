/-
  'append' onto a slice without room (always a new row), and onto a row of the call's own, at a step of a region that draws its order.
-/
import Derived.Test.YthobojpbdeepoaaDoorFRow
import Derived.Deep.RegionHeld3
namespace Go.Proofs.YthobojpbdeepoaaDoor
open Go.RowKit

section
variable {P : Program} (w : World)
/-- Onto a slice that has no room: a new row. -/
theorem run_append_full (base : Nat) (t ty e : TypeId) (i : TypeInfo) (z : Value) (size bytes : Nat) (ht : P.underlying t = some (.slice e)) (hi : P.info? e = some i) (hz : i.zero = some z)
    (hsize : i.size = size) (hby : i.bytes = bytes) (hzs : z.cells.size = size) (hsz : 0 < size)
    (p : Option Addr) (n : Nat) (xs : List Value) (hx : xs.length = n * size) (hp : p = none → n = 0) (hcell : ∀ ad, p = some ad → ∀ j u, xs[j]? = some u → w.cell? (ad.add j) = some u)
    (a : Addr) (m c : Nat) (news : List Value) (hl : news.length = m * size) (hm : 0 < m) (hnews : ∀ j u, news[j]? = some u → w.cell? (a.add j) = some u)
    (h1 : ∀ u ∈ news, u.oneCell' = true) (h63 : n + m ≤ maxLen) (hbytes : (n + m) * bytes ≤ 140737488355328) (hbase : base ≤ w.heap.size) :
    ∃ v' w', (Builtin.append_ #[t, t] ty #[.slice p n n, .slice (some a) m c]).run P w = .ok v' w' ∧ w'.ownsRow base e size v' (n + m) (xs ++ news) ∧ w.grownBy w' none := by
  subst hsize
  subst hby
  have hsmall : n + m ≤ 9223372036854775807 := by simp only [maxLen] at h63; omega
  cases p with
  | none =>
    obtain rfl := hp rfl
    have hxs : xs = [] := List.eq_nil_of_length_eq_zero (by simpa using hx)
    subst hxs
    obtain ⟨v', w', e1, e2, e3, _, _⟩ := run_append_own_at (P := P) w base t ty e i z i.size i.bytes ht hi hz rfl rfl hzs hsz (.slice none 0 0) 0 [] (World.ownsRow_nil _ _ _ _) a m c news hl hnews h1 (by omega) (by simpa using hbytes) hbase
    exact ⟨v', w', e1, by simpa using e2, e3⟩
  | some ad =>
    have hrun := run_append_grow (P := P) w t ty e i z ht hi hz ad n n xs hx (hcell ad rfl) a m c news hl hnews (by omega) (by omega) (growslice_fits (by omega) hbytes)
    have hge := grownCap_ge w (n + m) n e
    have hcm : grownCap w (n + m) n e ≤ maxLen := grownCap_le_maxLen w _ _ _ h63
    refine ⟨_, _, hrun, ⟨by rw [List.length_append, hx, hl, Nat.add_mul], .inr ⟨w.heap.size, _, _, rfl, hbase, heap_alloc_new w.drew _, hge, hcm, ?_, ?_⟩⟩, ⟨rfl, rfl, rfl, by simp, fun k hk _ => Below.heap_alloc w.drew _ k hk⟩⟩
    · simp only [Array.size_append, List.size_toArray, size_zeroCells, hzs, hx, hl, ← Nat.add_mul]
      congr 1
      omega
    · simp only [Array.toList_append]
      rw [show (n + m) * i.size = (xs ++ news).length by rw [List.length_append, hx, hl, Nat.add_mul]]
      exact List.take_left

theorem step_append_run {ops : Array Oper} {o : Oper} {a : Act} {K : Act → World → Prop} {Q : Exit → Act → World → Prop} {E : Prop} (hgd : o.guard = none) (s x : Operand) (t : TypeId)
    (ho : o.op = .call { callee := .builtin .append, args := #[s, x], argTypes := #[t, t] }) {v' : Value} {w' : World} (hrun : (Builtin.append_ #[t, t] o.type #[a.eval s, a.eval x]).run P w = .ok v' w') (h : K (a.put o.dst v') w') :
    if Region.wanted o (yielded ops a.tmps) = true then Oper.wp P o a w K Q else E := by
  have hw : Region.wanted o (yielded ops a.tmps) = true := by simp [Region.wanted, hgd]
  rw [if_pos hw]
  unfold Oper.wp execOp
  simp only [ho, resolve, invoke, builtin, Sem.run_bind, Sem.run_pure, Result.andThen_ok, List.map_toArray, List.map_cons, List.map_nil, hrun]
  exact h
theorem wpList_append_run {ops : Array Oper} {rest : List Oper} {o : Oper} {a : Act} {Q : Exit → Act → World → Prop} (hgd : o.guard = none) (s x : Operand) (t : TypeId)
    (ho : o.op = .call { callee := .builtin .append, args := #[s, x], argTypes := #[t, t] }) {v' : Value} {w' : World} (hrun : (Builtin.append_ #[t, t] o.type #[a.eval s, a.eval x]).run P w = .ok v' w') (h : wpList P ops Q rest (a.put o.dst v') w') :
    wpList P ops Q (o :: rest) a w := by
  refine wpList_plain hgd fun K hK => ?_
  unfold Oper.wp execOp
  simp only [ho, resolve, invoke, builtin, Sem.run_bind, Sem.run_pure, Result.andThen_ok, List.map_toArray, List.map_cons, List.map_nil, hrun]
  exact hK _ _ h
/-- Onto a row of the call's own; the source may be nil. -/
theorem step_append_cells {ops : Array Oper} {o : Oper} {a : Act} {K : Act → World → Prop} {Q : Exit → Act → World → Prop} {E : Prop} (hgd : o.guard = none) (s x : Operand) (t : TypeId)
    (ho : o.op = .call { callee := .builtin .append, args := #[s, x], argTypes := #[t, t] })
    (base : Nat) (e : TypeId) (i : TypeInfo) (z : Value) (size bytes : Nat) (ht : P.underlying t = some (.slice e)) (hi : P.info? e = some i) (hz : i.zero = some z)
    (hsize : i.size = size) (hby : i.bytes = bytes) (hzs : z.cells.size = size) (hsz : 0 < size)
    (v : Value) (n : Nat) (xs : List Value) (hs : a.eval s = v) (hown : w.ownsRow base e size v n xs)
    (ao : Option Addr) (m c : Nat) (news : List Value) (hx : a.eval x = .slice ao m c) (hl : news.length = m * size) (hnone : ao = none → m = 0 ∧ c = 0)
    (hnews : ∀ ad, ao = some ad → ∀ j u, news[j]? = some u → w.cell? (ad.add j) = some u) (h1 : ∀ u ∈ news, u.oneCell' = true)
    (h63 : n + m ≤ maxLen) (hbytes : (n + m) * bytes ≤ 140737488355328) (hbase : base ≤ w.heap.size)
    (h : ∀ v' w', w'.ownsRow base e size v' (n + m) (xs ++ news) → w.grownBy w' v.ownBlock → (v'.ownBlock = v.ownBlock ∨ v'.ownBlock = some w.heap.size) → K (a.put o.dst v') w') :
    if Region.wanted o (yielded ops a.tmps) = true then Oper.wp P o a w K Q else E := by
  cases ao with
  | some ad =>
    obtain ⟨v', w', hr, h2, h3, _, h5⟩ := run_append_own_at (P := P) w base t o.type e i z size bytes ht hi hz hsize hby hzs hsz v n xs hown ad m c news hl (hnews ad rfl) h1 h63 hbytes hbase
    exact step_append_run w hgd s x t ho (by rw [hs, hx]; exact hr) (h v' w' h2 h3 h5)
  | none =>
    obtain ⟨rfl, rfl⟩ := hnone rfl
    have hn : news = [] := List.eq_nil_of_length_eq_zero (by simpa using hl)
    subst hn
    exact step_append_run w hgd s x t ho (by rw [hs, hx]; exact run_append_owned_none (P := P) w base t o.type e i size ht hi v n xs hown) (h v w (by simpa using hown) (World.grownBy.refl _ _) (.inl rfl))
/-- Onto a slice without room. -/
theorem step_append_full {ops : Array Oper} {o : Oper} {a : Act} {K : Act → World → Prop} {Q : Exit → Act → World → Prop} {E : Prop} (hgd : o.guard = none) (s x : Operand) (t : TypeId)
    (ho : o.op = .call { callee := .builtin .append, args := #[s, x], argTypes := #[t, t] })
    (base : Nat) (e : TypeId) (i : TypeInfo) (z : Value) (size bytes : Nat) (ht : P.underlying t = some (.slice e)) (hi : P.info? e = some i) (hz : i.zero = some z)
    (hsize : i.size = size) (hby : i.bytes = bytes) (hzs : z.cells.size = size) (hsz : 0 < size)
    (p : Option Addr) (n : Nat) (xs : List Value) (hs : a.eval s = .slice p n n) (hxl : xs.length = n * size) (hp : p = none → n = 0) (hcell : ∀ ad, p = some ad → ∀ j u, xs[j]? = some u → w.cell? (ad.add j) = some u)
    (ad : Addr) (m c : Nat) (news : List Value) (hx : a.eval x = .slice (some ad) m c) (hl : news.length = m * size) (hm : 0 < m)
    (hnews : ∀ j u, news[j]? = some u → w.cell? (ad.add j) = some u) (h1 : ∀ u ∈ news, u.oneCell' = true)
    (h63 : n + m ≤ maxLen) (hbytes : (n + m) * bytes ≤ 140737488355328) (hbase : base ≤ w.heap.size)
    (h : ∀ v' w', w'.ownsRow base e size v' (n + m) (xs ++ news) → w.grownBy w' none → K (a.put o.dst v') w') :
    if Region.wanted o (yielded ops a.tmps) = true then Oper.wp P o a w K Q else E := by
  obtain ⟨v', w', hr, h2, h3⟩ := run_append_full (P := P) w base t o.type e i z size bytes ht hi hz hsize hby hzs hsz p n xs hxl hp hcell ad m c news hl hm hnews h1 h63 hbytes hbase
  exact step_append_run w hgd s x t ho (by rw [hs, hx]; exact hr) (h v' w' h2 h3)
end
end Go.Proofs.YthobojpbdeepoaaDoor
