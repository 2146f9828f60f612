/-
  Rows of fields in memory: two cells a field.
-/
import Derived.Test.YthobojpbdeepoaaDoorHeadLaw
import Derived.Test.YthobojpbdeepoaaDoorHdrMem
import Derived.OwnWalk
namespace Go.Proofs.YthobojpbdeepoaaDoor
open Go.RowKit

/-- The cells of fields. -/
def fc (l : List Fd) : List Value := l.flatMap fun f => [tv f.1, tv f.2]
theorem fc_nil : fc [] = [] := rfl
theorem fc_cons (f : Fd) (l : List Fd) : fc (f :: l) = tv f.1 :: tv f.2 :: fc l := rfl
theorem fc_append (a b : List Fd) : fc (a ++ b) = fc a ++ fc b := List.flatMap_append
theorem fc_length (l : List Fd) : (fc l).length = l.length * 2 := by
  induction l with
  | nil => rfl
  | cons f l ih => rw [fc_cons, List.length_cons, List.length_cons, ih, List.length_cons]; omega
theorem fc_take (l : List Fd) (m : Nat) : (fc l).take (m * 2) = fc (l.take m) := by
  induction l generalizing m with
  | nil => simp [fc_nil]
  | cons f l ih =>
    cases m with
    | zero => simp [fc_nil]
    | succ m =>
      rw [fc_cons, show (m + 1) * 2 = m * 2 + 1 + 1 by omega, List.take_succ_cons, List.take_succ_cons, ih, List.take_succ_cons, fc_cons]
theorem fc_drop (l : List Fd) (m : Nat) : (fc l).drop (m * 2) = fc (l.drop m) := by
  induction l generalizing m with
  | nil => simp [fc_nil]
  | cons f l ih =>
    cases m with
    | zero => simp
    | succ m =>
      rw [fc_cons, show (m + 1) * 2 = m * 2 + 1 + 1 by omega, List.drop_succ_cons, List.drop_succ_cons, ih, List.drop_succ_cons]
theorem fc_at {l : List Fd} {i : Nat} {f : Fd} (h : l[i]? = some f) : (fc l)[i * 2]? = some (tv f.1) ∧ (fc l)[i * 2 + 1]? = some (tv f.2) := by
  induction l generalizing i with
  | nil => simp at h
  | cons g l ih =>
    cases i with
    | zero =>
      simp at h
      subst h
      exact ⟨rfl, rfl⟩
    | succ i =>
      have := ih (i := i) (by simpa using h)
      rw [fc_cons, show (i + 1) * 2 = i * 2 + 1 + 1 by omega]
      exact ⟨by simpa using this.1, by simpa using this.2⟩
theorem fc_one (l : List Fd) : ∀ u ∈ fc l, u.oneCell' = true := by
  intro u hu
  obtain ⟨f, _, hf⟩ := List.mem_flatMap.1 hu
  simp only [List.mem_cons, List.not_mem_nil, or_false] at hf
  rcases hf with rfl | rfl <;> rfl
theorem fc_pairs (k : List UInt8) (vs : List (List UInt8)) (v : List UInt8) : fc (((vs ++ [v]).map fun x => (k, x))) = fc (vs.map fun x => (k, x)) ++ [tv k, tv v] := by
  rw [List.map_append, fc_append]; rfl

theorem Turned.nil_grown {w w' : World} (h : Turned [] w w') (row : Option Nat) : w.grownBy w' row := ⟨h.os, h.tape, h.output, h.size, fun k hk _ => h.block k hk (by simp)⟩

/-- New blocks alone, and then new ones and some that are new since the beginning. -/
theorem Turned.trans' {S : List Nat} {w w1 w2 : World} (h : Turned [] w w1) (k : Turned S w1 w2) (hS : ∀ x, x ∈ S → w.heap.size ≤ x) : Turned [] w w2 :=
  ⟨k.os.trans h.os, k.tape.trans h.tape, k.output.trans h.output, Nat.le_trans h.size k.size, fun i hi _ => (k.block i (Nat.lt_of_lt_of_le hi h.size) (fun hx => by have := hS i hx; omega)).trans (h.block i hi (by simp))⟩

section
variable {w w' : World} {base e size n : Nat} {v : Value} {xs : List Value}
theorem ownsN_keep (h : w.ownsRow base e size v n xs) (ht : Turned [] w w') : w'.ownsRow base e size v n xs := h.kept (ht.nil_grown none) (by cases v.ownBlock <;> simp)
theorem ownsN_grown {row : Option Nat} (h : w.ownsRow base e size v n xs) (hg : w.grownBy w' row) (hr : ∀ g, row = some g → v.ownBlock ≠ some g) : w'.ownsRow base e size v n xs := by
  refine h.kept hg ?_
  cases hv : v.ownBlock with
  | none => exact .inl rfl
  | some g =>
    refine .inr fun e => ?_
    exact hr g e.symm hv
/-- The slice, cut to fewer. -/
theorem ownsN_cut {p : Option Addr} {c m : Nat} (h : w.ownsRow base e size (.slice p n c) n xs) (hm : m ≤ n) : w.ownsRow base e size (.slice p m c) m (xs.take (m * size)) := by
  obtain ⟨h1, h2⟩ := h
  have hle : m * size ≤ n * size := Nat.mul_le_mul_right _ hm
  refine ⟨by rw [List.length_take, h1]; omega, ?_⟩
  rcases h2 with ⟨h3, h4⟩ | ⟨g, cap, cur, h3, hb, hg, hn, hc, hs, ht⟩
  · injection h3 with e1 e2 e3
    subst e1 e3
    have : m = 0 := by omega
    subst this
    exact .inl ⟨rfl, rfl⟩
  · injection h3 with e1 e2 e3
    subst e1 e3
    refine .inr ⟨g, c, cur, rfl, hb, hg, by omega, hc, hs, ?_⟩
    rw [← ht, List.take_take, Nat.min_eq_left hle]
theorem ownsN_slice (h : w.ownsRow base e size v n xs) : ∃ p c, v = .slice p n c ∧ n ≤ c ∧ c ≤ maxLen ∧ (p = none → n = 0 ∧ c = 0) ∧ (∀ a, p = some a → ∃ g, a = ⟨g, 0, none⟩ ∧ base ≤ g ∧ g < w.heap.size) ∧ ∀ j u, xs[j]? = some u → ∃ g, p = some ⟨g, 0, none⟩ ∧ w.cell? ⟨g, j, none⟩ = some u := by
  have hlt := h.lt
  obtain ⟨h1, h2⟩ := h
  rcases h2 with ⟨rfl, rfl⟩ | ⟨g, cap, cur, rfl, hb, hg, hn, hc, hs, ht⟩
  · refine ⟨none, 0, rfl, Nat.le_refl _, by unfold maxLen; omega, (fun _ => ⟨rfl, rfl⟩), (fun _ h => by cases h), fun j u hj => ?_⟩
    have : xs = [] := List.eq_nil_of_length_eq_zero (by simpa using h1)
    rw [this] at hj
    simp at hj
  · refine ⟨_, cap, rfl, hn, hc, (fun h => by cases h), (fun a h => ⟨g, by cases h; rfl, hb, (hlt g rfl).2⟩), fun j u hj => ⟨g, rfl, ?_⟩⟩
    rw [cell_of_row w g j cur _ _ hg]
    have h3 : (cur.toList.take (n * size))[j]? = some u := by rw [ht]; exact hj
    rw [List.getElem?_take] at h3
    split at h3
    · simpa using h3
    · cases h3
end

section
variable {P : Program} (w : World) {ops : Array Oper} {rest : List Oper} {o : Oper} {a : Act} {Q : Exit → Act → World → Prop}
/-- 'append' of a slice that may be nil, onto a row of the call's own. -/
theorem wpList_append_cells (hgd : o.guard = none) (s x : Operand) (t : TypeId) (ho : o.op = .call { callee := .builtin .append, args := #[s, x], argTypes := #[t, t] })
    (base : Nat) (e : TypeId) (i : TypeInfo) (z : Value) (size bytes : Nat) (ht : P.underlying t = some (.slice e)) (hi : P.info? e = some i) (hz : i.zero = some z)
    (hsize : i.size = size) (hby : i.bytes = bytes) (hzs : z.cells.size = size) (hsz : 0 < size)
    (v : Value) (n : Nat) (xs : List Value) (hs : a.eval s = v) (hown : w.ownsRow base e size v n xs)
    (ao : Option Addr) (m c : Nat) (news : List Value) (hx : a.eval x = .slice ao m c) (hl : news.length = m * size) (hnone : ao = none → m = 0 ∧ c = 0)
    (hnews : ∀ ad, ao = some ad → ∀ j u, news[j]? = some u → w.cell? (ad.add j) = some u) (h1 : ∀ u ∈ news, u.oneCell' = true)
    (h63 : n + m ≤ maxLen) (hbytes : (n + m) * bytes ≤ 140737488355328) (hbase : base ≤ w.heap.size)
    (h : ∀ v' w', w'.ownsRow base e size v' (n + m) (xs ++ news) → w.grownBy w' v.ownBlock → (v'.ownBlock = v.ownBlock ∨ v'.ownBlock = some w.heap.size) → wpList P ops Q rest (a.put o.dst v') w') :
    wpList P ops Q (o :: rest) a w := by
  cases ao with
  | some ad => exact wpList_append_own_at (P := P) w hgd s x t ho base e i z size bytes ht hi hz hsize hby hzs hsz v n xs hs hown ad m c news hx hl (hnews ad rfl) h1 h63 hbytes hbase (fun v' w' g1 g2 _ g3 => h v' w' g1 g2 g3)
  | none =>
    obtain ⟨rfl, rfl⟩ := hnone rfl
    have hn : news = [] := List.eq_nil_of_length_eq_zero (by simpa using hl)
    subst hn
    refine wpList_plain hgd fun K hK' => ?_
    have hrun := run_append_owned_none (P := P) w base t o.type e i size ht hi v n xs hown
    unfold Oper.wp
    simp [execOp, ho, resolve, invoke, builtin, hs, hx, hrun, Result.andThen]
    exact hK' _ _ (h v w (by simpa using hown) (World.grownBy.refl _ _) (.inl rfl))
end
end Go.Proofs.YthobojpbdeepoaaDoor
