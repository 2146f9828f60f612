/-
  The sentinel errors, out of 'laidMet': for any two names of the row's list.
-/
import Derived.Test.YthobojpbdeepoaaDoorFrame
import Derived.Test.YthobojpbdeepoaaDoorRows
import Derived.LaidLaws
namespace Go.Proofs.YthobojpbdeepoaaDoor
open Go.RowKit Go.WideShapes Go.ChangeShapes

theorem star_err : "*" ++ "errors.errorString" = "*errors.errorString" := by decide
theorem row_err (u : TypeId) (h : Tryd.prog.typeName? 3 u = some "*errors.errorString") : u = 182 :=
  typeName_ptr_named (nm := "errors.errorString") (by rw [star_err]; kernel_rfl) (by kernel_rfl) (by decide) u (by rw [star_err]; exact h)
theorem cells_err : Tryd.prog.cellsOf 184 = 1 := by kernel_rfl
theorem cells_str : Tryd.prog.cellsOf 9 = 1 := by kernel_rfl

/-- What a sentinel's text is. -/
abbrev sentD (text : List UInt8) : DataW Unit := .iface "*errors.errorString" (.ptr (.agg [.lit (.string text)]))

/-- One of the listed variables: its place, its data's places. -/
def LaidAt (P : Program) (W : World) (name : String) (d : DataW Unit) (ps p : List MemPlace) : Prop :=
  ∃ g t cs fuel, P.globalNamed name = some g ∧ (P.globals[g]?).map (·.type) = some t ∧ W.var? P name = some cs ∧ DataW.trod (fun _ => ()) P W 0 (fun _ => true) false fuel t cs.toList = some (d, p) ∧
    (∀ x, x ∈ MemPlace.row ⟨g, 0, none⟩ cs.size ++ p → x ∈ ps)
theorem LaidAt.up {P : Program} {W : World} {name : String} {d : DataW Unit} {ps ps' p : List MemPlace} (h : LaidAt P W name d ps p) (hs : ∀ x, x ∈ ps → x ∈ ps') : LaidAt P W name d ps' p := by
  obtain ⟨g, t, cs, fuel, h1, h2, h3, h4, h5⟩ := h
  exact ⟨g, t, cs, fuel, h1, h2, h3, h4, fun x hx => hs x (h5 x hx)⟩
theorem laid_mem {P : Program} {W : World} : ∀ {laid : List (String × DataW Unit)} {ps : List MemPlace}, DataW.LaidVars P W laid ps → ∀ {n d}, (n, d) ∈ laid → ∃ p, LaidAt P W n d ps p
  | [], _, _, _, _, hm => by cases hm
  | (n0, d0) :: r, ps, h, n, d, hm => by
    obtain ⟨g, t, cs, fuel, p, q, h1, h2, h3, h4, h5, rfl⟩ := h
    rcases List.mem_cons.1 hm with e | hm
    · cases e
      exact ⟨p, g, t, cs, fuel, h1, h2, h3, h4, fun x hx => List.mem_append_left _ hx⟩
    · obtain ⟨p', h'⟩ := laid_mem h5 hm
      exact ⟨p', h'.up (fun x hx => List.mem_append_right _ hx)⟩
theorem laid_two {P : Program} {W : World} : ∀ {laid : List (String × DataW Unit)} {ps : List MemPlace}, DataW.LaidVars P W laid ps → ps.Nodup → ∀ {n d n' d'}, (n, d) ∈ laid → (n', d') ∈ laid → n ≠ n' →
    ∃ p p', LaidAt P W n d ps p ∧ LaidAt P W n' d' ps p' ∧ ∀ x, x ∈ p → x ∉ p'
  | [], _, _, _, _, _, _, _, hm, _, _ => by cases hm
  | (n0, d0) :: r, ps, h, hnd, n, d, n', d', hm, hm', hne => by
    obtain ⟨g, t, cs, fuel, p, q, h1, h2, h3, h4, h5, rfl⟩ := h
    have hq : ∀ x, x ∈ p → x ∉ q := fun x hx hx' => (List.nodup_append.1 hnd).2.2 x (List.mem_append_right _ hx) x hx' rfl
    have here : LaidAt P W n0 d0 (MemPlace.row ⟨g, 0, none⟩ cs.size ++ p ++ q) p := ⟨g, t, cs, fuel, h1, h2, h3, h4, fun x hx => List.mem_append_left _ hx⟩
    rcases List.mem_cons.1 hm with e | hm
    · cases e
      rcases List.mem_cons.1 hm' with e | hm'
      · cases e; exact absurd rfl hne
      · obtain ⟨p', h'⟩ := laid_mem h5 hm'
        refine ⟨p, p', here, h'.up (fun x hx => List.mem_append_right _ hx), fun x hx hx' => hq x hx ?_⟩
        obtain ⟨_, _, _, _, _, _, _, _, hs⟩ := h'
        exact hs x (List.mem_append_right _ hx')
    · rcases List.mem_cons.1 hm' with e | hm'
      · cases e
        obtain ⟨p', h'⟩ := laid_mem h5 hm
        refine ⟨p', p, h'.up (fun x hx => List.mem_append_right _ hx), here, fun x hx hx' => hq x hx' ?_⟩
        obtain ⟨_, _, _, _, _, _, _, _, hs⟩ := h'
        exact hs x (List.mem_append_right _ hx)
      · obtain ⟨a, b, ha, hb, hd⟩ := laid_two h5 (List.nodup_append.1 hnd).2.1 hm hm' hne
        exact ⟨a, b, ha.up (fun x hx => List.mem_append_right _ hx), hb.up (fun x hx => List.mem_append_right _ hx), hd⟩

theorem sent_gen {P : Program} {ti tp te ts : TypeId} {ms : Array (String × TypeId)} {f : Field} (hi : P.underlying ti = some (.interface ms)) (hrow : ∀ u, P.typeName? 3 u = some "*errors.errorString" → u = tp)
    (hp : P.underlying tp = some (.pointer te)) (he : P.underlying te = some (.struct #[f])) (hft : f.type = ts) (hfo : f.offset = 0) (hs : P.underlying ts = some .string) (hc : P.cellsOf te = 1) (hcs : P.cellsOf ts = 1)
    {W : World} {name : String} {text : List UInt8} {ps p : List MemPlace} {g : Nat} (hg : P.globalNamed name = some g) (ht : (P.globals[g]?).map (·.type) = some ti) (h : LaidAt P W name (sentD text) ps p)
    (hrows : ∀ b off, MemPlace.cell b off ∈ ps → (∃ c t, W.heap[b]? = some (.cells c t (0, 0))) ∧ ∀ u v, W.cell? ⟨b, off, none⟩ = some (.iface u v) → Value.okWide P W .any 0 u v) :
    ∃ a, g < W.heap.size ∧ a.block < W.heap.size ∧ W.cell? ⟨g, 0, none⟩ = some (.iface tp (.pointer (some a))) ∧ (∃ c t, W.heap[a.block]? = some (.cells c t (0, 0))) ∧ p = MemPlace.row a 1 := by
  obtain ⟨g', t, cs, fuel, h1, h2, h3, h4, h5⟩ := h
  obtain rfl := Option.some.inj (hg.symm.trans h1)
  obtain rfl := Option.some.inj (ht.symm.trans h2)
  obtain ⟨l⟩ := cs
  have ok : ∀ u v, l = [.iface u v] → Value.okWide P W .any 0 u v := fun u v e => by
    subst e
    exact (hrows g 0 (h5 _ (by simp [MemPlace.row]))).2 u v (World.var?_cell h1 h3 0)
  obtain ⟨a, s, rfl, _, _, _, rfl⟩ := errorString_of_trod hi hrow hp he hft hfo hs hc hcs h4 ok
  obtain ⟨c0, t0, hb⟩ := (hrows a.block a.off (h5 _ (by simp [MemPlace.row]))).1
  obtain ⟨c1, t1, hb1⟩ := (hrows g 0 (h5 _ (by simp [MemPlace.row]))).1
  have hlt : ∀ {b : Nat} {o : Obj}, W.heap[b]? = some o → b < W.heap.size := fun {b o} h => by
    rcases Nat.lt_or_ge b W.heap.size with h' | h'
    · exact h'
    · rw [Array.getElem?_eq_none h'] at h; cases h
  exact ⟨a, hlt hb1, hlt hb, World.var?_cell h1 h3 0, ⟨c0, t0, hb⟩, rfl⟩
theorem sent_of {W : World} {name : String} {text : List UInt8} {ps p : List MemPlace} {g : Nat} (hg : Tryd.prog.globalNamed name = some g) (ht : (Tryd.prog.globals[g]?).map (·.type) = some 74) (h : LaidAt Tryd.prog W name (sentD text) ps p)
    (hrows : ∀ b off, MemPlace.cell b off ∈ ps → (∃ c t, W.heap[b]? = some (.cells c t (0, 0))) ∧ ∀ u v, W.cell? ⟨b, off, none⟩ = some (.iface u v) → Value.okWide Tryd.prog W .any 0 u v) :
    ∃ a, Sent W W.heap.size g a ∧ p = MemPlace.row a 1 := by
  obtain ⟨a, h1, h2, h3, h4, h5⟩ := sent_gen Tryd.underlying74 row_err Tryd.underlying182 Tryd.underlying184 rfl rfl Tryd.underlying9 cells_err cells_str hg ht h hrows
  exact ⟨a, ⟨h1, h2, h3, h4⟩, h5⟩

/-- Two sentinels of the list: where they lie, and that they are two. -/
theorem sent_two {W : World} {laid : List (String × DataW Unit)} (h : laidMet Tryd.prog laid W) {n n' : String} {x x' : List UInt8} {g g' : Nat} (hm : (n, sentD x) ∈ laid) (hm' : (n', sentD x') ∈ laid) (hne : n ≠ n')
    (hg : Tryd.prog.globalNamed n = some g) (ht : (Tryd.prog.globals[g]?).map (·.type) = some 74) (hg' : Tryd.prog.globalNamed n' = some g') (ht' : (Tryd.prog.globals[g']?).map (·.type) = some 74) :
    ∃ a a', Sent W W.heap.size g a ∧ Sent W W.heap.size g' a' ∧ a ≠ a' := by
  obtain ⟨ps, hl, hnd, hrows⟩ := h
  obtain ⟨p, p', h1, h2, hd⟩ := laid_two hl hnd hm hm' hne
  obtain ⟨a, ha, rfl⟩ := sent_of hg ht h1 hrows
  obtain ⟨a', ha', rfl⟩ := sent_of hg' ht' h2 hrows
  refine ⟨a, a', ha, ha', ?_⟩
  rintro rfl
  exact hd (.cell a.block a.off) (by simp [MemPlace.row]) (by simp [MemPlace.row])
theorem Sent.same {W : World} {K K' g : Nat} {a b : Addr} (h : Sent W K g a) (h' : Sent W K' g b) : a = b := by
  have h1 := h.cell.symm.trans h'.cell
  injection h1 with h1
  injection h1 with _ h1
  injection h1 with h1
  injection h1
end Go.Proofs.YthobojpbdeepoaaDoor
