/-
  A list of calls that came in, as the row reads it.
-/
import Derived.Test.YtdhdcgliefjonaaHeaderLaw
import Derived.Deep.Slices
import Derived.ChangeArms
import Derived.DataReads
namespace Go.Proofs.Ytdhdcgliefjonaa
open Go.RowKit Go.ChangeShapes Go.WideShapes

theorem op_fields : ∃ fs : Array Field, Try.prog.underlying 37 = some (.struct fs) ∧ (∃ f, fs[0]? = some f ∧ f.type = 3 ∧ f.offset = 0) ∧ (∃ f, fs[1]? = some f ∧ f.type = 9 ∧ f.offset = 1) ∧ ∃ f, fs[2]? = some f ∧ f.type = 9 ∧ f.offset = 2 :=
  ⟨_, Try.underlying37, ⟨_, rfl, rfl, rfl⟩, ⟨_, rfl, rfl, rfl⟩, ⟨_, rfl, rfl, rfl⟩⟩

instance opInhabited : Inhabited OpD := ⟨⟨0, ByteArray.empty, ByteArray.empty⟩⟩

theorem one_of_list {cs : List Value} {i : Nat} {v : Value} (h : (cs.drop i).take 1 = [v]) : cs[i]? = some v := by
  have h1 : ((cs.drop i).take 1)[0]? = some v := by rw [h]; rfl
  rw [List.getElem?_take, if_pos (by decide), List.getElem?_drop] at h1
  exact h1

/-- One call's three cells. -/
theorem op_cells {H : Type} {enc : TypeId × Value → H} {w : World} {base : Nat} {spare : Nat → Bool} {held : Bool} {fuel : Nat} {cs : List Value} {x : DataW H × List MemPlace} (h : DataW.trod enc Try.prog w base spare held fuel 37 cs = some x) :
    ∃ o : OpD, cs[0]? = some (.int .i64 o.what) ∧ cs[1]? = some (.string o.key) ∧ cs[2]? = some (.string o.val) := by
  have hs1 : Try.prog.cellsOf 9 = 1 := by kernel_rfl
  have hi1 : Try.prog.cellsOf 3 = 1 := by kernel_rfl
  obtain ⟨fs, hu, ⟨f0, q0, t0, o0⟩, ⟨f1, q1, t1, o1⟩, ⟨f2, q2, t2, o2⟩⟩ := op_fields
  obtain ⟨ys, n, _, _, _, hlen, hf⟩ := DataW.trod_struct hu h
  have get : ∀ (i : Nat) (f : Field), fs[i]? = some f → ∃ y, DataW.trod enc Try.prog w base spare held n f.type ((cs.drop f.offset).take (Try.prog.cellsOf f.type)) = some y := fun i f hi => by
    have hil := (Array.getElem?_eq_some_iff.1 hi).1
    exact ⟨_, (hf i f hi).trans (List.getElem?_eq_getElem (by omega))⟩
  obtain ⟨y0, e0⟩ := get 0 f0 q0
  obtain ⟨y1, e1⟩ := get 1 f1 q1
  obtain ⟨y2, e2⟩ := get 2 f2 q2
  rw [t0, o0, hi1] at e0
  rw [t1, o1, hs1] at e1
  rw [t2, o2, hs1] at e2
  obtain ⟨a, c0, _⟩ := DataW.trod_int Try.underlying3 e0
  obtain ⟨s, c1, _⟩ := DataW.trod_string Try.underlying9 e1
  obtain ⟨t, c2, _⟩ := DataW.trod_string Try.underlying9 e2
  exact ⟨⟨a, s, t⟩, one_of_list c0, one_of_list c1, one_of_list c2⟩

theorem ops_in {H : Type} {enc : TypeId × Value → H} {w : World} {base fuel : Nat} {held : Bool} {pa : Option Addr} {len cap : Nat} {x : DataW H × List MemPlace}
    (h : DataW.trod enc Try.prog w base (fun _ => true) held fuel 29 [.slice pa len cap] = some x) : ∃ ops : List OpD, ops.length = len ∧ OpsAt w pa ops := by
  have hc : Try.prog.cellsOf 37 = 3 := by kernel_rfl
  rcases Go.Deep.open_slice Try.underlying29 h with ⟨h0, _⟩ | ⟨a, l, c, m, n, D, Pl, h0, _, hl, _, hm, _, hx⟩
  · injection h0 with h0
    injection h0 with h1 h2 h3
    subst h2
    exact ⟨[], rfl, fun i o hi => by simp at hi⟩
  · injection h0 with h0
    injection h0 with h1 h2 h3
    subst h1 h2 h3
    rw [if_pos rfl] at hm
    have each : ∀ i, i < len → ∃ o : OpD, ∃ cs' : List Value, (∀ j, j < 3 → w.cell? ((a.add (i * 3)).add j) = cs'[j]?) ∧ cs'[0]? = some (.int .i64 o.what) ∧ cs'[1]? = some (.string o.key) ∧ cs'[2]? = some (.string o.val) := fun i hi => by
      obtain ⟨cs', g1, g2⟩ := hx i (by omega)
      rw [hc] at g1
      obtain ⟨_, _, g3⟩ := World.cells?_some g1
      obtain ⟨o, g4, g5, g6⟩ := op_cells g2
      exact ⟨o, cs', g3, g4, g5, g6⟩
    obtain ⟨B, hB⟩ := Go.Deep.choose_lt each
    refine ⟨(List.range len).map B, by simp, fun i o hi => ?_⟩
    rw [List.getElem?_map] at hi
    obtain ⟨j, hj, rfl⟩ := Option.map_eq_some_iff.1 hi
    obtain ⟨hjl, hje⟩ := List.getElem?_eq_some_iff.1 hj
    rw [List.length_range] at hjl
    rw [List.getElem_range] at hje
    subst hje
    obtain ⟨cs', k0, k1, k2, k3⟩ := hB i hjl
    have c0 := (k0 0 (by decide)).trans k1
    have c1 := (k0 1 (by decide)).trans k2
    have c2 := (k0 2 (by decide)).trans k3
    obtain ⟨b, off, spot⟩ := a
    have live : ∀ {o : Nat} {v : Value}, w.cell? ⟨b, o, spot⟩ = some v → b < w.heap.size ∧ spot = none := by
      intro o v hcell
      unfold World.cell? at hcell
      split at hcell
      · rename_i heq
        refine ⟨(Array.getElem?_eq_some_iff.1 heq).1, ?_⟩
        cases spot with
        | none => rfl
        | some k => simp at hcell
      · cases hcell
    obtain ⟨cs0, m0, m1, _, _⟩ := hB 0 (by omega)
    have z0 := (m0 0 (by decide)).trans m1
    have az : ((⟨b, off, spot⟩ : Addr).add (0 * 3)).add 0 = ⟨b, off, spot⟩ := by simp [Addr.add]
    rw [az] at z0
    obtain ⟨hb, rfl⟩ := live z0
    rw [Addr.add_lit, Addr.add_lit] at c0 c1 c2
    exact ⟨b, off, rfl, hb, c0, c1, c2⟩
end Go.Proofs.Ytdhdcgliefjonaa
