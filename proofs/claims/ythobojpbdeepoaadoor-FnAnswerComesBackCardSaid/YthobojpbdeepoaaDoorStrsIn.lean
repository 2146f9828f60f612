/-
  Slices of strings and of bools that came in; laws.zzFits2.
-/
import Derived.Test.YthobojpbdeepoaaDoorParts
import Derived.Test.YthobojpbdeepoaaDoorPartsIn
import Derived.Deep.Strs
namespace Go.Proofs.YthobojpbdeepoaaDoor
open Go.RowKit Go.ChangeShapes Go.WideShapes

/-- The cells of a slice. -/
def CellsAt (w : World) (pa : Option Addr) (vs : List Value) : Prop := ∀ i v, vs[i]? = some v → ∃ b off, pa = some ⟨b, off, none⟩ ∧ b < w.heap.size ∧ w.cell? ⟨b, off + i, none⟩ = some v
theorem CellsAt.keep {w w' : World} {pa : Option Addr} {vs : List Value} (h : CellsAt w pa vs) (hT : Turned [] w w') : CellsAt w' pa vs := fun i v hv => by
  obtain ⟨b, off, h1, h2, h3⟩ := h i v hv
  exact ⟨b, off, h1, Nat.lt_of_lt_of_le h2 hT.size, (hT.cell h2 (by simp)).trans h3⟩
def StrsAt (w : World) (pa : Option Addr) (xs : List ByteArray) : Prop := CellsAt w pa (xs.map Value.string)
def BoolsAt (w : World) (pa : Option Addr) (xs : List Bool) : Prop := CellsAt w pa (xs.map Value.bool)
theorem StrsAt.at {w : World} {pa : Option Addr} {xs : List ByteArray} (h : StrsAt w pa xs) {i : Nat} {x : ByteArray} (hx : xs[i]? = some x) : ∃ b off, pa = some ⟨b, off, none⟩ ∧ b < w.heap.size ∧ w.cell? ⟨b, off + i, none⟩ = some (.string x) :=
  h i _ (by rw [List.getElem?_map, hx]; rfl)
theorem BoolsAt.at {w : World} {pa : Option Addr} {xs : List Bool} (h : BoolsAt w pa xs) {i : Nat} {x : Bool} (hx : xs[i]? = some x) : ∃ b off, pa = some ⟨b, off, none⟩ ∧ b < w.heap.size ∧ w.cell? ⟨b, off + i, none⟩ = some (.bool x) :=
  h i _ (by rw [List.getElem?_map, hx]; rfl)
/-- Out of the cells by number. -/
theorem cells_of {w : World} {a : Addr} {len : Nat} {V : Nat → Value} (h : ∀ i, i < len → w.cell? (a.add i) = some (V i)) : CellsAt w (some a) ((List.range len).map V) := by
  intro i v hv
  rw [List.getElem?_map] at hv
  obtain ⟨j, hj, rfl⟩ := Option.map_eq_some_iff.1 hv
  obtain ⟨hi, hij⟩ := List.getElem?_eq_some_iff.1 hj
  rw [List.length_range] at hi
  rw [List.getElem_range] at hij
  subst hij
  have c0 := h 0 (by omega)
  have ci := h i hi
  obtain ⟨b, off, spot⟩ := a
  have e0 : (⟨b, off, spot⟩ : Addr).add 0 = ⟨b, off, spot⟩ := by unfold Addr.add; rw [if_pos rfl]
  rw [e0] at c0
  have hb : b < w.heap.size ∧ spot = none := by
    unfold World.cell? at c0
    split at c0
    · rename_i heq
      refine ⟨?_, ?_⟩
      · rcases Nat.lt_or_ge b w.heap.size with h' | h'
        · exact h'
        · rw [Array.getElem?_eq_none h'] at heq; cases heq
      · cases spot with
        | none => rfl
        | some k => simp at c0
    · cases c0
  obtain ⟨hb, rfl⟩ := hb
  refine ⟨b, off, rfl, hb, ?_⟩
  rw [← ci]
  unfold Addr.add
  split
  · subst_vars; rfl
  · rfl
theorem cells_nil (w : World) (pa : Option Addr) : CellsAt w pa [] := fun i v hv => by simp at hv

/-- A '[]string', as the row reads it. -/
theorem strs_in {H : Type} {enc : TypeId × Value → H} {P : Program} {w : World} {base : Nat} {spare : Nat → Bool} {held : Bool} {t e : TypeId} {fuel : Nat} {pa : Option Addr} {len cap : Nat} {x : DataW H × List MemPlace}
    (ht : P.underlying t = some (.slice e)) (he : P.underlying e = some .string) (hc : P.cellsOf e = 1) (h : DataW.trod enc P w base spare held fuel t [.slice pa len cap] = some x) (hs : ∀ b, spare b = true) :
    ∃ xs : List ByteArray, xs.length = len ∧ StrsAt w pa xs := by
  rcases Go.Deep.open_strs ht he hc h with ⟨h0, _⟩ | ⟨a, l, c, m, Sx, h0, _, hl, _, hm, _, hcell⟩
  · injection h0 with h0
    injection h0 with h1 h2 h3
    subst h2
    exact ⟨[], rfl, cells_nil w pa⟩
  · injection h0 with h0
    injection h0 with h1 h2 h3
    subst h1 h2 h3
    rw [hs a.block, if_pos rfl] at hm
    refine ⟨(List.range len).map Sx, by simp, ?_⟩
    have h4 := cells_of (w := w) (a := a) (len := len) (V := fun i => .string (Sx i)) (fun i hi => (hcell i (by omega)).1)
    unfold StrsAt
    rw [List.map_map]
    exact h4
/-- A '[]bool', as the row reads it. -/
theorem bools_in {H : Type} {enc : TypeId × Value → H} {P : Program} {w : World} {base : Nat} {spare : Nat → Bool} {held : Bool} {t e : TypeId} {fuel : Nat} {pa : Option Addr} {len cap : Nat} {x : DataW H × List MemPlace}
    (ht : P.underlying t = some (.slice e)) (he : P.underlying e = some .bool) (hc : P.cellsOf e = 1) (h : DataW.trod enc P w base spare held fuel t [.slice pa len cap] = some x) (hs : ∀ b, spare b = true) :
    ∃ xs : List Bool, xs.length = len ∧ BoolsAt w pa xs := by
  rcases Go.Deep.open_slice1 ht hc h with ⟨h0, _⟩ | ⟨a, l, c, m, n, V, D, Pl, h0, _, hl, _, hm, _, hx⟩
  · injection h0 with h0
    injection h0 with h1 h2 h3
    subst h2
    exact ⟨[], rfl, cells_nil w pa⟩
  · injection h0 with h0
    injection h0 with h1 h2 h3
    subst h1 h2 h3
    rw [hs a.block, if_pos rfl] at hm
    have each : ∀ i, i < len → ∃ y : Bool, V i = .bool y := fun i hi => by
      obtain ⟨y, h1, _⟩ := DataW.trod_bool he (hx i (by omega)).2
      exact ⟨y, by simpa using h1⟩
    obtain ⟨B, hB⟩ := Go.Deep.choose_lt each
    refine ⟨(List.range len).map B, by simp, ?_⟩
    have h4 := cells_of (w := w) (a := a) (len := len) (V := fun i => .bool (B i)) (fun i hi => by rw [(hx i (by omega)).1, hB i hi])
    unfold BoolsAt
    rw [List.map_map]
    exact h4

set_option maxRecDepth 100000 in
set_option maxHeartbeats 2000000 in
theorem fits2_any (pa : Option Addr) (xs : List ByteArray) (cap : Nat) (w : World) (h : StrsAt w pa xs) :
    Calls Tryd.prog 20 #[.slice pa xs.length cap] w fun e w' => w = w' ∧ ∃ b, e = .returned (.bool b) ∧ (b = true → xs.length ≤ 2147483647 ∧ ∀ x, x ∈ xs → x.size ≤ 2147483647) := by
  by_cases hn : 2147483647 < xs.length
  · have b1 : (2147483647 : Int) < (xs.length : Int) := by omega
    clear h
    go_enter Tryd.func20, Tryd.ntmps20
    go_wp2_with fail
    go_ret
    exact ⟨rfl, false, rfl, fun h => by cases h⟩
  have b1 : ¬ (2147483647 : Int) < (xs.length : Int) := by omega
  have HP := Lib.hid h
  have HN : Hid (xs.length ≤ 2147483647) := by show _ ≤ _; omega
  clear h hn
  go_enter Tryd.func20, Tryd.ntmps20
  go_wp2_with fail
  go_loopg [10] xs.length (fun g i wr => ∃ m : Nat, i = .int .i64 (m : Int) ∧ m ≤ xs.length ∧ wr = w ∧ (∀ x, x ∈ xs.take m → x.size ≤ 2147483647) ∧ xs.length - m ≤ g)
  case atStart => exact ⟨0, rfl, Nat.zero_le _, rfl, (fun x hx => by simp at hx), Nat.le_refl _⟩
  case round =>
    obtain ⟨m, rfl, hm, rfl, hx, hg⟩ := hrel
    have HX := Lib.hid hx
    by_cases hlt : m < xs.length
    · obtain ⟨x, hc⟩ : ∃ x, xs[m]? = some x := ⟨_, List.getElem?_eq_getElem hlt⟩
      obtain ⟨b, off, rfl, _, cc⟩ := HP.out.at hc
      have d0 : (m : Int) < (xs.length : Int) := by omega
      have d1 : (0 : Int) ≤ (m : Int) := by omega
      have e1 : IntKind.i64.wrap ((m : Int) + 1) = (m : Int) + 1 := IntWalk.i64_in _ (by have := HN.out; omega)
      have HT := Lib.hid (take_add_of hc)
      have HG : Hid (xs.length - (m + 1) ≤ gk - 1 ∧ 0 < gk ∧ m + 1 ≤ xs.length) := ⟨by omega, by omega, by omega⟩
      by_cases hl : 2147483647 < x.size
      · have b2 : (2147483647 : Int) < (x.size : Int) := by omega
        clear hx hc
        go_wp2_with fail
        go_ret
        exact ⟨rfl, false, rfl, fun h => by cases h⟩
      · have b2 : ¬ (2147483647 : Int) < (x.size : Int) := by omega
        have HL : Hid (x.size ≤ 2147483647) := by show _ ≤ _; omega
        clear hx hc hl
        go_wp2_with fail
        go_roundg (gk - 1)
        case rel =>
          refine ⟨m + 1, rfl, HG.out.2.2, rfl, ?_, HG.out.1⟩
          rw [HT.out]
          intro y hy
          rcases List.mem_append.1 hy with hy | hy
          · exact HX.out y hy
          · rw [List.mem_singleton.1 hy]; exact HL.out
        case measure => have := HG.out; omega
    · have d0 : ¬ (m : Int) < (xs.length : Int) := by omega
      have HF : Hid (∀ x, x ∈ xs → x.size ≤ 2147483647) := by
        have h1 := HX.out
        rw [List.take_of_length_le (by omega)] at h1
        exact h1
      clear hx
      go_wp2_with fail
      go_ret
      exact ⟨rfl, .inr ⟨rfl, HN.out, HF.out⟩⟩
end Go.Proofs.YthobojpbdeepoaaDoor
