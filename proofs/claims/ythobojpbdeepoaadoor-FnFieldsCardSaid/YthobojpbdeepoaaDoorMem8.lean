/-
  Rows of bytes in memory: what their cells hold, what a store turns, what a conversion lays.
-/
import Derived.Test.YthobojpbdeepoaaDoorBase
import Derived.Lib.ConvBytes
import Derived.Laws.IdiomStrings
namespace Go.Proofs.YthobojpbdeepoaaDoor
open Go.RowKit

/-- From offset off on block b holds the bytes l. -/
def Row8 (w : World) (b off : Nat) (l : List UInt8) : Prop := ∀ j u, l[j]? = some u → w.cell? ⟨b, off + j, none⟩ = some (.int .u8 (u.toNat : Int))
/-- n cells from offset off on may be written. -/
def Free8 (w : World) (b off n : Nat) : Prop := ∀ j, j < n → w.frozen? ⟨b, off + j, none⟩ = false

theorem Row8.nil (w : World) (b off : Nat) : Row8 w b off [] := fun j u h => by simp at h
theorem Row8.of_block {w w' : World} {b off : Nat} {l : List UInt8} (h : Row8 w b off l) (hb : w'.heap[b]? = w.heap[b]?) : Row8 w' b off l :=
  fun j u hu => (World.cell?_of_block (w := w) hb).trans (h j u hu)
theorem Free8.of_block {w w' : World} {b off n : Nat} (h : Free8 w b off n) (hb : w'.heap[b]? = w.heap[b]?) : Free8 w' b off n :=
  fun j hj => (World.frozen?_of_block (w := w) hb).trans (h j hj)
theorem Row8.below {w w' : World} {B b off : Nat} {l : List UInt8} (h : Row8 w b off l) (hb : Below B w w') (hB : b < B) : Row8 w' b off l := h.of_block (hb.block b hB)
theorem Row8.drop {w : World} {b off : Nat} {l : List UInt8} (h : Row8 w b off l) (k : Nat) : Row8 w b (off + k) (l.drop k) :=
  fun j u hu => by rw [Nat.add_assoc]; exact h (k + j) u (by rw [← hu, List.getElem?_drop])
theorem Row8.take {w : World} {b off : Nat} {l : List UInt8} (h : Row8 w b off l) (k : Nat) : Row8 w b off (l.take k) :=
  fun j u hu => h j u (by
    rw [List.getElem?_take] at hu
    split at hu
    · exact hu
    · cases hu)
theorem Free8.part {w : World} {b off n : Nat} (h : Free8 w b off n) (k m : Nat) (hm : k + m ≤ n) : Free8 w b (off + k) m :=
  fun j hj => by rw [Nat.add_assoc]; exact h (k + j) (by omega)
theorem Row8.set {w : World} {b off : Nat} {l : List UInt8} (h : Row8 w b off l) {k : Nat} (hk : k < l.length) (v : UInt8) :
    Row8 (w.setCell ⟨b, off + k, none⟩ (.int .u8 (v.toNat : Int))) b off (l.set k v) := by
  intro j u hu
  rw [List.getElem?_set] at hu
  split at hu
  · subst_vars
    injection hu with hu
    subst hu
    exact World.cell?_setCell_same _ _ _ (h _ _ (List.getElem?_eq_getElem hk))
  · rw [World.cell?_setCell_other]
    · exact h j u hu
    · intro e; injection e; omega
theorem Free8.set {w : World} {b off n : Nat} (h : Free8 w b off n) (a : Addr) (v : Value) : Free8 (w.setCell a v) b off n := fun j hj => by rw [World.frozen?_setCell]; exact h j hj

/-- No new block; block b alone may have turned, and of it only the cells from lo up to hi. -/
structure Wrote (b lo hi : Nat) (w w' : World) : Prop where
  os : w'.os = w.os
  tape : w'.tape = w.tape
  output : w'.output = w.output
  size : w'.heap.size = w.heap.size
  block : ∀ k, k ≠ b → w'.heap[k]? = w.heap[k]?
  row : ∀ cs t fr, w.heap[b]? = some (.cells cs t fr) → ∃ cs', w'.heap[b]? = some (.cells cs' t fr) ∧ cs'.size = cs.size ∧ ∀ o, (o < lo ∨ hi ≤ o) → cs'[o]? = cs[o]?
  frozen : ∀ a, w'.frozen? a = w.frozen? a
theorem Wrote.refl (b lo hi : Nat) (w : World) : Wrote b lo hi w w := ⟨rfl, rfl, rfl, rfl, fun _ _ => rfl, fun cs _ _ h => ⟨cs, h, rfl, fun _ _ => rfl⟩, fun _ => rfl⟩
theorem Wrote.trans {b lo hi : Nat} {w w1 w2 : World} (h : Wrote b lo hi w w1) (k : Wrote b lo hi w1 w2) : Wrote b lo hi w w2 :=
  ⟨k.os.trans h.os, k.tape.trans h.tape, k.output.trans h.output, k.size.trans h.size, fun i hi => (k.block i hi).trans (h.block i hi), fun cs t fr hc => by
    obtain ⟨c1, h1, s1, e1⟩ := h.row cs t fr hc
    obtain ⟨c2, h2, s2, e2⟩ := k.row c1 t fr h1
    exact ⟨c2, h2, s2.trans s1, fun o ho => (e2 o ho).trans (e1 o ho)⟩, fun a => (k.frozen a).trans (h.frozen a)⟩
theorem Wrote.setCell {b lo hi : Nat} {w w1 : World} (h : Wrote b lo hi w w1) {o : Nat} (h1 : lo ≤ o) (h2 : o < hi) (v : Value) : Wrote b lo hi w (w1.setCell ⟨b, o, none⟩ v) :=
  h.trans ⟨rfl, rfl, rfl, by simp [World.setCell], fun k hk => Below.heap_setCell _ _ _ _ (by simpa using hk), fun cs t fr hc => by
    refine ⟨cs.setIfInBounds o v, by simp [World.setCell, Array.getElem?_modify, hc], by simp, fun o' ho' => ?_⟩
    rw [Array.getElem?_setIfInBounds_ne (by omega)], fun a => World.frozen?_setCell _ _ _ _⟩
theorem Wrote.drewN {b lo hi : Nat} {w w1 : World} (h : Wrote b lo hi w w1) (n : Nat) : Wrote b lo hi w (w1.drewN n) := ⟨h.os, h.tape, h.output, h.size, h.block, h.row, h.frozen⟩
theorem Wrote.drew {b lo hi : Nat} {w w1 : World} (h : Wrote b lo hi w w1) : Wrote b lo hi w w1.drew := ⟨h.os, h.tape, h.output, h.size, h.block, h.row, h.frozen⟩
theorem Wrote.below {b lo hi : Nat} {w w1 : World} (h : Wrote b lo hi w w1) : Below b w w1 := ⟨h.os, h.tape, h.output, by rw [h.size]; exact Nat.le_refl _, fun k hk => h.block k (by omega)⟩
theorem Wrote.grown {b lo hi : Nat} {w w1 : World} (h : Wrote b lo hi w w1) : w.grownBy w1 (some b) := ⟨h.os, h.tape, h.output, by rw [h.size]; exact Nat.le_refl _, fun k _ hk => h.block k (fun e => hk (by rw [e]))⟩

/-- '[]byte(s)': the new row holds the bytes of s, and its cells may be written; what was there is there. -/
theorem bytes_row (w : World) (e : TypeId) (s : ByteArray) : Row8 (Lib.bytesWorld w e s) w.heap.size 0 (lst s) := by
  intro j u hu
  have hj : j < s.size := by rw [← lst_length]; exact (List.getElem?_eq_some_iff.1 hu).1
  rw [Nat.zero_add, Lib.bytesWorld_cell w e s j hj]
  unfold lst at hu
  rw [List.getD_eq_getElem?_getD, hu]
  rfl
theorem bytes_free (w : World) (e : TypeId) (s : ByteArray) : Free8 (Lib.bytesWorld w e s) w.heap.size 0 s.size := by
  intro j hj
  unfold World.frozen?
  rw [Lib.bytesWorld_at_new]
  have h : s.size ≤ (Lib.bytesCells w e s).size := by
    unfold Lib.bytesCells
    rw [Array.size_append, Array.size_map]
    exact Nat.le_add_right _ _
  simp
  omega
theorem bytes_below (w : World) (e : TypeId) (s : ByteArray) : Below w.heap.size w (Lib.bytesWorld w e s) := by
  refine ⟨?_, ?_, ?_, by rw [Lib.bytesWorld_size]; omega, fun k hk => Lib.bytesWorld_at_old w e s k hk⟩ <;>
  simp [Lib.bytesWorld, World.freeze, World.alloc, World.drew, -World.alloc_eq, -World.drew_eq]

/-- 'string(b)' of a row of bytes. -/
theorem string_of_row {P : Program} {w : World} {b off : Nat} {l : List UInt8} (h : Row8 w b off l) (src dst e : TypeId) (cap : Nat) (hs : P.underlying src = some (.slice e)) (he : P.underlying e = some (.int .u8)) (hd : P.underlying dst = some .string) :
    (convert src dst (.slice (some ⟨b, off, none⟩) l.length cap)).run P w = .ok (.string ⟨l.toArray⟩) w := by
  refine run_convert_bytes_back w src dst e ⟨b, off, none⟩ cap l hs he hd (fun j hj => ?_)
  have h1 := h j _ (List.getElem?_eq_getElem hj)
  unfold Addr.add
  split
  · subst_vars; simpa using h1
  · exact h1
end Go.Proofs.YthobojpbdeepoaaDoor
