/-
  Plain law of header lines: groups of a line and those that continue it, up to an empty line; what is added to the header.
-/
import Derived.Test.YthobojpbdeepoaaDoorContLaw
import Derived.Test.YthobojpbdeepoaaDoorHeadLaw
import Derived.Test.YthobojpbdeepoaaDoorSpecCanon
import Derived.Test.YthobojpbdeepoaaDoorCut
namespace Go.Proofs.YthobojpbdeepoaaDoor
open Go.RowKit

/-- The line at the beginning of d ends at j. -/
structure LineOn (d : List UInt8) (j : Nat) : Prop where
  nl : d[j]? = some 10
  no : NoNl d 0 j

/-- A group: its first line is l (at d, up to j), the whole text t, and r follows; the key kk and what is behind the colon, vv. -/
structure Grp (d : List UInt8) (j : Nat) (t r kk vv : List UInt8) : Prop where
  at_ : LineOn d j
  ne : trimCR (d.take j) ≠ []
  col : (58 : UInt8) ∈ trimCR (d.take j)
  more : CMore (trimB (trimCR (d.take j))) (d.drop (j + 1)) t r
  eq : t = kk ++ 58 :: vv
  nc : (58 : UInt8) ∉ kk
  kne : kk ≠ []
  key : isKey kk = true
  val : ∀ c, c ∈ vv → valB (c.toNat : Int) = true

/-- From d on, with ps so far: the header is whole; qs are its fields, r follows. -/
inductive HG : List UInt8 → List Fd → List Fd → List UInt8 → Prop
  | done (d : List UInt8) (ps : List Fd) (j : Nat) (h : LineOn d j) (h0 : trimCR (d.take j) = []) : HG d ps ps (d.drop (j + 1))
  | step (d : List UInt8) (ps qs : List Fd) (r r' : List UInt8) (j : Nat) (t kk vv : List UInt8) (h : Grp d j t r' kk vv) (hr : HG r' (ps ++ [(canon kk, trimL blB vv)]) qs r) : HG d ps qs r
/-- From d on: no header. -/
inductive HB : List UInt8 → Prop
  | eof : HB []
  | bad (d : List UInt8) (j : Nat) (h : LineOn d j) (h0 : trimCR (d.take j) ≠ []) (hc : (58 : UInt8) ∉ trimCR (d.take j)) : HB d
  | step (d : List UInt8) (r' : List UInt8) (j : Nat) (t kk vv : List UInt8) (h : Grp d j t r' kk vv) (hr : HB r') : HB d

theorem LineOn.same {d : List UInt8} {i j : Nat} (h : LineOn d i) (h' : LineOn d j) : i = j := first_10 h.nl h.no h'.nl h'.no

section
variable {d : List UInt8} {ps qs : List Fd} {r : List UInt8} {res : CRes}
theorem erCol_nil {l : List UInt8} (h : (58 : UInt8) ∈ l) : erCol l = .nilIface := if_pos h
theorem erCol_err {l : List UInt8} (h : (58 : UInt8) ∉ l) : erCol l ≠ .nilIface := by unfold erCol; rw [if_neg h]; exact fun e => by cases e

/-- What the reader sees of it: the end, or a group. -/
theorem HG.read (h : HG d ps qs r) (hs : CSpec erCol d res) : (res = .line [] r ∧ qs = ps) ∨ ∃ j t r' kk vv, Grp d j t r' kk vv ∧ res = .line t r' ∧ HG r' (ps ++ [(canon kk, trimL blB vv)]) qs r := by
  cases h with
  | done _ _ j h h0 => exact .inl ⟨((hs.2 j h.nl h.no).1 h0), rfl⟩
  | step _ _ _ _ r' j t kk vv h hr => exact .inr ⟨j, t, r', kk, vv, h, (hs.2 j h.at_.nl h.at_.no).2.2 h.ne (erCol_nil h.col) t r' h.more, hr⟩
theorem HB.read (h : HB d) (hs : CSpec erCol d res) : res = .eof ∨ res = .bad ∨ ∃ j t r' kk vv, Grp d j t r' kk vv ∧ res = .line t r' ∧ HB r' := by
  cases h with
  | eof => exact .inl (hs.1 rfl)
  | bad _ j h h0 hc => exact .inr (.inl ((hs.2 j h.nl h.no).2.1 h0 (erCol_err hc)))
  | step _ r' j t kk vv h hr => exact .inr (.inr ⟨j, t, r', kk, vv, h, (hs.2 j h.at_.nl h.at_.no).2.2 h.ne (erCol_nil h.col) t r' h.more, hr⟩)
/-- The text is not empty, and its first colon stands behind the key. -/
theorem Grp.cut {j : Nat} {t r kk vv : List UInt8} (h : Grp d j t r kk vv) {i : Nat} (hi : t[i]? = some 58) (hn : NoC t 58 i) : i = kk.length ∧ t.take i = kk ∧ t.drop (i + 1) = vv := by
  have h1 : t[kk.length]? = some 58 := by rw [h.eq, List.getElem?_append_right (Nat.le_refl _), Nat.sub_self]; rfl
  have h2 : NoC t 58 kk.length := fun x hx e => by
    rw [h.eq, List.getElem?_append_left hx] at e
    exact h.nc (List.mem_of_getElem? e)
  have h3 := first_c hi hn h1 h2
  subst h3
  refine ⟨rfl, ?_, ?_⟩
  · rw [h.eq, List.take_left]
  · rw [h.eq, ← List.drop_drop, List.drop_left]; rfl
theorem Grp.has {j : Nat} {t r kk vv : List UInt8} (h : Grp d j t r kk vv) : ¬ NoC t 58 t.length := fun hn => by
  have h1 : t[kk.length]? = some 58 := by rw [h.eq, List.getElem?_append_right (Nat.le_refl _), Nat.sub_self]; rfl
  exact hn _ (List.getElem?_eq_some_iff.1 h1).1 h1
theorem Grp.tne {j : Nat} {t r kk vv : List UInt8} (h : Grp d j t r kk vv) : t ≠ [] := by rw [h.eq]; simp
theorem Grp.canRes_ {j : Nat} {t r kk vv : List UInt8} (h : Grp d j t r kk vv) : canRes kk = (canon kk, true) := by
  unfold canRes canon
  rw [if_neg h.kne, if_pos h.key, if_pos h.key]
end

/-- The fields of a header, by the order of their keys. -/
def allOf (ps : List Fd) : List Fd := ps.foldl insF []
theorem allOf_snoc (ps : List Fd) (f : Fd) : allOf (ps ++ [f]) = insF (allOf ps) f := by unfold allOf; rw [List.foldl_append]; rfl
theorem allOf_sorted : ∀ n (ps : List Fd), ps.length = n → Sorted (allOf ps)
  | 0, ps, h => by rw [List.length_eq_zero_iff.1 h]; exact Sorted.nil
  | n + 1, ps, h => by
    obtain ⟨qs, f, rfl⟩ : ∃ qs f, ps = qs ++ [f] := ⟨ps.dropLast, ps.getLast (by rintro rfl; simp at h), (List.dropLast_concat_getLast _).symm⟩
    rw [allOf_snoc]
    exact ins_sorted (allOf_sorted n qs (by simp at h; omega)) _ _
theorem allOf_length : ∀ n (ps : List Fd), ps.length = n → (allOf ps).length = n
  | 0, ps, h => by rw [List.length_eq_zero_iff.1 h]; rfl
  | n + 1, ps, h => by
    obtain ⟨qs, f, rfl⟩ : ∃ qs f, ps = qs ++ [f] := ⟨ps.dropLast, ps.getLast (by rintro rfl; simp at h), (List.dropLast_concat_getLast _).symm⟩
    rw [allOf_snoc]
    unfold insF
    rw [ins_length, allOf_length n qs (by simp at h; omega)]; rfl
end Go.Proofs.YthobojpbdeepoaaDoor
