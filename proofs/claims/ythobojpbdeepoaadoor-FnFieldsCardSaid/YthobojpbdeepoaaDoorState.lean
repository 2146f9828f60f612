/-
  The state of a reader in memory: a bufio.Reader (block B) with its buffer (block C) over a bytes.Reader (block Y) over the bytes d.
-/
import Derived.Test.YthobojpbdeepoaaDoorBytesRead
namespace Go.Proofs.YthobojpbdeepoaaDoor
open Go.RowKit

/-- i: how far the bytes.Reader has come; r, wp: the buffer's bounds; er: the pending error; lb, lr, pr: lastByte, lastRuneSize, prevRune; cur: the buffer's cells. -/
structure RS where
  i : Nat
  r : Nat
  wp : Nat
  er : Value
  lb : Int
  lr : Int
  pr : Int
  cur : List Value
/-- How many bytes have been taken. -/
def RS.pos (s : RS) : Nat := s.i - (s.wp - s.r)

/-- What does not turn: the blocks, the data's slice, the data. -/
structure RK where
  K : Nat
  B : Nat
  C : Nat
  Y : Nat
  sa : Option Addr
  scap : Nat
  ae : Addr
  d : List UInt8

def bufCells (k : RK) (s : RS) : Array Value :=
  #[.slice (some ⟨k.C, 0, none⟩) 4096 4096, .iface 121 (.pointer (some ⟨k.Y, 0, none⟩)), .int .i64 (s.r : Int), .int .i64 (s.wp : Int), s.er, .int .i64 s.lb, .int .i64 s.lr]
def srcCells (k : RK) (s : RS) : Array Value := #[.slice k.sa k.d.length k.scap, .int .i64 (s.i : Int), .int .i64 s.pr]

structure Rd (w : World) (k : RK) (s : RS) : Prop where
  bb : Blk w k.B 163 (bufCells k s)
  cb : Blk w k.C 5 s.cur.toArray
  yb : Blk w k.Y 161 (srcCells k s)
  src : k.d = [] ∨ ∃ S so, k.sa = some ⟨S, so, none⟩ ∧ S ≠ k.B ∧ S ≠ k.C ∧ S ≠ k.Y ∧ S < w.heap.size ∧ Row8 w S so k.d
  kb : k.K ≤ k.B
  kc : k.K ≤ k.C
  ky : k.K ≤ k.Y
  dl : k.d.length ≤ 4294967296
  dc : k.d.length ≤ k.scap
  cl : s.cur.length = 4096
  rw : s.r ≤ s.wp
  wl : s.wp ≤ 4096
  il : s.i ≤ k.d.length
  bl : s.wp - s.r ≤ s.i
  buf : ∀ j u, j < s.wp - s.r → k.d[s.pos + j]? = some u → s.cur[s.r + j]? = some (.int .u8 (u.toNat : Int))
  er : s.er = .nilIface ∨ (s.er = errAt k.ae ∧ s.i = k.d.length)
  eof : Sent w k.K 0 k.ae

theorem Rd.ky_ne {w : World} {k : RK} {s : RS} (h : Rd w k s) : k.Y ≠ k.B := h.yb.ne_ h.bb (by decide)
theorem Rd.kc_ne {w : World} {k : RK} {s : RS} (h : Rd w k s) : k.C ≠ k.B := h.cb.ne_ h.bb (by decide)
theorem Rd.cy_ne {w : World} {k : RK} {s : RS} (h : Rd w k s) : k.C ≠ k.Y := h.cb.ne_ h.yb (by decide)
theorem Rd.pos_le {w : World} {k : RK} {s : RS} (h : Rd w k s) : s.pos + (s.wp - s.r) = s.i := by have := h.bl; unfold RS.pos; omega

/-- The blocks of a reader. -/
abbrev RK.blocks (k : RK) : List Nat := [k.B, k.C, k.Y]
theorem Rd.below {w w' : World} {k : RK} {s : RS} (h : Rd w k s) (ht : Turned k.blocks w w') : Below k.K w w' :=
  ht.below (by have := h.kb; have := h.bb.lt; omega) (fun x hx => by
    simp [RK.blocks] at hx
    rcases hx with rfl | rfl | rfl
    · exact h.kb
    · exact h.kc
    · exact h.ky)
/-- The state in a world in which nothing of it has turned. -/
theorem Rd.keep {w w' : World} {k : RK} {s : RS} {S : List Nat} (h : Rd w k s) (ht : Turned S w w') (hB : k.B ∉ S) (hC : k.C ∉ S) (hY : k.Y ∉ S) (hS : ∀ x, x ∈ S → k.K ≤ x ∧ (∀ so, k.sa ≠ some ⟨x, so, none⟩)) : Rd w' k s where
  bb := ht.blk h.bb hB
  cb := ht.blk h.cb hC
  yb := ht.blk h.yb hY
  src := by
    rcases h.src with h0 | ⟨S', so, e, h1, h2, h3, h4, h5⟩
    · exact .inl h0
    · exact .inr ⟨S', so, e, h1, h2, h3, Nat.lt_of_lt_of_le h4 ht.size, h5.of_block (ht.block S' h4 (fun hx => (hS S' hx).2 so e))⟩
  kb := h.kb
  kc := h.kc
  ky := h.ky
  dl := h.dl
  dc := h.dc
  cl := h.cl
  rw := h.rw
  wl := h.wl
  il := h.il
  bl := h.bl
  buf := h.buf
  er := h.er
  eof := h.eof.keep (ht.below (by have := h.kb; have := h.bb.lt; omega) (fun x hx => (hS x hx).1))
/-- Block x is not the data's. -/
def Off (k : RK) (x : Nat) : Prop := k.d = [] ∨ ∀ so, k.sa ≠ some ⟨x, so, none⟩
theorem Rd.keepOff {w w' : World} {k : RK} {s : RS} {S : List Nat} (h : Rd w k s) (ht : Turned S w w') (hB : k.B ∉ S) (hC : k.C ∉ S) (hY : k.Y ∉ S) (hS : ∀ x, x ∈ S → k.K ≤ x ∧ Off k x) : Rd w' k s where
  bb := ht.blk h.bb hB
  cb := ht.blk h.cb hC
  yb := ht.blk h.yb hY
  src := by
    rcases h.src with h0 | ⟨S', so, e, h1, h2, h3, h4, h5⟩
    · exact .inl h0
    · by_cases hx : S' ∈ S
      · rcases (hS S' hx).2 with h0 | h0
        · exact .inl h0
        · exact absurd e (h0 so)
      · exact .inr ⟨S', so, e, h1, h2, h3, Nat.lt_of_lt_of_le h4 ht.size, h5.of_block (ht.block S' h4 hx)⟩
  kb := h.kb
  kc := h.kc
  ky := h.ky
  dl := h.dl
  dc := h.dc
  cl := h.cl
  rw := h.rw
  wl := h.wl
  il := h.il
  bl := h.bl
  buf := h.buf
  er := h.er
  eof := h.eof.keep (ht.below (by have := h.kb; have := h.bb.lt; omega) (fun x hx => (hS x hx).1))
/-- What is new is not the data's. -/
theorem Rd.offNew {w : World} {k : RK} {s : RS} (h : Rd w k s) {x : Nat} (hx : w.heap.size ≤ x) : Off k x := by
  rcases h.src with h0 | ⟨S', so, e, h1, h2, h3, h4, h5⟩
  · exact .inl h0
  · refine .inr fun so' e' => ?_
    rw [e] at e'
    injection e' with e'
    injection e' with e'
    omega
theorem Rd.keepNew {w w' : World} {k : RK} {s : RS} (h : Rd w k s) (ht : Turned [] w w') : Rd w' k s :=
  h.keep ht (by simp) (by simp) (by simp) (by simp)

/-- The state behind writes to the reader's own blocks. -/
theorem Rd.next {w w' : World} {k : RK} {s s' : RS} (h : Rd w k s) (ht : Turned k.blocks w w') (hb : Blk w' k.B 163 (bufCells k s')) (hc : Blk w' k.C 5 s'.cur.toArray) (hy : Blk w' k.Y 161 (srcCells k s'))
    (cl : s'.cur.length = 4096) (rw : s'.r ≤ s'.wp) (wl : s'.wp ≤ 4096) (il : s'.i ≤ k.d.length) (bl : s'.wp - s'.r ≤ s'.i)
    (buf : ∀ j u, j < s'.wp - s'.r → k.d[s'.pos + j]? = some u → s'.cur[s'.r + j]? = some (.int .u8 (u.toNat : Int))) (er : s'.er = .nilIface ∨ (s'.er = errAt k.ae ∧ s'.i = k.d.length)) : Rd w' k s' where
  bb := hb
  cb := hc
  yb := hy
  src := by
    rcases h.src with h0 | ⟨S', so, e, h1, h2, h3, h4, h5⟩
    · exact .inl h0
    · exact .inr ⟨S', so, e, h1, h2, h3, Nat.lt_of_lt_of_le h4 ht.size, h5.of_block (ht.block S' h4 (by simp [RK.blocks]; exact ⟨h1, h2, h3⟩))⟩
  kb := h.kb
  kc := h.kc
  ky := h.ky
  dl := h.dl
  dc := h.dc
  cl := cl
  rw := rw
  wl := wl
  il := il
  bl := bl
  buf := buf
  er := er
  eof := h.eof.keep (h.below ht)

theorem splice_in {α : Type} (L : List α) (off : Nat) (cs : List α) (j : Nat) (h : off ≤ L.length) (hj : j < cs.length) : (splice L off cs)[off + j]? = cs[j]? := by
  unfold splice
  rw [List.getElem?_append_right (by rw [List.length_take]; omega), List.length_take, Nat.min_eq_left h, Nat.add_sub_cancel_left, List.getElem?_append_left hj]
theorem splice_low {α : Type} (L : List α) (off : Nat) (cs : List α) (j : Nat) (h : off ≤ L.length) (hj : j < off) : (splice L off cs)[j]? = L[j]? := by
  unfold splice
  rw [List.getElem?_append_left (by rw [List.length_take]; omega), List.getElem?_take_of_lt hj]

/-- The cells of B by name. -/
theorem Rd.cells {w : World} {k : RK} {s : RS} (h : Rd w k s) :
    w.cell? ⟨k.B, 0, none⟩ = some (.slice (some ⟨k.C, 0, none⟩) 4096 4096) ∧ w.cell? ⟨k.B, 1, none⟩ = some (.iface 121 (.pointer (some ⟨k.Y, 0, none⟩))) ∧ w.cell? ⟨k.B, 2, none⟩ = some (.int .i64 (s.r : Int)) ∧
    w.cell? ⟨k.B, 3, none⟩ = some (.int .i64 (s.wp : Int)) ∧ w.cell? ⟨k.B, 4, none⟩ = some s.er ∧ w.cell? ⟨k.B, 5, none⟩ = some (.int .i64 s.lb) ∧ w.cell? ⟨k.B, 6, none⟩ = some (.int .i64 s.lr) := by
  have hb := h.bb
  refine ⟨?_, ?_, ?_, ?_, ?_, ?_, ?_⟩ <;> (rw [hb.cell]; rfl)
end Go.Proofs.YthobojpbdeepoaaDoor
