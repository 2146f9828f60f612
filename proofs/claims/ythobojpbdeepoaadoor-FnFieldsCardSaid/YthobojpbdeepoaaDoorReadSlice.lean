/-
  The contract of (*bufio.Reader).ReadSlice at a line feed.
-/
import Derived.Test.YthobojpbdeepoaaDoorReadByte
import Derived.Test.YthobojpbdeepoaaDoorIndexByte
namespace Go.Proofs.YthobojpbdeepoaaDoor
open Go.RowKit

/-- No line feed among the n bytes from place p on. -/
def NoNl (d : List UInt8) (p n : Nat) : Prop := ∀ j, j < n → d[p + j]? ≠ some 10

/-- May a fill still come? -/
def erN : Value → Nat
  | .nilIface => 1
  | _ => 0

/-- What ReadSlice leaves: the slice's place and length in the buffer, the error. -/
structure SliceOut (k : RK) (s : RS) (fe : Addr) (w : World) (off n cap : Nat) (er : Value) (w' : World) (s' : RS) : Prop where
  turned : Turned k.blocks w w'
  rd : Rd w' k s'
  pos : s'.pos = s.pos + n
  fit : off + n ≤ 4096
  capn : n ≤ cap
  capm : cap ≤ 4096
  rr : off + n ≤ s'.r
  le : s.pos + n ≤ k.d.length
  row : Row8 w' k.C off ((k.d.drop s.pos).take n)
  way : (er = .nilIface ∧ 1 ≤ n ∧ k.d[s.pos + (n - 1)]? = some 10 ∧ NoNl k.d s.pos (n - 1)) ∨ (er = errAt k.ae ∧ s.pos + n = k.d.length ∧ NoNl k.d s.pos n) ∨
    (er = errAt fe ∧ n = 4096 ∧ off = 0 ∧ NoNl k.d s.pos n ∧ s'.r = 4096)

def SlicePost (k : RK) (s : RS) (fe : Addr) (w : World) (e : Ending) (w' : World) : Prop :=
  ∃ off n cap er s', e = .returned (.tuple #[.slice (some ⟨k.C, off, none⟩) n cap, er]) ∧ SliceOut k s fe w off n cap er w' s'

/-- The bytes of the buffer that are looked through. -/
theorem Rd.part {w : World} {k : RK} {s : RS} (h : Rd w k s) (sc : Nat) (hs : sc ≤ s.wp - s.r) : Row8 w k.C (s.r + sc) ((k.d.drop (s.pos + sc)).take (s.wp - s.r - sc)) := by
  intro j u hu
  have hj : j < s.wp - s.r - sc := by
    have h1 := (List.getElem?_eq_some_iff.1 hu).1
    rw [List.length_take] at h1
    omega
  rw [List.getElem?_take_of_lt hj, List.getElem?_drop] at hu
  have h2 := h.buf (sc + j) u (by omega) (by rw [← Nat.add_assoc]; exact hu)
  rw [h.cb.cell, Nat.add_assoc]
  simpa using h2
theorem Rd.part_length {w : World} {k : RK} {s : RS} (h : Rd w k s) (sc : Nat) (hs : sc ≤ s.wp - s.r) : ((k.d.drop (s.pos + sc)).take (s.wp - s.r - sc)).length = s.wp - s.r - sc := by
  have h1 := h.pos_le
  have h2 := h.il
  rw [List.length_take, List.length_drop]
  omega

theorem noNl_more {d : List UInt8} {p sc m : Nat} (h : NoNl d p sc) (hm : ∀ j, j < m → d[p + sc + j]? ≠ some 10) : NoNl d p (sc + m) := by
  intro j hj
  rcases Nat.lt_or_ge j sc with h1 | h1
  · exact h j h1
  · have h2 := hm (j - sc) (by omega)
    rwa [show p + sc + (j - sc) = p + j from by omega] at h2

theorem Rd.row_take {w : World} {k : RK} {s : RS} (h : Rd w k s) (n : Nat) (hn : n ≤ s.wp - s.r) : Row8 w k.C s.r ((k.d.drop s.pos).take n) := by
  intro j u hu
  have hj : j < n := by
    have h1 := (List.getElem?_eq_some_iff.1 hu).1
    rw [List.length_take] at h1
    omega
  rw [List.getElem?_take_of_lt hj, List.getElem?_drop] at hu
  have h2 := h.buf j u (by omega) hu
  rw [h.cb.cell]
  simpa using h2

theorem SliceOut.on {k : RK} {s s2 s3 : RS} {fe : Addr} {w w2 w3 : World} {off n cap : Nat} {er : Value} (h : SliceOut k s fe w off n cap er w2 s2) (hT : Turned [k.B] w2 w3) (hR : Rd w3 k s3) (hr : s3.r = s2.r) (hp : s3.pos = s2.pos) :
    SliceOut k s fe w off n cap er w3 s3 where
  turned := h.turned.trans (hT.mono (by simp [RK.blocks]))
  rd := hR
  pos := hp.trans h.pos
  fit := h.fit
  capn := h.capn
  capm := h.capm
  rr := by rw [hr]; exact h.rr
  le := h.le
  row := h.row.of_block (hT.block _ h.rd.cb.lt (by simpa using h.rd.kc_ne))
  way := by rw [hr]; exact h.way
theorem SliceOut.ends {k : RK} {s s2 : RS} {fe : Addr} {w w2 : World} {off n cap : Nat} {er : Value} (h : SliceOut k s fe w off n cap er w2 s2) (x y : Int) :
    ∃ s', SliceOut k s fe w off n cap er ((w2.setCell ⟨k.B, 5, none⟩ (.int .i64 x)).setCell ⟨k.B, 6, none⟩ (.int .i64 y)) s' :=
  ⟨_, h.on (((Turned.refl _ _).setCell (.inl (by simp)) _).setCell (.inl (by simp)) _) ((h.rd.set_lb x).set_lr y) rfl rfl⟩
theorem slice_core {k : RK} {s s1 : RS} {fe : Addr} {w wr : World} (hR : Rd wr k s1) (hT : Turned k.blocks w wr) (hp : s1.pos = s.pos) (n cap : Nat) (hn : s1.r + n ≤ s1.wp) (hc : n ≤ cap) (hm : cap ≤ 4096) (er : Value)
    (way : (er = .nilIface ∧ 1 ≤ n ∧ k.d[s.pos + (n - 1)]? = some 10 ∧ NoNl k.d s.pos (n - 1)) ∨ (er = errAt k.ae ∧ s.pos + n = k.d.length ∧ NoNl k.d s.pos n) ∨
      (er = errAt fe ∧ n = 4096 ∧ s1.r = 0 ∧ NoNl k.d s.pos n ∧ s1.r + n = 4096)) :
    SliceOut k s fe w s1.r n cap er (wr.setCell ⟨k.B, 2, none⟩ (.int .i64 ((s1.r + n : Nat) : Int))) { s1 with r := s1.r + n } := by
  have h1 := hR.set_r n hn
  have h2 := hR.pos_le
  have h3 := hR.il
  have h4 := hR.wl
  have hT1 := (Turned.refl k.blocks wr).setCell (p := ⟨k.B, 2, none⟩) (.inl (by simp [RK.blocks])) (.int .i64 ((s1.r + n : Nat) : Int))
  refine ⟨hT.trans hT1, h1, ?_, by omega, hc, hm, Nat.le_refl _, by omega, ?_, ?_⟩
  · rw [pos_add hn hR.bl, hp]
  · have h5 := hR.row_take n (by omega)
    rw [hp] at h5
    refine h5.of_block (Below.heap_setCell _ _ _ _ ?_)
    simpa using hR.kc_ne
  · rcases way with h5 | h5 | ⟨h5, h6, h7, h8, h9⟩
    · exact .inl h5
    · exact .inr (.inl h5)
    · exact .inr (.inr ⟨h5, h6, h7, h8, h9⟩)
theorem slice_nl {k : RK} {s s1 : RS} {fe : Addr} {w wr : World} (hR : Rd wr k s1) (hT : Turned k.blocks w wr) (hp : s1.pos = s.pos) (sc o : Nat) (hno : NoNl k.d s.pos sc) (ho : o < s1.wp - s1.r - sc)
    (h10 : ((k.d.drop (s1.pos + sc)).take (s1.wp - s1.r - sc))[o]? = some 10) (hbef : ∀ j, j < o → ((k.d.drop (s1.pos + sc)).take (s1.wp - s1.r - sc))[j]? ≠ some 10) (q : Nat) :
    SlicePost k s fe w (.returned (.tuple #[.slice (some ⟨k.C, s1.r, none⟩) (o + sc + 1) (4096 - s1.r), .nilIface]))
      ((((wr.drewN q).setCell ⟨k.B, 2, none⟩ (.int .i64 ((s1.r : Int) + ((o : Int) + (sc : Int) + 1)))).setCell ⟨k.B, 5, none⟩ (.int .i64 10)).setCell ⟨k.B, 6, none⟩ (.int .i64 (-1))) := by
  have hrw := hR.rw
  have hwl := hR.wl
  have e : ((s1.r : Int) + ((o : Int) + (sc : Int) + 1)) = ((s1.r + (o + sc + 1) : Nat) : Int) := by omega
  rw [e]
  rw [List.getElem?_take_of_lt ho, List.getElem?_drop] at h10
  have h1 := slice_core (fe := fe) (hR.drewN q) (hT.drewN q) hp (o + sc + 1) (4096 - s1.r) (by omega) (by omega) (by omega) .nilIface (.inl ⟨rfl, by omega, by
    rw [← hp, ← h10]
    congr 1
    omega, by
    rw [Nat.add_sub_cancel, Nat.add_comm]
    refine noNl_more hno fun j hj => ?_
    have h2 := hbef j hj
    rw [List.getElem?_take_of_lt (by omega), List.getElem?_drop, hp] at h2
    exact h2⟩)
  obtain ⟨s', h2⟩ := h1.ends 10 (-1)
  exact ⟨_, _, _, _, s', rfl, h2⟩
theorem part_cell {k : RK} {s1 : RS} {wr : World} (hR : Rd wr k s1) (sc o : Nat) (hsc : sc ≤ s1.wp - s1.r) (h10 : ((k.d.drop (s1.pos + sc)).take (s1.wp - s1.r - sc))[o]? = some 10) : wr.cell? ⟨k.C, s1.r + (o + sc), none⟩ = some (.int .u8 10) := by
  have h1 := hR.part sc hsc o 10 h10
  rw [show s1.r + (o + sc) = s1.r + sc + o from by omega]
  exact h1

theorem SliceOut.shift {k : RK} {s s2 : RS} {fe : Addr} {w w2 : World} {off cap : Nat} {er : Value} (h : SliceOut k s fe w off 0 cap er w2 s2) (cap' : Nat) (hm : cap' ≤ 4096) (hn : er ≠ errAt fe) : SliceOut k s fe w 0 0 cap' er w2 s2 where
  turned := h.turned
  rd := h.rd
  pos := h.pos
  fit := by omega
  capn := Nat.zero_le _
  capm := hm
  rr := Nat.zero_le _
  le := h.le
  row := by intro j u hj; simp at hj
  way := by
    rcases h.way with h1 | h1 | h1
    · exact .inl h1
    · exact .inr (.inl h1)
    · exact absurd h1.1 hn
/-- The search through the buffer found nothing. -/
theorem noNl_all {k : RK} {s s1 : RS} (hp : s1.pos = s.pos) (sc : Nat) (hsc : sc ≤ s1.wp - s1.r) (hno : NoNl k.d s.pos sc) (h : ∀ j : Nat, ((k.d.drop (s1.pos + sc)).take (s1.wp - s1.r - sc))[j]? ≠ some 10) :
    NoNl k.d s.pos (s1.wp - s1.r) := by
  rw [show s1.wp - s1.r = sc + (s1.wp - s1.r - sc) from by omega]
  refine noNl_more hno fun j hj => ?_
  have h1 := h j
  rw [List.getElem?_take_of_lt hj, List.getElem?_drop, hp] at h1
  exact h1
theorem quiet_drew {P : Program} {f : FuncId} {args : Array Value} {w : World} {n : Nat} {v : Value}
    (h : Calls P f args (w.drewN n) fun e w' => e = .returned v ∧ ∃ m, w' = (w.drewN n).drewN m) : Calls P f args (w.drewN n) fun e w'' => e = .returned v ∧ ∃ m, w'' = w.drewN m :=
  h.mono fun _ _ ⟨he, m, hm⟩ => ⟨he, n + m, by rw [hm, World.drewN_drewN]⟩
theorem quiet_drew2 {P : Program} {f : FuncId} {args : Array Value} {w : World} {m n : Nat} {v : Value}
    (h : Calls P f args (w.drewN (m + n)) fun e w' => e = .returned v ∧ ∃ j, w' = (w.drewN (m + n)).drewN j) : Calls P f args (w.drewN (m + n)) fun e w'' => e = .returned v ∧ ∃ j, w'' = w.drewN (m + j) :=
  h.mono fun _ _ ⟨he, j, hm⟩ => ⟨he, n + j, by rw [hm, World.drewN_drewN, Nat.add_assoc]⟩
theorem buffered_any (k : RK) (s : RS) (w : World) (h : Rd w k s) :
    Calls Tryd.prog 97 #[.pointer (some ⟨k.B, 0, none⟩)] w fun e w' => e = .returned (.int .i64 ((s.wp : Int) - (s.r : Int))) ∧ ∃ m, w' = w.drewN m := by
  obtain ⟨c0, c1, c2, c3, c4, c5, c6⟩ := h.cells
  have hrw := h.rw
  have hwl := h.wl
  have b0 : IntKind.i64.wrap ((s.wp : Int) - (s.r : Int)) = (s.wp : Int) - (s.r : Int) := IntWalk.i64_in _ (by omega)
  go_enter Tryd.func97, Tryd.ntmps97
  go_wp2_with fail
  go_quiet (fail)
  go_wp2_with fail
  go_ret
  exact ⟨rfl, _, rfl⟩
/-- The pending error is told. -/
theorem slice_err {k : RK} {s s1 : RS} {fe : Addr} {w wr : World} (hR : Rd wr k s1) (hT : Turned k.blocks w wr) (hp : s1.pos = s.pos) (hno : NoNl k.d s.pos (s1.wp - s1.r)) (he : s1.er = errAt k.ae) (hi : s1.i = k.d.length) (q : Nat) :
    Calls Tryd.prog 89 #[.pointer (some ⟨k.B, 0, none⟩)] ((wr.drewN q).setCell ⟨k.B, 2, none⟩ (.int .i64 (s1.wp : Int))) fun e w2 =>
      e = .returned (errAt k.ae) ∧ ∃ s2, SliceOut k s fe w s1.r (s1.wp - s1.r) (4096 - s1.r) (errAt k.ae) w2 s2 ∧ Turned [k.B] ((wr.drewN q).setCell ⟨k.B, 2, none⟩ (.int .i64 (s1.wp : Int))) w2 := by
  have hrw := hR.rw
  have hwl := hR.wl
  have h1 := slice_core (fe := fe) (hR.drewN q) (hT.drewN q) hp (s1.wp - s1.r) (4096 - s1.r) (by omega) (by omega) (by omega) (errAt k.ae) (.inr (.inl ⟨rfl, by
    have h2 := hR.pos_le
    omega, hno⟩))
  rw [show s1.r + (s1.wp - s1.r) = s1.wp from by omega] at h1
  refine (readErr_any k _ _ h1.rd).mono ?_
  rintro e w2 ⟨rfl, hT2, hR2⟩
  refine ⟨?_, _, h1.on hT2 hR2 rfl rfl, hT2⟩
  show _ = Ending.returned (errAt k.ae)
  rw [← he]
/-- What a round of ReadSlice's loop keeps. -/
def SliceRel (k : RK) (s : RS) (w : World) (g : Nat) (v : Value) (wr : World) : Prop :=
  ∃ s1 sc, Rd wr k s1 ∧ Turned k.blocks w wr ∧ s1.pos = s.pos ∧ v = .int .i64 ((sc : Nat) : Int) ∧ sc ≤ s1.wp - s1.r ∧ (s1.r + sc = 4096 → sc = 0) ∧ NoNl k.d s.pos sc ∧ k.d.length - s1.i + erN s1.er ≤ g
theorem slice_fill {k : RK} {s s1 : RS} {w wr : World} (hR : Rd wr k s1) (hT : Turned k.blocks w wr) (hp : s1.pos = s.pos) (hno : NoNl k.d s.pos (s1.wp - s1.r)) (he : s1.er = .nilIface) (hn : s1.wp - s1.r < 4096) (g : Nat) (hg : k.d.length - s1.i + erN s1.er ≤ g) (q : Nat) :
    Calls Tryd.prog 90 #[.pointer (some ⟨k.B, 0, none⟩)] (wr.drewN q) fun e w2 => e = .returned (.tuple #[]) ∧ SliceRel k s w (g - 1) (.int .i64 ((s1.wp : Int) - (s1.r : Int))) w2 := by
  have hrw := hR.rw
  refine (fill_any k s1 _ (hR.drewN q) he hn).mono ?_
  rintro e w2 ⟨rfl, hT2, s2, hR2, hp2, hr2, -, hor⟩
  have h1 := hR.pos_le
  have h2 := hR2.pos_le
  have h3 := hR2.il
  have h4 := hR.il
  rw [he] at hg
  have hg : k.d.length - s1.i + 1 ≤ g := hg
  refine ⟨rfl, s2, s1.wp - s1.r, hR2, (hT.drewN q).trans hT2, hp2.trans hp, ?_, ?_, by omega, hno, ?_⟩
  · rw [show ((s1.wp : Int) - (s1.r : Int)) = ((s1.wp - s1.r : Nat) : Int) from by omega]
  · rcases hor with ⟨h5, _⟩ | ⟨h5, _⟩ <;> omega
  · rcases hor with ⟨h5, h6⟩ | ⟨h5, h6, h7⟩
    · rw [h6]
      show _ + 1 ≤ _
      omega
    · rw [h6]
      show _ + 0 ≤ _
      omega
theorem slice_full {k : RK} {s s1 : RS} {fe : Addr} {w wr : World} (hR : Rd wr k s1) (hT : Turned k.blocks w wr) (hp : s1.pos = s.pos) (hno : NoNl k.d s.pos (s1.wp - s1.r)) (hr : s1.r = 0) (hw : s1.wp = 4096) :
    ∃ u : UInt8, wr.cell? ⟨k.C, 4095, none⟩ = some (.int .u8 (u.toNat : Int)) ∧ ∀ q,
    SlicePost k s fe w (.returned (.tuple #[.slice (some ⟨k.C, 0, none⟩) 4096 4096, errAt fe]))
      ((((wr.drewN q).setCell ⟨k.B, 2, none⟩ (.int .i64 (s1.wp : Int))).setCell ⟨k.B, 5, none⟩ (.int .i64 (u.toNat : Int))).setCell ⟨k.B, 6, none⟩ (.int .i64 (-1))) := by
  have hpl := hR.pos_le
  have hil := hR.il
  obtain ⟨u, hu⟩ : ∃ u, k.d[s1.pos + 4095]? = some u := ⟨_, List.getElem?_eq_getElem (by omega)⟩
  refine ⟨u, ?_, fun q => ?_⟩
  · have h1 := hR.buf 4095 u (by omega) hu
    rw [hR.cb.cell]
    rw [hr, Nat.zero_add] at h1
    simpa using h1
  · have h1 := slice_core (fe := fe) (hR.drewN q) (hT.drewN q) hp 4096 4096 (by omega) (by omega) (by omega) (errAt fe) (.inr (.inr ⟨rfl, rfl, hr, by rwa [hw, hr] at hno, by omega⟩))
    rw [hr, Nat.zero_add] at h1
    rw [hw]
    obtain ⟨s', h2⟩ := h1.ends (u.toNat : Int) (-1)
    exact ⟨_, _, _, _, s', rfl, h2⟩
/-- The pending error is told, no byte ahead of it. -/
theorem slice_err0 {k : RK} {s s1 : RS} {fe : Addr} {w wr : World} (hR : Rd wr k s1) (hT : Turned k.blocks w wr) (hp : s1.pos = s.pos) (he : s1.er = errAt k.ae) (hi : s1.i = k.d.length) (hn : s1.wp = s1.r) (hfe : k.ae ≠ fe) (q : Nat) :
    Calls Tryd.prog 89 #[.pointer (some ⟨k.B, 0, none⟩)] ((wr.drewN q).setCell ⟨k.B, 2, none⟩ (.int .i64 (s1.wp : Int))) fun e w2 =>
      e = .returned (errAt k.ae) ∧ ∀ cap, cap ≤ 4096 → SlicePost k s fe w (.returned (.tuple #[.slice (some ⟨k.C, s1.r, none⟩) 0 (4096 - s1.r), errAt k.ae])) w2 ∧ SlicePost k s fe w (.returned (.tuple #[.slice (some ⟨k.C, 0, none⟩) 0 cap, errAt k.ae])) w2 := by
  refine (slice_err (fe := fe) hR hT hp (by rw [hn, Nat.sub_self]; exact fun j hj => absurd hj (Nat.not_lt_zero j)) he hi q).mono ?_
  rintro e w2 ⟨rfl, s2, h1, h2⟩
  rw [hn, Nat.sub_self] at h1
  refine ⟨rfl, fun cap hcap => ⟨⟨_, _, _, _, s2, rfl, h1⟩, ⟨_, _, _, _, s2, rfl, h1.shift cap hcap ?_⟩⟩⟩
  intro h3
  injection h3 with _ h3
  injection h3 with h3
  injection h3 with h3
  exact hfe h3
/-- The pending error is told, n bytes ahead of it. -/
theorem slice_errN {k : RK} {s s1 : RS} {fe : Addr} {w wr : World} (hR : Rd wr k s1) (hT : Turned k.blocks w wr) (hp : s1.pos = s.pos) (n : Nat) (hn : s1.wp = s1.r + n) (h1n : 1 ≤ n) (hno : NoNl k.d s.pos n) (he : s1.er = errAt k.ae) (hi : s1.i = k.d.length) (q : Nat) :
    Calls Tryd.prog 89 #[.pointer (some ⟨k.B, 0, none⟩)] ((wr.drewN q).setCell ⟨k.B, 2, none⟩ (.int .i64 ((s1.r : Int) + (n : Int)))) fun e w2 =>
      e = .returned (errAt k.ae) ∧ ∃ (u : UInt8) (x5 x6 : Value), w2.cell? ⟨k.B, 5, none⟩ = some x5 ∧ w2.cell? ⟨k.B, 6, none⟩ = some x6 ∧ w2.cell? ⟨k.C, s1.r + (n - 1), none⟩ = some (.int .u8 (u.toNat : Int)) ∧ w2.frozen? ⟨k.B, 5, none⟩ = false ∧ w2.frozen? ⟨k.B, 6, none⟩ = false ∧
        Hid (SlicePost k s fe w (.returned (.tuple #[.slice (some ⟨k.C, s1.r, none⟩) n (4096 - s1.r), errAt k.ae])) ((w2.setCell ⟨k.B, 5, none⟩ (.int .i64 (u.toNat : Int))).setCell ⟨k.B, 6, none⟩ (.int .i64 (-1)))) := by
  have e1 : s1.wp - s1.r = n := by omega
  have h0 := slice_err (fe := fe) hR hT hp (by rwa [e1]) he hi q
  rw [e1, show (s1.wp : Int) = (s1.r : Int) + (n : Int) from by omega] at h0
  refine h0.mono ?_
  rintro e w2 ⟨rfl, s2, h1, h2⟩
  have hle := h1.le
  obtain ⟨u, hu⟩ : ∃ u, k.d[s.pos + (n - 1)]? = some u := ⟨_, List.getElem?_eq_getElem (by omega)⟩
  obtain ⟨s', h3⟩ := h1.ends (u.toNat : Int) (-1)
  obtain ⟨_, _, _, _, _, d5, d6⟩ := h1.rd.cells
  refine ⟨rfl, u, _, _, d5, d6, h1.row (n - 1) u ?_, h1.rd.frozen 5, h1.rd.frozen 6, ⟨_, _, _, _, s', rfl, h3⟩⟩
  rw [List.getElem?_take_of_lt (by omega), List.getElem?_drop, hu]

set_option maxRecDepth 100000 in
set_option maxHeartbeats 8000000 in
theorem readSlice_any (k : RK) (s : RS) (w : World) (fe : Addr) (h : Rd w k s) (hF : Sent w k.K 6 fe) (hfe : k.ae ≠ fe) :
    Calls Tryd.prog 115 #[.pointer (some ⟨k.B, 0, none⟩), .int .u8 10] w (SlicePost k s fe w) := by
  go_enter Tryd.func115, Tryd.ntmps115
  go_wp2_with fail
  go_loopg [5, 6] (k.d.length - s.i + 1) (fun g v5 v wr => v5 = .nilIface ∧ SliceRel k s w g v wr)
  case atStart =>
    have h1 := h.il
    refine ⟨rfl, s, 0, h, Turned.refl _ _, rfl, rfl, Nat.zero_le _, fun _ => rfl, (fun j hj => absurd hj (Nat.not_lt_zero j)), ?_⟩
    rcases h.er with h2 | ⟨h2, h3⟩
    · rw [h2]
      show _ + 1 ≤ _
      omega
    · rw [h2]
      show _ + 0 ≤ _
      omega
  case round =>
    obtain ⟨rfl, s1, sc, hR, hT, hp, rfl, hsc, h4, hno, hg⟩ := hrel
    obtain ⟨c0, c1, c2, c3, c4, c5, c6⟩ := hR.cells
    have hrw := hR.rw
    have hwl := hR.wl
    have hbl := hR.bl
    have b0 : (0 : Int) ≤ (s1.r : Int) := by omega
    have b1 : (s1.r : Int) ≤ 4096 := by omega
    have b2 : (0 : Int) ≤ (sc : Int) := by omega
    have b3 : (sc : Int) ≤ 4096 := by omega
    have b4 : (0 : Int) ≤ (s1.r : Int) + (sc : Int) := by omega
    have b5 : (s1.r : Int) + (sc : Int) ≤ (s1.wp : Int) := by omega
    have b6 : (s1.wp : Int) ≤ 4096 := by omega
    have e1 : IntKind.i64.wrap ((s1.r : Int) + (sc : Int)) = (s1.r : Int) + (sc : Int) := IntWalk.i64_in _ (by omega)
    have e2 : ((s1.r : Int) + (sc : Int)).toNat = s1.r + sc := by omega
    by_cases hf : s1.r + sc = 4096
    · have hsc0 := h4 hf
      subst hsc0
      have hr4 : s1.r = 4096 := hf
      have hw4 : s1.wp = 4096 := by omega
      have IQ := fun q => indexByte_any k.C 0 0 [] 10 (wr.drewN q) (by intro j u hj; simp at hj)
      rw [show Lib.indexByte [] 10 = -1 from rfl] at IQ
      have BQ := Lib.hid (fun q => buffered_any k s1 (wr.drewN q) (hR.drewN q))
      have FI := fun he => slice_fill hR hT hp (by rw [hr4, hw4]; exact hno) he (by omega) gk hg
      have FE := fun he hi => slice_err0 (fe := fe) hR hT hp he hi (by omega) hfe
      have hor := hR.er
      have HQ := Lib.hid IQ
      have HG : Hid (s1.er = .nilIface → 1 ≤ gk) := fun he => by
        rw [he] at hg
        exact Nat.le_trans (Nat.le_add_left 1 _) hg
      have f2 := hR.frozen 2
      rw [hr4] at c2 BQ FI
      rw [hw4] at c3 BQ FI FE
      rw [show ((4096 : Nat) : Int) = 4096 from rfl] at FE
      clear IQ hw4 hf h4 hsc hno hp hT b0 b1 b2 b3 b4 b5 b6 e1 e2 hrw hwl hbl hg h
      rcases hor with her | ⟨her, hie⟩
      · have FQ := Lib.hid (FI her)
        have HG := Lib.hid (HG.out her)
        rw [her] at c4
        clear FI FE her hR hr4
        go_wp2_with fail
        go_quiet ((go_at_call 116; exact quiet_left (HQ.out _)))
        go_wp2_with fail
        go_quiet ((go_at_call 97; exact quiet_drew2 (BQ.out _)))
        go_wp2_with fail
        go_quiet (fail)
        go_wp2_with (go_at_call 90; (with_reducible refine (FQ.out _).mono ?_); rintro e w2 ⟨rfl, hS2⟩)
        go_roundg (gk - 1)
        case rel => exact ⟨rfl, hS2⟩
        case measure => have := HG.out; omega
      · have FQ := FE her hie
        rw [her] at c4
        have FQ := Lib.hid FQ
        clear FI FE her hie hR HG hr4
        go_wp2_with fail
        go_quiet ((go_at_call 116; exact quiet_left (HQ.out _)))
        go_wp2_with fail
        go_quiet (fail)
        go_wp2_with (go_at_call 89; (with_reducible refine (FQ.out _).mono ?_); rintro e w2 ⟨rfl, hS2⟩)
        go_ret2
        exact (hS2 _ (by first | omega | decide | exact Nat.sub_le _ _)).2
    · have hf' : ¬ 4096 = s1.r + sc := fun e => hf e.symm
      clear hf
      have IQ := fun q => indexByte_any k.C (s1.r + sc) (4096 - (s1.r + sc)) ((k.d.drop (s1.pos + sc)).take (s1.wp - s1.r - sc)) 10 (wr.drewN q) (hR.part sc hsc)
      have hlen := hR.part_length sc hsc
      rw [hlen] at IQ
      have HP := Lib.hid hp
      have HN := Lib.hid hno
      have hge := Lib.indexByte_ge ((k.d.drop (s1.pos + sc)).take (s1.wp - s1.r - sc)) 10
      generalize hix : Lib.indexByte ((k.d.drop (s1.pos + sc)).take (s1.wp - s1.r - sc)) 10 = ix at IQ hge
      have e3 : s1.wp - s1.r - sc = s1.wp - (s1.r + sc) := by omega
      rw [e3] at IQ
      clear e3 h4 hp hno
      by_cases hneg : ix = -1
      · subst hneg
        have HX := noNl_all HP.out sc hsc HN.out (Lib.indexByte_none hix)
        have HQ := Lib.hid IQ
        have f2 := hR.frozen 2
        clear hge hix hlen IQ HN
        rcases hR.er with her | ⟨her, hie⟩
        · have HG : Hid (1 ≤ gk) := by
            have h1 := hg
            rw [her] at h1
            exact Nat.le_trans (Nat.le_add_left 1 _) h1
          have BQ := Lib.hid (fun q => buffered_any k s1 (wr.drewN q) (hR.drewN q))
          rw [her] at c4
          by_cases hfull : s1.wp - s1.r < 4096
          · have FQ := Lib.hid (slice_fill hR hT HP.out HX her hfull gk hg)
            have b7 : (s1.wp : Int) - (s1.r : Int) < 4096 := by omega
            have e3 : IntKind.i64.wrap ((s1.wp : Int) - (s1.r : Int)) = (s1.wp : Int) - (s1.r : Int) := IntWalk.i64_in _ (by omega)
            clear her hfull HX hR hT HP h hg hrw hwl hbl hsc
            go_wp2_with fail
            go_quiet ((go_at_call 116; exact quiet_left (HQ.out _)))
            go_wp2_with fail
            go_quiet ((go_at_call 97; exact quiet_drew2 (BQ.out _)))
            go_wp2_with fail
            go_quiet (fail)
            go_wp2_with (go_at_call 90; (with_reducible refine (FQ.out _).mono ?_); rintro e w2 ⟨rfl, hS2⟩)
            go_roundg (gk - 1)
            case rel => exact ⟨rfl, hS2⟩
            case measure => have := HG.out; omega
          · have hr0 : s1.r = 0 := by omega
            have hw4 : s1.wp = 4096 := by omega
            obtain ⟨u, cu, hu⟩ := slice_full (fe := fe) hR hT HP.out HX hr0 hw4
            have HF := Lib.hid hu
            have f5 := hR.frozen 5
            have f6 := hR.frozen 6
            have n1 := hR.kc_ne
            have n2 : k.B ≠ k.C := fun e => n1 e.symm
            have hbe := hF.keep (h.below hT)
            have cF := hbe.cell
            have n3 : k.B ≠ 6 := by have := hR.kb; have := hbe.glob; omega
            have n4 : 6 ≠ k.B := fun e => n3 e.symm
            have hu255 := u8_le u
            have b7 : (4096 : Int) ≤ (s1.wp : Int) - (s1.r : Int) := by omega
            clear hr0 hw4
            clear her hfull HX hR hT HP h hg hrw hwl hbl hsc HG hu hbe hF
            go_wp2_with fail
            go_quiet ((go_at_call 116; exact quiet_left (HQ.out _)))
            go_wp2_with fail
            go_quiet ((go_at_call 97; exact quiet_drew2 (BQ.out _)))
            go_wp2_with fail
            go_ret2
            exact HF.out _
        · obtain ⟨n, hn⟩ : ∃ n, s1.wp = s1.r + n := ⟨s1.wp - s1.r, by omega⟩
          by_cases hn0 : n = 0
          · subst hn0
            have FQ := Lib.hid (slice_err0 (fe := fe) hR hT HP.out her hie hn hfe)
            rw [her] at c4
            obtain rfl : sc = 0 := by rw [hn, Nat.add_zero, Nat.sub_self] at hsc; exact Nat.le_zero.1 hsc
            rw [hn, Nat.add_zero] at c3 FQ
            have g2 : ¬ 4096 = s1.r := by omega
            clear HQ e1 e2 b2 b3 b4 b5 b6 hf'
            have HQ := Lib.hid (fun q => indexByte_any k.C s1.r (4096 - s1.r) [] 10 (wr.drewN q) (by intro j u hj; simp at hj))
            rw [show Lib.indexByte [] 10 = -1 from rfl] at HQ
            have e1 : IntKind.i64.wrap (s1.r : Int) = (s1.r : Int) := IntWalk.i64_in _ (by omega)
            clear her hie HX hR hT HP h hg hrw hwl hbl
            go_wp2_with fail
            go_quiet ((go_at_call 116; exact quiet_left (HQ.out _)))
            go_wp2_with fail
            go_quiet (fail)
            go_wp2_with (go_at_call 89; (with_reducible refine (FQ.out _).mono ?_); rintro e w2 ⟨rfl, hS2⟩)
            go_ret2
            exact (hS2 0 (Nat.zero_le _)).1
          · have FQ := Lib.hid (slice_errN (fe := fe) hR hT HP.out n hn (by omega) (by rwa [show s1.wp - s1.r = n from by omega] at HX) her hie)
            rw [her] at c4
            have g2 : ¬ 4096 = s1.r := by omega
            have hn' : (s1.wp : Int) = (s1.r : Int) + (n : Int) := by omega
            rw [hn'] at c3 b5 b6
            rw [hn] at HQ
            have e3 : ((s1.r : Int) + (n : Int)).toNat = s1.r + n := by omega
            have e4 : IntKind.i64.wrap ((n : Int) - 1) = (n : Int) - 1 := IntWalk.i64_in _ (by omega)
            have e5 : ((n : Int) - 1).toNat = n - 1 := by omega
            have g3 : (0 : Int) ≤ (n : Int) - 1 := by omega
            have g5 : (1 : Int) ≤ (n : Int) := by omega
            have g4 : (s1.r : Int) ≤ (s1.r : Int) + (n : Int) := by omega
            clear her hie HX hR hT HP h hg hrw hwl hbl hn hn' hn0
            go_wp2_with fail
            go_quiet ((go_at_call 116; exact quiet_left (HQ.out _)))
            go_wp2_with fail
            go_quiet (fail)
            go_wp2_with (go_at_call 89; (with_reducible refine (FQ.out _).mono ?_); rintro e w2 ⟨rfl, u, x5, x6, d5, d6, cu, f5, f6, hS2⟩; have hu255 := u8_le u)
            go_ret2
            exact hS2.out
      · obtain ⟨o, rfl⟩ : ∃ o : Nat, ix = (o : Int) := ⟨ix.toNat, by omega⟩
        have HO := Lib.hid (Lib.indexByte_some hix)
        have ho : o < s1.wp - s1.r - sc := by
          have h1 := (List.getElem?_eq_some_iff.1 HO.out.1).1
          rwa [hlen] at h1
        have g0 : (0 : Int) ≤ (o : Int) := by omega
        have g1 : (s1.r : Int) + ((o : Int) + (sc : Int)) + 1 ≤ (s1.wp : Int) := by omega
        have g2 : ¬ 4096 = s1.r := by omega
        have g3 : (o : Int) + (sc : Int) ≤ 4096 := by omega
        have e4 : IntKind.i64.wrap ((s1.r : Int) + ((o : Int) + (sc : Int))) = (s1.r : Int) + ((o : Int) + (sc : Int)) := IntWalk.i64_in _ (by omega)
        have e5 : IntKind.i64.wrap ((s1.r : Int) + ((o : Int) + (sc : Int)) + 1) = (s1.r : Int) + ((o : Int) + (sc : Int)) + 1 := IntWalk.i64_in _ (by omega)
        have e6 : ((s1.r : Int) + ((o : Int) + (sc : Int)) + 1).toNat = s1.r + (o + sc + 1) := by omega
        have g4 : (s1.r : Int) ≤ (s1.r : Int) + ((o : Int) + (sc : Int)) + 1 := by omega
        have g5 : (s1.r : Int) + ((o : Int) + (sc : Int)) + 1 ≤ 4096 := by omega
        have HQ := Lib.hid IQ
        have HG := Lib.hid hg
        have HR := Lib.hid hR
        have f2 := hR.frozen 2
        have f5 := hR.frozen 5
        have f6 := hR.frozen 6
        have n1 := hR.kc_ne
        have n2 : k.B ≠ k.C := fun e => n1 e.symm
        have h10 := part_cell hR sc o hsc HO.out.1
        have HF := Lib.hid (fun q => slice_nl (fe := fe) hR hT HP.out sc o HN.out ho HO.out.1 HO.out.2 q)
        clear hneg hge hix hlen IQ hg hR h hrw hwl hbl hsc
        go_wp2_with fail
        go_quiet ((go_at_call 116; exact quiet_left (HQ.out _)))
        go_wp2_with fail
        go_quiet (fail)
        go_wp2_with fail
        go_ret2
        exact HF.out _
end Go.Proofs.YthobojpbdeepoaaDoor
