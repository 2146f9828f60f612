/-
  The contract of textproto's readContinuedLineSlice.
-/
import Derived.Test.YthobojpbdeepoaaDoorContBuf
import Derived.Test.YthobojpbdeepoaaDoorFnLineWalk
namespace Go.Proofs.YthobojpbdeepoaaDoor
open Go.RowKit

/-- Where the line lies that was handed out: it may be written. -/
def Place (k : RK) (w : World) (s' : RS) (w' : World) (v' : Value) (p : Option Addr) (cap : Nat) (t : List UInt8) : Prop :=
  t = [] ∨ ∃ b off, p = some ⟨b, off, none⟩ ∧ Row8 w' b off t ∧ Free8 w' b off t.length ∧ ((b = k.C ∧ off + t.length ≤ s'.r) ∨ (w.heap.size ≤ b ∧ b < w'.heap.size ∧ some b ≠ v'.ownBlock) ∨ v' = .slice p t.length cap)

/-- The buffer v' is v's own block, or a new one. -/
def OB (w : World) (v v' : Value) : Prop := v'.ownBlock = v.ownBlock ∨ ∃ g, v'.ownBlock = some g ∧ w.heap.size ≤ g
theorem OB.step {w : World} {v v1 v2 : Value} {n : Nat} (h : OB w v v1) (hat : v2.ownBlock = v1.ownBlock ∨ v2.ownBlock = some n) (hn : w.heap.size ≤ n) : OB w v v2 := by
  rcases hat with e | e
  · rcases h with h | ⟨g, h, hg⟩
    · exact .inl (e.trans h)
    · exact .inr ⟨g, e.trans h, hg⟩
  · exact .inr ⟨n, e, hn⟩
theorem Turned.join {S S' : List Nat} {w w1 w2 : World} (h : Turned S w w1) (k : Turned S' w1 w2) (hS : ∀ x, x ∈ S' → x ∈ S ∨ w.heap.size ≤ x) : Turned S w w2 :=
  ⟨k.os.trans h.os, k.tape.trans h.tape, k.output.trans h.output, Nat.le_trans h.size k.size, fun i hi hn => (k.block i (Nat.lt_of_lt_of_le hi h.size) (fun hx => by
    rcases hS i hx with g | g
    · exact hn g
    · omega)).trans (h.block i hi hn)⟩
/-- The blocks that it turns. -/
abbrev contBlocks (k : RK) (T : Nat) (v : Value) : List Nat := T :: (k.blocks ++ v.ownBlock.toList)
theorem OB.blocks {w : World} {k : RK} {T : Nat} {v v' : Value} (h : OB w v v') : ∀ x, x ∈ T :: v'.ownBlock.toList → x ∈ contBlocks k T v ∨ w.heap.size ≤ x := by
  intro x hx
  rcases List.mem_cons.1 hx with rfl | hx
  · exact .inl (by simp [contBlocks])
  · rcases h with h | ⟨g, h, hg⟩
    · rw [h] at hx
      exact .inl (by simp only [contBlocks, List.mem_cons, List.mem_append]; exact .inr (.inr hx))
    · rw [h] at hx
      simp at hx
      omega

theorem own_capm {w : World} {base n : Nat} {e : TypeId} {p : Option Addr} {cap : Nat} {xs : List Value} (h : w.ownsRow base e 1 (.slice p n cap) n xs) : cap ≤ 9223372036854775807 := by
  rcases h.2 with ⟨h0, _⟩ | ⟨g, c, cur, h0, _, _, _, hm, _⟩
  · injection h0 with _ _ h0
    omega
  · injection h0 with _ _ h0
    unfold maxLen at hm
    omega
/-- What readContinuedLineSlice leaves. -/
def CLPost (k : RK) (s : RS) (w : World) (T base : Nat) (v : Value) (er : List UInt8 → Value) (e : Ending) (w' : World) : Prop :=
  ∃ s' v' xs' res, Rd w' k s' ∧ Tb w' k T base v' xs' ∧ Turned (contBlocks k T v) w w' ∧ OB w v v' ∧ CSpec er (k.d.drop s.pos) res ∧
   ((res = .eof ∧ e = .returned (.tuple #[.slice none 0 0, errAt k.ae])) ∨
    (∃ l, res = .bad ∧ er l ≠ .nilIface ∧ e = .returned (.tuple #[.slice none 0 0, er l])) ∨
    (∃ t p cap, res = .line t (k.d.drop s'.pos) ∧ e = .returned (.tuple #[.slice p t.length cap, .nilIface]) ∧ t.length ≤ cap ∧ cap ≤ 9223372036854775807 ∧ t.length ≤ k.d.length ∧ Place k w s' w' v' p cap t ∧ (t ≠ [] → s.pos < s'.pos)))

/-- How a line was read, by one name. -/
def LHow (k : RK) (s s1 : RS) (l : List UInt8) : Prop :=
  (∃ j, k.d[s.pos + j]? = some 10 ∧ NoNl k.d s.pos j ∧ l = trimCR ((k.d.drop s.pos).take j) ∧ s1.pos = s.pos + j + 1) ∨
  (l ≠ [] ∧ l = k.d.drop s.pos ∧ NoNl k.d s.pos (k.d.length - s.pos) ∧ s1.pos = k.d.length)

section
variable {k : RK} {s s1 : RS} {l : List UInt8} {er : List UInt8 → Value}
theorem noNl_dropC {d : List UInt8} {p n : Nat} (h : NoNl d p n) : NoNl (d.drop p) 0 n := fun j hj => by
  rw [Nat.zero_add, List.getElem?_drop]; exact h j hj
theorem LHow.len (h : LHow k s s1 l) (_hs : s1.pos ≤ k.d.length) : l.length + s.pos ≤ s1.pos := by
  rcases h with ⟨j, h10, _, rfl, hp⟩ | ⟨hl, rfl, _, hp⟩
  · have h1 := trimCR_length ((k.d.drop s.pos).take j)
    rw [List.length_take] at h1
    omega
  · have h1 : 0 < (k.d.drop s.pos).length := List.length_pos_iff.2 hl
    rw [List.length_drop] at h1 ⊢
    omega
theorem LHow.lt (h : LHow k s s1 l) : s.pos < s1.pos := by
  rcases h with ⟨j, h10, _, rfl, hp⟩ | ⟨hl, rfl, _, hp⟩
  · omega
  · have h1 : 0 < (k.d.drop s.pos).length := List.length_pos_iff.2 hl
    rw [List.length_drop] at h1
    omega
theorem LHow.spec (h : LHow k s s1 l) :
    (l = [] → CSpec er (k.d.drop s.pos) (.line [] (k.d.drop s1.pos))) ∧ (l ≠ [] → er l ≠ .nilIface → CSpec er (k.d.drop s.pos) .bad) ∧
    (l ≠ [] → er l = .nilIface → ∀ res, (∀ t r, CMore (trimB l) (k.d.drop s1.pos) t r → res = .line t r) → CSpec er (k.d.drop s.pos) res) := by
  rcases h with ⟨j, h10, hno, rfl, hp⟩ | ⟨hl, he, hno, hp⟩
  · have e1 : (k.d.drop s.pos).drop (j + 1) = k.d.drop s1.pos := by rw [List.drop_drop, hp, Nat.add_assoc]
    have h1 : (k.d.drop s.pos)[j]? = some 10 := by rw [List.getElem?_drop]; exact h10
    refine ⟨fun h => CSpec.one h1 (noNl_dropC hno) (fun _ => by rw [e1]) (fun g => absurd h g) (fun g => absurd h g), fun h g => CSpec.one h1 (noNl_dropC hno) (fun a => absurd a h) (fun _ _ => rfl) (fun _ a => absurd a g), fun h g res hr => CSpec.one h1 (noNl_dropC hno) (fun a => absurd a h) (fun _ a => absurd g a) (fun _ _ => by rw [e1]; exact hr)⟩
  · have h1 : NoNl (k.d.drop s.pos) 0 (k.d.drop s.pos).length := by rw [List.length_drop]; exact noNl_dropC hno
    have h2 : k.d.drop s.pos ≠ [] := by rw [← he]; exact hl
    exact ⟨fun h => absurd h hl, fun _ _ => CSpec.none (fun h => absurd h h2) h1, fun _ _ res _ => CSpec.none (fun h => absurd h h2) h1⟩
/-- m blanks, then the end: no line goes on. -/
theorem cmore_end {acc t r : List UInt8} {m p : Nat} (hm : 1 ≤ m) (hml : p + m ≤ k.d.length) (hall : ((k.d.drop p).take m).all blB = true) (hno : NoNl k.d (p + m) (k.d.length - (p + m))) (h : CMore acc (k.d.drop p) t r) : False := by
  obtain ⟨j, h1, _, _⟩ := cmore_step hm (by rw [List.length_drop]; omega) hall h
  rw [List.getElem?_drop] at h1
  have h2 := (List.getElem?_eq_some_iff.1 h1).1
  exact hno j (by omega) (by rw [← h1]; congr 1; omega)
/-- m blanks, then a line. -/
theorem cmore_line {acc t r : List UInt8} {m p : Nat} (hm : 1 ≤ m) (hml : p + m ≤ k.d.length) (hall : ((k.d.drop p).take m).all blB = true) (hp : s.pos = p + m) (hl : LHow k s s1 l) (h : CMore acc (k.d.drop p) t r) :
    CMore (acc ++ 32 :: trimB l) (k.d.drop s1.pos) t r := by
  rcases hl with ⟨j, h10, hno, rfl, hp1⟩ | ⟨_, _, hno, _⟩
  · obtain ⟨i, h1, h2, h3⟩ := cmore_step hm (by rw [List.length_drop]; omega) hall h
    rw [List.drop_drop, List.drop_drop] at h3
    rw [List.getElem?_drop] at h1
    have e : i = j := by
      refine first_10 (d := k.d.drop s.pos) (by rw [List.getElem?_drop, hp, Nat.add_assoc]; exact h1) (fun x hx => ?_) (by rw [List.getElem?_drop]; exact h10) (noNl_dropC hno)
      have := h2 x hx
      rw [List.getElem?_drop] at this
      rw [Nat.zero_add, List.getElem?_drop, hp, Nat.add_assoc]
      exact this
    subst e
    rw [hp] at *
    rw [show p + (m + i + 1) = s1.pos from by omega] at h3
    exact h3
  · exact (cmore_end hm hml hall (by rw [← hp]; exact hno) h).elim
end

/-- The line stays where it lies. -/
theorem line_kept {k : RK} {s s1 s2 : RS} {w w1 w2 : World} {T base b off : Nat} {v : Value} {xs l : List UInt8} (h : Rd w k s) (hT : Tb w k T base v xs) (hR1 : Rd w1 k s1) (hR2 : Rd w2 k s2) (hT2 : Turned [k.B] w1 w2) (hr : s2.r = s1.r) (hrow : Row8 w1 b off l)
    (hpl : (b = k.C ∧ off + l.length ≤ s1.r) ∨ (w.heap.size ≤ b ∧ b < w1.heap.size ∧ Free8 w1 b off l.length)) :
    Row8 w2 b off l ∧ Free8 w2 b off l.length ∧ ((b = k.C ∧ off + l.length ≤ s2.r) ∨ (w.heap.size ≤ b ∧ b < w2.heap.size ∧ some b ≠ v.ownBlock)) := by
  rcases hpl with ⟨rfl, h1⟩ | ⟨h1, h2, h3⟩
  · exact ⟨hrow.of_block (hT2.block _ hR1.cb.lt (by simpa using hR1.kc_ne)), fun j _ => hR2.cb.frozen _, .inl ⟨rfl, by omega⟩⟩
  · have hB := h.bb.lt
    have e := hT2.block b h2 (by simp; omega)
    exact ⟨hrow.of_block e, h3.of_block e, .inr ⟨h1, Nat.lt_of_lt_of_le h2 hT2.size, fun e => by have := (own_ge hT.own e.symm).2; omega⟩⟩
theorem place_trim {k : RK} {s2 : RS} {w w2 : World} {b off i cap : Nat} {v : Value} {q : Option Addr} {l : List UInt8} (hrow : Row8 w2 b off l) (hfree : Free8 w2 b off l.length)
    (hpl : (b = k.C ∧ off + l.length ≤ s2.r) ∨ (w.heap.size ≤ b ∧ b < w2.heap.size ∧ some b ≠ v.ownBlock)) (h1 : trimB l = (l.drop i).take (trimB l).length) (h2 : i + (trimB l).length ≤ l.length)
    (h3 : trimB l ≠ [] → q = some ⟨b, off + i, none⟩) : Place k w s2 w2 v q cap (trimB l) := by
  by_cases h0 : trimB l = []
  · exact .inl h0
  · refine .inr ⟨b, off + i, h3 h0, ?_, hfree.part i _ h2, ?_⟩
    · rw [h1]
      exact (hrow.drop i).take _
    · rcases hpl with ⟨g1, g2⟩ | g
      · exact .inl ⟨g1, by omega⟩
      · exact .inr (.inl g)
/-- The trimmed line's cells. -/
theorem trim_cells {w2 : World} {b off i : Nat} {qa : Addr} {l : List UInt8} (hrow : Row8 w2 b off l) (h1 : trimB l = (l.drop i).take (trimB l).length) (h3 : trimB l ≠ [] → some qa = some ⟨b, off + i, none⟩) :
    ∀ j u, (by8 (trimB l))[j]? = some u → w2.cell? (qa.add j) = some u := by
  intro j u hj
  have hr : Row8 w2 b (off + i) (trimB l) := by
    rw [h1]
    exact (hrow.drop i).take _
  have h0 : trimB l ≠ [] := by
    intro e
    rw [e] at hj
    simp [by8] at hj
  obtain rfl := Option.some.inj (h3 h0)
  unfold by8 at hj
  rw [List.getElem?_map] at hj
  obtain ⟨x, hx, rfl⟩ := Option.map_eq_some_iff.1 hj
  have h4 := hr j x hx
  unfold Addr.add
  split
  · subst_vars; simpa using h4
  · exact h4

/-- What trim leaves, for the append that follows. -/
def TrimRow (w : World) (l : List UInt8) (e : Ending) (w' : World) : Prop :=
  ∃ qa cap', e = .returned (.slice (some qa) (trimB l).length cap') ∧ Hid ((∀ j u, (by8 (trimB l))[j]? = some u → w.cell? (qa.add j) = some u) ∧ (trimB l).length ≤ l.length) ∧ w = w'
theorem trim_row (b off : Nat) (l : List UInt8) (cap : Nat) (w : World) (hr : Row8 w b off l) (hc : l.length ≤ cap) (hl : l.length ≤ 4294967296) :
    Calls Tryd.prog 100 #[.slice (some ⟨b, off, none⟩) l.length cap] w (TrimRow w l) :=
  (trim_some b off l cap w hr hc hl).mono fun _ _ ⟨⟨_, q, cap', h0, t1, t2, _, _, t4, t5⟩, h1⟩ => by
    obtain ⟨qa, rfl⟩ := Option.isSome_iff_exists.1 (t4 rfl)
    exact ⟨qa, cap', h0, ⟨trim_cells hr t1 (t5 b off rfl), by omega⟩, h1⟩

/-- What a round of the loop keeps: v the buffer, acc what it holds. -/
def ContRel (k : RK) (w : World) (T base p1 : Nat) (v0 : Value) (a0 : List UInt8) (g : Nat) (wr : World) : Prop :=
  ∃ s3 v3 acc, Rd wr k s3 ∧ Tb wr k T base v3 acc ∧ Turned (contBlocks k T v0) w wr ∧ OB w v0 v3 ∧ (∀ t r, CMore a0 (k.d.drop p1) t r → CMore acc (k.d.drop s3.pos) t r) ∧ acc.length ≤ s3.pos ∧ p1 ≤ s3.pos ∧ k.d.length - s3.pos ≤ g
theorem sent_keep {w w' : World} {k : RK} {s : RS} {T base : Nat} {v : Value} {xs : List UInt8} {a : Addr} (hF : Sent w k.K 6 a) (h : Rd w k s) (hT : Tb w k T base v xs) (ht : Turned (contBlocks k T v) w w') : Sent w' k.K 6 a :=
  hF.keep (ht.below (by have := h.kb; have := h.bb.lt; omega) (fun x hx => by
    rcases List.mem_cons.1 hx with rfl | hx
    · exact hT.kt
    rcases List.mem_append.1 hx with hx | hx
    · exact h.blocks_new x hx
    · have := (own_ge hT.own (by simpa using hx)).1
      have := hT.kt
      have := hT.lt
      omega))
theorem drop_ne {d : List UInt8} {p m : Nat} (h : p + m ≤ d.length) (hm : 1 ≤ m) : d.drop p ≠ [] := by
  intro e
  have : (d.drop p).length = 0 := by rw [e]; rfl
  rw [List.length_drop] at this
  omega

/-- Behind an append onto the buffer and the store of what it hands back. -/
theorem cont_put {k : RK} {s4 : RS} {w wr wa w5 : World} {T base : Nat} {v0 v3 v5 : Value} {acc xs' : List UInt8} (h : Rd wr k s4) (hTb : Tb wr k T base v3 acc) (hS : Turned (contBlocks k T v0) w wr) (hOB : OB w v0 v3) (hA : Turned [] wr wa)
    (hg : wa.grownBy w5 v3.ownBlock) (ho : w5.ownsRow base 5 1 v5 xs'.length (by8 xs')) (hat : v5.ownBlock = v3.ownBlock ∨ v5.ownBlock = some wa.heap.size) :
    (Rd (w5.setCell ⟨T, 2, none⟩ v5) k s4 ∧ Tb (w5.setCell ⟨T, 2, none⟩ v5) k T base v5 xs' ∧ Turned (contBlocks k T v0) w (w5.setCell ⟨T, 2, none⟩ v5) ∧ OB w v0 v5) ∧ w5.cell? ⟨T, 2, none⟩ = some v3 ∧ w5.frozen? ⟨T, 2, none⟩ = false := by
  obtain ⟨g1, g2, g3⟩ := hTb.put h hA rfl hg ho
  refine ⟨⟨g1, g2, hS.join g3 hOB.blocks, hOB.step hat (Nat.le_trans hS.size hA.size)⟩, ?_⟩
  have h1 : w5.heap[T]? = wr.heap[T]? := (hg.block T (Nat.lt_of_lt_of_le hTb.blk.lt hA.size) (own_ne hTb.own T hTb.lt)).trans (hA.block T hTb.blk.lt (by simp))
  obtain ⟨_, c2, f2⟩ := hTb.cells
  exact ⟨(World.cell?_of_block (w := wr) h1).trans c2, (World.frozen?_of_block (w := wr) h1).trans f2⟩

theorem noValidation_any (p : Option Addr) (n cap : Nat) (w : World) :
    Calls Tryd.prog 86 #[.slice p n cap] w fun e w' => e = .returned .nilIface ∧ w = w' := by
  go_enter Tryd.func86, Tryd.ntmps86
  go_wp2_with fail
  go_ret
  exact ⟨rfl, rfl⟩

set_option maxRecDepth 100000 in
set_option maxHeartbeats 8000000 in
theorem readCont_gen (k : RK) (s : RS) (w : World) (fe : Addr) (T base : Nat) (v : Value) (xs : List UInt8) (lim : Int) (hlim : lim = -1 ∨ (4611686018427387904 ≤ lim ∧ lim ≤ 9223372036854775807)) (hfe : k.ae ≠ fe)
    (h : Rd w k s) (hT : Tb w k T base v xs) (hF : Sent w k.K 6 fe) (fv : FuncId) (er : List UInt8 → Value) (hEr : ∀ l, er l = .nilIface ∨ ∃ t x, er l = .iface t x)
    (HE : ∀ args W, (callFunc fv args).run Tryd.prog W = .ok (.enter fv args) W)
    (HV : ∀ (b off cap : Nat) (l : List UInt8) (w : World), Row8 w b off l → Calls Tryd.prog fv #[.slice (some ⟨b, off, none⟩) l.length cap] w fun e w' => e = .returned (er l) ∧ w = w') :
    Calls Tryd.prog 85 #[.pointer (some ⟨T, 0, none⟩), .int .i64 lim, .func (.func fv) #[] #[]] w (CLPost k s w T base v er) := by
  have RL := readLineSlice_any k s w fe T h hF hfe hT.tp lim (by omega)
  obtain ⟨vp, vcap, rfl, _, _, _⟩ := own_zero hT.own
  have hrun : ∀ W : World, (binOp BinOp.eql 157 (Value.func (.func fv) #[] #[]) Value.nilFunc).run Tryd.prog W = .ok (.bool false) W := fun W => by kernel_rfl
  go_enter Tryd.func85, Tryd.ntmps85
  go_wp2_with fail
  go_at_call 84
  refine RL.mono ?_
  rintro e w1 ⟨s1, hR1, hT1, hor⟩
  have hTb1 := hT.keep h hT1
  have hS1 : Turned (contBlocks k T (.slice vp xs.length vcap)) w w1 := hT1.mono (fun x hx => by simp at hx ⊢; omega)
  clear RL
  rcases hor with ⟨rfl, h1, h2, h3⟩ | ⟨p, l, cap, rfl, hp, hcap, hcm, hl, hor⟩
  · have HF : Hid (CLPost k s w T base (.slice vp xs.length vcap) er (.returned (.tuple #[.slice none 0 0, errAt k.ae])) w1) :=
      ⟨s1, _, xs, .eof, hR1, hTb1, hS1, .inl rfl, CSpec.none (fun _ => rfl) (by rw [List.length_drop]; exact noNl_dropC h2), .inl ⟨rfl, rfl⟩⟩
    clear h hT hF hR1 hT1 hTb1 hS1 h1 h2 h3 HV hEr
    go_wp2_with fail
    go_ret2
    exact HF.out
  · have hH : LHow k s s1 l := hor
    clear hor
    obtain ⟨H1, H2, H3⟩ := hH.spec (er := er)
    by_cases hl0 : l = []
    · subst hl0
      have HF : Hid (CLPost k s w T base (.slice vp xs.length vcap) er (.returned (.tuple #[.slice p 0 cap, .nilIface])) w1) :=
        ⟨s1, _, xs, _, hR1, hTb1, hS1, .inl rfl, H1 rfl, .inr (.inr ⟨[], p, cap, rfl, rfl, Nat.zero_le _, hcm, Nat.zero_le _, .inl rfl, fun g => absurd rfl g⟩)⟩
      clear h hT hF hR1 hT1 hTb1 hS1 HV hEr H1 H2 H3 hp hH
      go_wp2_with fail
      go_ret2
      exact HF.out
    · have hpos : 0 < l.length := List.length_pos_iff.2 hl0
      have b0 : ((l.length : Int) == 0) = false := by simp; omega
      obtain ⟨b, off, rfl, hrow, hpl⟩ := hp
      have HV1 := HV b off cap l w1 hrow
      rcases hEr l with he | ⟨et, ex, he⟩
      · rw [he] at HV1
        have HC := Lib.hid (H3 hl0 he)
        clear H1 H2 H3
        go_wp2_with fail
        refine HV1.mono ?_
        rintro e w2 ⟨rfl, rfl⟩
        clear HV1 HV HE hEr he b0
        obtain ⟨cT0, cT2, fT2⟩ := hTb1.cells
        have BQ := buffered_any k s1 w1 hR1
        go_wp2_with fail
        go_at_call 97
        refine BQ.mono ?_
        rintro e w2 ⟨rfl, q2, rfl⟩
        clear BQ
        have hrw1 := hR1.rw
        have hwl1 := hR1.wl
        go_upto_if 42 with (fail)
        go_cut [] (fun wc => ∃ s2, Rd wc k s2 ∧ Tb wc k T base (.slice vp xs.length vcap) xs ∧ Turned (contBlocks k T (.slice vp xs.length vcap)) w wc ∧ s2.pos = s1.pos ∧ Row8 wc b off l)
        case first =>
          by_cases hbuf : 2 ≤ s1.wp - s1.r
          · have g1 : (1 : Int) < (s1.wp : Int) - (s1.r : Int) := by omega
            have PH := peek_have k s1 (w1.drewN q2) 2 (hR1.drewN q2) (by omega) hbuf
            go_wp2_with fail
            go_at_call 98
            refine PH.mono ?_
            rintro e w2 ⟨s2, cap2, hR2, hT2, hp2, hr2, hw2, hc2, hcap2, rfl⟩
            clear PH
            obtain ⟨kr1, kr2, kr3⟩ := line_kept h hT hR1 hR2 (((Turned.refl [k.B] w1).drewN q2).trans hT2) hr2 hrow hpl
            have hpl2 := hR2.pos_le
            have hil2 := hR2.il
            obtain ⟨x0, hx0⟩ : ∃ c, k.d[s2.pos + 0]? = some c := ⟨_, List.getElem?_eq_getElem (by omega)⟩
            obtain ⟨x1, hx1⟩ : ∃ c, k.d[s2.pos + 1]? = some c := ⟨_, List.getElem?_eq_getElem (by omega)⟩
            have y0 := hR2.buf 0 x0 (by omega) hx0
            have y1 := hR2.buf 1 x1 (by omega) hx1
            rw [hr2] at y0 y1
            have z0 : w2.cell? ⟨k.C, s1.r, none⟩ = some (.int .u8 (x0.toNat : Int)) := by rw [hR2.cb.cell]; simpa using y0
            have z1 : w2.cell? ⟨k.C, s1.r + 1, none⟩ = some (.int .u8 (x1.toNat : Int)) := by rw [hR2.cb.cell]; simpa using y1
            have hS2 : Turned (contBlocks k T (.slice vp xs.length vcap)) w w2 := (hS1.drewN q2).trans (hT2.mono (fun x hx => by simp at hx ⊢; omega))
            have hTb2 : Tb w2 k T base (.slice vp xs.length vcap) xs := (hTb1.drewN q2).keep (hR1.drewN q2) (hT2.mono (by simp [RK.blocks]))
            have HX : blB x0 = false → Hid (∀ e, TrimPost (some ⟨b, off, none⟩) l cap e → ∃ q cap', e = .returned (.slice q (trimB l).length cap') ∧ CLPost k s w T base (.slice vp xs.length vcap) er (.returned (.tuple #[.slice q (trimB l).length cap', .nilIface])) w2) := by
              rintro hb0 e ⟨i, q, cap', rfl, t1, t2, t3, t3m, t4, t5⟩
              refine ⟨q, cap', rfl, s2, _, xs, .line (trimB l) (k.d.drop s2.pos), hR2, hTb2, hS2, .inl rfl, HC.out _ (fun t r hm => ?_), .inr (.inr ⟨trimB l, q, cap', rfl, rfl, t3, by omega, by omega, place_trim kr1 kr2 kr3 t1 t2 (t5 b off rfl), fun _ => by rw [hp2]; exact hH.lt⟩)⟩
              obtain ⟨rfl, rfl⟩ := cmore_zero (fun c hc => by
                rw [List.getElem?_drop, ← hp2, hx0] at hc
                exact Option.some.inj hc ▸ hb0) hm
              rw [hp2]
            have HM : Hid (∃ s2, Rd w2 k s2 ∧ Tb w2 k T base (.slice vp xs.length vcap) xs ∧ Turned (contBlocks k T (.slice vp xs.length vcap)) w w2 ∧ s2.pos = s1.pos ∧ Row8 w2 b off l) := ⟨s2, hR2, hTb2, hS2, hp2, kr1⟩
            have TR := trim_some b off l cap w2 kr1 hcap (by have := h.dl; omega)
            have IL := isLetter_any x0 w2
            clear h hT hF hR1 hT1 hTb1 hS1 hpl hrow HC hH hR2 hT2 hp2 hr2 hw2 hc2 kr1 kr2 kr3 hpl2 hil2 hx0 hx1 y0 y1 hS2 hTb2 cT0 cT2 fT2
            go_wp2_with fail
            go_at_call 99
            refine IL.mono ?_
            rintro e w3 ⟨⟨bb, rfl, hbb⟩, rfl⟩
            cases bb
            · by_cases h10 : x0 = 10
              · have t10 : ((x0.toNat : Int) == 10) = true := u8_is (c := 10) h10
                have HX := HX (by rw [h10]; rfl)
                clear hbb h10 HM IL
                go_wp2_with fail
                go_at_call 100
                refine TR.mono ?_
                rintro e w3 ⟨he, rfl⟩
                obtain ⟨q, cap', rfl, hf⟩ := HX.out e he
                have HF := Lib.hid hf
                clear hf he TR HX
                go_wp2_with fail
                go_ret2
                exact HF.out
              · have t10 : ((x0.toNat : Int) == 10) = false := u8_not (c := 10) h10
                by_cases h13 : x0 = 13
                · have t13 : ((x0.toNat : Int) == 13) = true := u8_is (c := 13) h13
                  have HX := HX (by rw [h13]; rfl)
                  by_cases h11 : x1 = 10
                  · have t11 : ((x1.toNat : Int) == 10) = true := u8_is (c := 10) h11
                    clear hbb h10 HM IL h13 h11
                    go_wp2_with fail
                    go_at_call 100
                    refine TR.mono ?_
                    rintro e w3 ⟨he, rfl⟩
                    obtain ⟨q, cap', rfl, hf⟩ := HX.out e he
                    have HF := Lib.hid hf
                    clear hf he TR HX
                    go_wp2_with fail
                    go_ret2
                    exact HF.out
                  · have t11 : ((x1.toNat : Int) == 10) = false := u8_not (c := 10) h11
                    clear hbb h10 HX IL h13 h11 TR
                    go_wp2_with fail
                    go_meet
                    exact HM.out
                · have t13 : ((x0.toNat : Int) == 13) = false := u8_not (c := 13) h13
                  clear hbb h10 HX IL h13 TR
                  go_wp2_with fail
                  go_meet
                  exact HM.out
            · have HX := HX (hbb rfl)
              clear hbb HM IL
              go_wp2_with fail
              go_at_call 100
              refine TR.mono ?_
              rintro e w3 ⟨he, rfl⟩
              obtain ⟨q, cap', rfl, hf⟩ := HX.out e he
              have HF := Lib.hid hf
              clear hf he TR HX
              go_wp2_with fail
              go_ret2
              exact HF.out
          · have g1 : ¬ (1 : Int) < (s1.wp : Int) - (s1.r : Int) := by omega
            have HM := Lib.hid (fun q => (⟨s1, hR1.drewN q, hTb1.drewN q, hS1.drewN q, rfl, hrow.of_block rfl⟩ : ∃ s2, Rd (w1.drewN q) k s2 ∧ Tb (w1.drewN q) k T base (.slice vp xs.length vcap) xs ∧ Turned (contBlocks k T (.slice vp xs.length vcap)) w (w1.drewN q) ∧ s2.pos = s1.pos ∧ Row8 (w1.drewN q) b off l))
            clear h hT hF hR1 hT1 hTb1 hS1 hpl hrow HC hH hbuf
            go_wp2_with fail
            go_meet
            exact HM.out _
        case rest =>
          obtain ⟨s2, hR2, hTb2, hS2, hp2, hrow2⟩ := hcut
          clear hR1 hT1 hTb1 hS1 hrow hpl cT0 cT2 fT2 hrw1 hwl1
          have hdl := h.dl
          have HH : Hid (Rd w k s ∧ LHow k s s1 l ∧ s2.pos = s1.pos ∧ Sent w k.K 6 fe ∧ Tb w k T base (.slice vp xs.length vcap) xs) := ⟨h, hH, hp2, hF, hT⟩
          clear h hH hp2 hF hT
          go_upto_region 15 with fail
          go_cut [] (fun wd => ∃ v1, Rd wd k s2 ∧ Tb wd k T base v1 (trimB l) ∧ Turned (contBlocks k T (.slice vp xs.length vcap)) w wd ∧ OB w (.slice vp xs.length vcap) v1)
          case first =>
            obtain ⟨cT0, cT2, fT2⟩ := hTb2.cells
            obtain ⟨vp', vcap', hveq, hvle, hz, hzb⟩ := own_zero hTb2.own
            injection hveq with e1 _ e2
            subst e1 e2
            have TR := trim_row b off l cap wc.drew (hrow2.of_block rfl) hcap (by omega)
            obtain ⟨i0, hi, hz0, hz1, hz2⟩ := info_parts u8_info
            have HZ := Lib.hid (show wc.drew.ownsRow base 5 1 (.slice vp 0 vcap) 0 [] from hz)
            have HW : Hid (∀ w3, wc.drew.grownBy w3 (Value.ownBlock (.slice vp 0 vcap)) → w3.cell? ⟨T, 2, none⟩ = some (.slice vp xs.length vcap) ∧ w3.frozen? ⟨T, 2, none⟩ = false) := by
              intro w3 hg
              have e : w3.heap[T]? = wc.heap[T]? := hg.block T hTb2.blk.lt (fun e => by
                have := own_ge hz e.symm
                have := hTb2.lt
                omega)
              exact ⟨(World.cell?_of_block (w := wc) e).trans cT2, (World.frozen?_of_block (w := wc) e).trans fT2⟩
            have HB : Hid (base ≤ wc.drew.heap.size) := hTb2.size
            have hrl : (trimB l).length ≤ l.length → 0 + (trimB l).length ≤ maxLen ∧ (0 + (trimB l).length) * 1 ≤ 140737488355328 := fun _ => by unfold maxLen; omega
            have HRL := Lib.hid hrl
            have H1 := Lib.hid (by8_one (trimB l))
            have H8 : Hid ((by8 (trimB l)).length = (trimB l).length * 1) := by show _ = _; rw [by8_length, Nat.mul_one]
            have HX : Hid (∀ v1 w3, w3.ownsRow base 5 1 v1 (0 + (trimB l).length) ([] ++ by8 (trimB l)) → wc.drew.grownBy w3 (Value.ownBlock (.slice vp 0 vcap)) → (v1.ownBlock = Value.ownBlock (.slice vp 0 vcap) ∨ v1.ownBlock = some wc.drew.heap.size) →
                ∃ v2, Rd (w3.setCell ⟨T, 2, none⟩ v1) k s2 ∧ Tb (w3.setCell ⟨T, 2, none⟩ v1) k T base v2 (trimB l) ∧ Turned (contBlocks k T (.slice vp xs.length vcap)) w (w3.setCell ⟨T, 2, none⟩ v1) ∧ OB w (.slice vp xs.length vcap) v2) := by
              intro v1 w3 ho hg hat
              rw [Nat.zero_add, List.nil_append] at ho
              obtain ⟨g1, g2, g3⟩ := hTb2.put hR2 ((Turned.refl [] wc).drew) hzb hg ho
              rw [hzb] at hat
              exact ⟨v1, g1, g2, hS2.trans (g3.mono (fun x hx => by
                simp only [contBlocks, List.mem_cons, List.mem_append] at hx ⊢
                rcases hx with hx | hx
                · exact .inl hx
                · exact .inr (.inr hx))), OB.step (.inl rfl) hat hS2.size⟩
            clear hS2 hrow2 hTb2 hR2 hz hzb hvle hrun hrl HH HC
            go_region_law
              (first
                | (go_simp; go_at_call 100; (with_reducible refine TR.mono ?_); rintro e w' ⟨qa, cap', rfl, HTC, rfl⟩)
                | (refine step_append_at _ rfl (.tmp 90) (.tmp 92) 22 rfl base 5 i0 (.int .u8 0) 1 1 Tryd.underlying22 hi hz0 hz1 hz2 rfl (by decide) _ 0 [] (by simp [Act.eval, Act.put]) HZ.out qa (trimB l).length cap' (by8 (trimB l)) (by simp [Act.eval, Act.put]) H8.out HTC.out.1 H1.out (HRL.out HTC.out.2).1 (HRL.out HTC.out.2).2 HB.out ?_; intro v1 w3 hown hgrow hat; have HXX := Lib.hid (HX.out _ _ hown hgrow hat); obtain ⟨vp1, vcap1, rfl, _, _, _⟩ := own_zero hown; have d2 := (HW.out w3 hgrow).1; have f2 := (HW.out w3 hgrow).2; rw [Nat.zero_add] at HXX; clear hown hgrow hat))
            all_goals
              go_wp2_with fail
              go_meet
              exact HXX.out
          case rest =>
            obtain ⟨v1, hR3, hTb3, hS3, hOB⟩ := hcut
            clear hR2 hTb2 hS2 hrow2 hrun
            obtain ⟨p1, cap1, rfl, _, _, _⟩ := own_zero hTb3.own
            obtain ⟨cT0, cT2, fT2⟩ := hTb3.cells
            have hl1 := HH.out.2.1.len (by rw [← HH.out.2.2.1]; have := hR3.pos_le; have := hR3.il; omega)
            have htl : (trimB l).length ≤ l.length := trimB_length l
            have hRel : Hid (ContRel k w T base s1.pos (.slice vp xs.length vcap) (trimB l) (k.d.length - s1.pos) wc) :=
              ⟨s2, _, trimB l, hR3, hTb3, hS3, hOB, fun t r hm => by rw [HH.out.2.2.1]; exact hm, by rw [HH.out.2.2.1]; omega, by rw [HH.out.2.2.1]; exact Nat.le_refl _, by rw [HH.out.2.2.1]; exact Nat.le_refl _⟩
            clear hR3 hTb3 hS3 hOB hl1
            have hn : (trimB l).length ≤ 4294967296 := by omega
            obtain ⟨L0, hL0, hL1, hL2⟩ : ∃ L : Int, ((lim = -1 ∧ L = 9223372036854775807) ∨ (0 ≤ lim ∧ L = lim)) ∧ 4611686018427387904 ≤ L ∧ L ≤ 9223372036854775807 := by
              rcases hlim with h | h
              · exact ⟨_, .inl ⟨h, rfl⟩, by omega, by omega⟩
              · exact ⟨_, .inr ⟨by omega, rfl⟩, by omega, by omega⟩
            clear hlim
            go_upto_if 97 with (fail)
            go_cut [1] (fun u w' => w' = wc ∧ u = .int .i64 L0)
            case first =>
              clear cT0 cT2 fT2
              rcases hL0 with ⟨rfl, rfl⟩ | ⟨h0, rfl⟩
              · go_wp2_with fail
                go_meet
                exact ⟨rfl, rfl⟩
              · have h1 : ¬ L0 < 0 := by omega
                go_wp2_with fail
                go_meet
                exact ⟨rfl, rfl⟩
            case rest =>
              obtain ⟨rfl, rfl⟩ := hcut
              clear hL0
              have e1 : IntKind.i64.wrap (L0 - ((trimB l).length : Int)) = L0 - ((trimB l).length : Int) := IntWalk.i64_in _ (by omega)
              go_wp2_with fail
              obtain ⟨L, hLe⟩ : ∃ L, L = L0 - ((trimB l).length : Int) := ⟨_, rfl⟩
              rw [← hLe]
              have hL3 : 4611686014132420608 ≤ L ∧ L ≤ 9223372036854775807 := by omega
              clear hLe e1 hL1 hL2 cT0 cT2 fT2
              go_loopg [] (k.d.length - s1.pos) (fun g wr => ContRel k w T base s1.pos (.slice vp xs.length vcap) (trimB l) g wr)
              case atStart => exact hRel.out
              case round =>
                clear hRel
                obtain ⟨s3, v3, acc, hR3, hTb3, hS3, hOB, hI, ha1, ha2, hg⟩ := hrel
                obtain ⟨p3, cap3, rfl, _, _, _⟩ := own_zero hTb3.own
                have SK := skipSpace_any k s3 wr T hR3 hTb3.tp
                go_wp2_with fail
                go_at_call 101
                refine SK.mono ?_
                rintro e w4 ⟨s4, m, hR4, hT4, rfl, hp4, hall, hnx⟩
                clear SK
                have hTb4 := hTb3.keep hR3 hT4
                have hS4 : Turned (contBlocks k T (.slice vp xs.length vcap)) w w4 := hS3.trans (hT4.mono (fun x hx => List.mem_cons_of_mem _ (List.mem_append_left _ hx)))
                obtain ⟨cT0, cT2, fT2⟩ := hTb4.cells
                have hpl4 := hR4.pos_le
                have hil4 := hR4.il
                have hpl3 := hR3.pos_le
                have hil3 := hR3.il
                rcases Nat.eq_zero_or_pos m with hm0 | hm1
                · subst hm0
                  have hcm : ∀ t r, CMore (trimB l) (k.d.drop s1.pos) t r → t = acc ∧ r = k.d.drop s4.pos := by
                    intro t r hm
                    have hp : s4.pos = s3.pos := by omega
                    refine cmore_zero (fun c hc => ?_) (by rw [hp]; exact hI t r hm)
                    rw [List.getElem?_drop, Nat.add_zero] at hc
                    rcases hnx with hnx | ⟨c', hc', hb'⟩
                    · rw [hnx, List.getElem?_eq_none (Nat.le_refl _)] at hc; cases hc
                    · rw [hc] at hc'
                      exact Option.some.inj hc' ▸ hb'
                  have HF : Hid (CLPost k s w T base (.slice vp xs.length vcap) er (.returned (.tuple #[.slice p3 acc.length cap3, .nilIface])) w4) := by
                    obtain ⟨_, _, e0, hcp, _, _⟩ := own_zero hTb4.own
                    injection e0 with _ _ e0
                    refine ⟨s4, _, acc, .line acc (k.d.drop s4.pos), hR4, hTb4, hS4, hOB, HC.out _ (fun t r hm => ?_), .inr (.inr ⟨acc, p3, cap3, rfl, rfl, by omega, own_capm hTb4.own, by omega, ?_, fun _ => ?_⟩)⟩
                    · obtain ⟨rfl, rfl⟩ := hcm t r hm
                      rfl
                    · by_cases h0 : acc = []
                      · exact .inl h0
                      · obtain ⟨g, cap', e1, hg1, hg2⟩ := hTb4.own.form (List.length_pos_iff.2 h0)
                        injection e1 with e1 _ _
                        subst e1
                        rcases hTb4.own.2 with ⟨e2, _⟩ | ⟨g', cap2', cur, e2, _, hh, _⟩
                        · cases e2
                        · injection e2 with e2 _ _
                          injection e2 with e2
                          injection e2 with e2
                          subst e2
                          refine .inr ⟨g, 0, rfl, fun x u hx => ?_, fun x _ => by simp [World.frozen?, hh], .inr (.inr rfl)⟩
                          have h1 := hTb4.own.cells (g := g) rfl x _ (by8_get hx)
                          unfold Addr.add at h1
                          split at h1
                          · subst_vars; simpa using h1
                          · simpa using h1
                    · have := HH.out.2.1.lt
                      omega
                  have b1 : ¬ (0 : Int) < ((0 : Nat) : Int) := by omega
                  clear HH HC hcm hR3 hTb3 hS3 hOB hI hR4 hT4 hTb4 hS4 hall hnx
                  go_wp2_with fail
                  go_ret2
                  exact HF.out
                · have b1 : (0 : Int) < (m : Int) := by omega
                  obtain ⟨i0, hi, hz0, hz1, hz2⟩ := info_parts u8_info
                  have hacc : acc.length ≤ 4294967296 := by omega
                  have hO : (w4.alloc (.cells #[.int .u8 32] 5)).ownsRow base 5 1 (.slice p3 acc.length cap3) acc.length (by8 acc) := hTb4.own.alloc _
                  have HO := Lib.hid hO
                  have L2 : Hid (acc.length + 1 ≤ maxLen) := by show _ ≤ _; unfold maxLen; omega
                  have L3 : Hid ((acc.length + 1) * 1 ≤ 140737488355328) := by show _ ≤ _; omega
                  have HS : Hid (base ≤ (w4.alloc (.cells #[.int .u8 32] 5)).heap.size) := by
                    have := hTb4.size
                    show _ ≤ _
                    simp
                    omega
                  have HX : Hid (∀ v5 w5, w5.ownsRow base 5 1 v5 (acc.length + 1) (by8 acc ++ [.int .u8 32]) → (w4.alloc (.cells #[.int .u8 32] 5)).grownBy w5 (Value.ownBlock (.slice p3 acc.length cap3)) →
                      (v5.ownBlock = Value.ownBlock (.slice p3 acc.length cap3) ∨ v5.ownBlock = some (w4.alloc (.cells #[.int .u8 32] 5)).heap.size) →
                      Hid (Rd (w5.setCell ⟨T, 2, none⟩ v5) k s4 ∧ Tb (w5.setCell ⟨T, 2, none⟩ v5) k T base v5 (acc ++ [32]) ∧ Turned (contBlocks k T (.slice vp xs.length vcap)) w (w5.setCell ⟨T, 2, none⟩ v5) ∧ OB w (.slice vp xs.length vcap) v5) ∧
                        w5.cell? ⟨T, 2, none⟩ = some (.slice p3 acc.length cap3) ∧ w5.frozen? ⟨T, 2, none⟩ = false) := by
                    intro v5 w5 ho hg hat
                    exact cont_put (xs' := acc ++ [32]) hR4 hTb4 hS4 hOB ((Turned.refl [] w4).alloc _) hg (by
                      rw [List.length_append]
                      unfold by8 at ho ⊢
                      rw [List.map_append]
                      exact ho) hat
                  have HI := Lib.hid hI
                  have HP := Lib.hid (⟨hp4, hall, ha1, ha2, hg, by omega⟩ : s4.pos = s3.pos + m ∧ ((k.d.drop s3.pos).take m).all blB = true ∧ acc.length ≤ s3.pos ∧ s1.pos ≤ s3.pos ∧ k.d.length - s3.pos ≤ gk ∧ s4.pos ≤ k.d.length)
                  have e2 : IntKind.i64.wrap (L - ((acc.length : Int) + 1)) = L - ((acc.length : Int) + 1) := IntWalk.i64_in _ (by omega)
                  have b2 : ¬ L ≤ (acc.length : Int) + 1 := by omega
                  clear hR3 hTb3 hS3 hOB hI hR4 hT4 hTb4 hS4 hall hnx hO hp4 ha1 ha2 hg
                  go_upto_region 21 with (at_builtin; refine wpList_append_own_at _ rfl (.tmp 112) (.tmp 113) 22 rfl base 5 i0 (.int .u8 0) 1 1 Tryd.underlying22 hi hz0 hz1 hz2 rfl (by decide) _ _ _ rfl HO.out ⟨w4.heap.size, 0, none⟩ 1 1 [.int .u8 32] rfl rfl (cell_one_new _ _ _) (by simp [Value.oneCell']) L2.out L3.out HS.out ?_; intro v5 w5 hown hgrow hnil hat; obtain ⟨HXX, d2, f5⟩ := HX.out _ _ hown hgrow hat; obtain ⟨p5, cap5, rfl, _, _, _⟩ := own_zero hown; clear hown hgrow hnil hat)
                  clear d2 f5 HX HO
                  generalize World.setCell w5 ⟨T, 2, none⟩ (.slice p5 (acc.length + 1) cap5) = W at *
                  obtain ⟨hR5, hTb5, hS5, hOB5⟩ := HXX.out
                  clear HXX cT0 cT2 fT2
                  obtain ⟨cT0, cT2, fT2⟩ := hTb5.cells
                  have RL := readLineSlice_any k s4 W fe T hR5 (sent_keep HH.out.2.2.2.1 HH.out.1 HH.out.2.2.2.2 hS5) hfe hTb5.tp (L - ((acc.length : Int) + 1)) (by omega)
                  go_wp2_with fail
                  go_at_call 84
                  refine RL.mono ?_
                  rintro e w6 ⟨s6, hR6, hT6, hor⟩
                  have hTb6 := hTb5.keep hR5 hT6
                  have hS6 : Turned (contBlocks k T (.slice vp xs.length vcap)) w w6 := hS5.trans (hT6.mono (fun x hx => List.mem_cons_of_mem _ (List.mem_append_left _ hx)))
                  clear RL
                  rcases hor with ⟨rfl, h1, h2, h3⟩ | ⟨p, l2, cap2, rfl, hp, hcap2, hcm2, hl2, hor⟩
                  · have HF : Hid (CLPost k s w T base (.slice vp xs.length vcap) er (.returned (.tuple #[.slice none 0 0, errAt k.ae])) w6) := by
                      refine ⟨s6, _, _, .eof, hR6, hTb6, hS6, hOB5, HC.out _ (fun t r hm => ?_), .inl ⟨rfl, rfl⟩⟩
                      obtain ⟨q1, q2, _, _, _, q6⟩ := HP.out
                      exact (cmore_end (k := k) hm1 (by omega) q2 (by rw [← q1]; exact h2) (HI.out t r hm)).elim
                    clear HH HC HI HP hR5 hTb5 hS5 hOB5 hR6 hTb6 hS6 hT6 h1 h2 h3
                    go_wp2_with fail
                    go_ret2
                    exact HF.out
                  · have hH2 : LHow k s4 s6 l2 := hor
                    clear hor
                    obtain ⟨bb, off2, rfl, hrow2, hpl2⟩ := hp
                    clear cT0 cT2 fT2
                    obtain ⟨cT0, cT2, fT2⟩ := hTb6.cells
                    have TR := trim_row bb off2 l2 cap2 w6.drew (hrow2.of_block rfl) hcap2 (by omega)
                    have hO6 : w6.drew.ownsRow base 5 1 (.slice p5 (acc.length + 1) cap5) (acc.length + 1) (by8 (acc ++ [32])) := by
                      have := hTb6.own
                      rw [List.length_append] at this
                      exact this
                    have HZ := Lib.hid hO6
                    have H1 := Lib.hid (by8_one (trimB l2))
                    have H8 : Hid ((by8 (trimB l2)).length = (trimB l2).length * 1) := by show _ = _; rw [by8_length, Nat.mul_one]
                    have HB : Hid (base ≤ w6.drew.heap.size) := hTb6.size
                    have hrl : (trimB l2).length ≤ l2.length → acc.length + 1 + (trimB l2).length ≤ maxLen ∧ (acc.length + 1 + (trimB l2).length) * 1 ≤ 140737488355328 := fun _ => by unfold maxLen; omega
                    have HRL := Lib.hid hrl
                    have hpl6 := hR6.pos_le
                    have hil6 := hR6.il
                    have hlen2 := hH2.len (by omega)
                    have hlt2 := hH2.lt
                    have htl2 := trimB_length l2
                    have HX : Hid (∀ v1 w3, w3.ownsRow base 5 1 v1 (acc.length + 1 + (trimB l2).length) (by8 (acc ++ [32]) ++ by8 (trimB l2)) → w6.drew.grownBy w3 (Value.ownBlock (.slice p5 (acc.length + 1) cap5)) →
                        (v1.ownBlock = Value.ownBlock (.slice p5 (acc.length + 1) cap5) ∨ v1.ownBlock = some w6.drew.heap.size) →
                        Hid (ContRel k w T base s1.pos (.slice vp xs.length vcap) (trimB l) (gk - 1) (w3.setCell ⟨T, 2, none⟩ v1) ∧ 1 ≤ gk) ∧ w3.cell? ⟨T, 2, none⟩ = some (.slice p5 (acc.length + 1) cap5) ∧ w3.frozen? ⟨T, 2, none⟩ = false) := by
                      intro v1 w3 ho hg hat
                      obtain ⟨q1, q2, q3, q4, q5, q6⟩ := HP.out
                      have hl9 : (acc ++ 32 :: trimB l2).length = acc.length + 1 + (trimB l2).length := by rw [List.length_append, List.length_cons]; omega
                      obtain ⟨⟨g1, g2, g3, g4⟩, g5⟩ := cont_put (xs' := acc ++ 32 :: trimB l2) hR6 hTb6 hS6 hOB5 ((Turned.refl [] w6).drew) hg (by
                        rw [hl9]
                        unfold by8 at ho ⊢
                        rw [← List.map_append, List.append_assoc] at ho
                        exact ho) hat
                      exact ⟨⟨⟨s6, v1, _, g1, g2, g3, g4, fun t r hm => cmore_line (k := k) hm1 (by omega) q2 q1 hH2 (HI.out t r hm), by rw [hl9]; omega, by omega, by omega⟩, by omega⟩, g5⟩
                    clear hR6 hTb6 hS6 hT6 hrow2 hpl2 hR5 hTb5 hS5 hOB5 hO6 hrl hH2 HI HP HH HC hlen2 hlt2 htl2
                    go_upto_region 26 with fail
                    go_region_law
                      (first
                        | (go_simp; go_at_call 100; (with_reducible refine TR.mono ?_); rintro e w' ⟨qa, cap', rfl, HTC, rfl⟩)
                        | (refine step_append_at _ rfl (.tmp 144) (.tmp 146) 22 rfl base 5 i0 (.int .u8 0) 1 1 Tryd.underlying22 hi hz0 hz1 hz2 rfl (by decide) _ _ _ (by simp [Act.eval]) HZ.out qa (trimB l2).length cap' (by8 (trimB l2)) (by simp [Act.eval]) H8.out HTC.out.1 H1.out (HRL.out HTC.out.2).1 (HRL.out HTC.out.2).2 HB.out ?_; intro v1 w3 hown hgrow hat; obtain ⟨HXX, d2, f2⟩ := HX.out _ _ hown hgrow hat; obtain ⟨vp1, vcap1, rfl, _, _, _⟩ := own_zero hown; clear hown hgrow hat))
                    all_goals
                      go_wp2_with fail
                      go_roundg (gk - 1)
                      case rel => exact HXX.out.1
                      case measure => have := HXX.out.2; omega
      · have HF : Hid (CLPost k s w T base (.slice vp xs.length vcap) er (.returned (.tuple #[.slice none 0 0, er l])) w1) :=
          ⟨s1, _, xs, .bad, hR1, hTb1, hS1, .inl rfl, H2 hl0 (by rw [he]; simp), .inr (.inl ⟨l, rfl, by rw [he]; simp, rfl⟩)⟩
        rw [he] at HV1 HF
        clear h hT hF hR1 hT1 hTb1 hS1 HV hEr H1 H2 H3 hH he
        go_wp2_with fail
        refine HV1.mono ?_
        rintro e w2 ⟨rfl, rfl⟩
        clear HV1
        go_wp2_with fail
        go_ret2
        exact HF.out
end Go.Proofs.YthobojpbdeepoaaDoor
