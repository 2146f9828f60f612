/-
  What readMIMEHeader answers; where its loop stands; a key in place; a field more.
-/
import Derived.Test.YthobojpbdeepoaaDoorHdrState
import Derived.Test.YthobojpbdeepoaaDoorCanonKey
import Derived.Test.YthobojpbdeepoaaDoorFnLineWalk
namespace Go.Proofs.YthobojpbdeepoaaDoor
open Go.RowKit Go.ChangeMaps Go.MapKept Go.WideShapes

/-- What readMIMEHeader answers: some header, and what is known of it. -/
def RHPost (k : RK) (s : RS) (w : World) (T : Nat) (v : Value) (e : Ending) (w' : World) : Prop :=
  ∃ s' all err b base n D L, e = .returned (.tuple #[.map (some b), err]) ∧ Rd w' k s' ∧ Tp w' k T ∧ HM w' base b n D (fun x => valsOf x all) L ∧ Sorted all ∧ all.length ≤ k.d.length ∧ Turned (contBlocks k T v) w w' ∧
    (err = .nilIface ∨ err = errAt k.ae ∨ ∃ t, err = .iface 125 (.string t)) ∧
    (∀ qs r, HG (k.d.drop s.pos) [] qs r → err = .nilIface ∧ all = allOf qs ∧ r = k.d.drop s'.pos) ∧ (HB (k.d.drop s.pos) → err ≠ .nilIface)

/-- The row that was made ahead. -/
def SRow (w : World) (SB n : Nat) (u : Value) : Prop := ∃ q, u = .slice q n n ∧ (0 < n → q = some ⟨SB, 0, none⟩ ∧ ∃ cur : Array Value, w.heap[SB]? = some (.cells cur 9 (0, 0)) ∧ cur.size = n)

/-- Where the loop over the lines stands. -/
def LR (k : RK) (s : RS) (w : World) (T bT : Nat) (v0 : Value) (SB b base : Nat) (u1 u2 u8 : Value) (g : Nat) (wr : World) : Prop :=
  ∃ (mm : Int) (s2 : RS) (v2 : Value) (xs2 : List UInt8) (n : Nat) (D : DataW Value) (all : List Fd) (L : List Nat) (used rem : Nat) (q : Option Addr),
    u1 = .int .i64 mm ∧ 9223372036854775807 - 3000000 * (n : Int) ≤ mm ∧ mm ≤ 9223372036854775807 ∧ u2 = .int .i64 (9223372036854775807 - (n : Int)) ∧ u8 = .slice q rem rem ∧ (0 < rem → q = some ⟨SB, used, none⟩) ∧
    Rd wr k s2 ∧ Tb wr k T bT v2 xs2 ∧ HS wr base b n D all L SB used rem v2 ∧ Turned (contBlocks k T v0) w wr ∧ OB w v0 v2 ∧ Sorted all ∧ all.length = n ∧ n + s.pos ≤ s2.pos ∧ k.d.length - s2.pos ≤ g ∧
    (∀ qs r, HG (k.d.drop s.pos) [] qs r → ∃ ps, all = allOf ps ∧ HG (k.d.drop s2.pos) ps qs r) ∧ (HB (k.d.drop s.pos) → HB (k.d.drop s2.pos))

theorem call_colon (args : Array Value) (W : World) : (callFunc 103 args).run Tryd.prog W = .ok (.enter 103 args) W := by kernel_rfl

theorem makeMap_hint (n : Int) (W : World) : (Instr.makeMap 113 (some (.int .i64 n))).run Tryd.prog W = .ok (.map (some W.heap.size)) (W.alloc (.map #[] 0)) := by
  have hu := run_underlying (P := Tryd.prog) Tryd.underlying113 W
  simp [Instr.makeMap, hu, asInt, newObj, Result.andThen]
  rfl


theorem canRes_len (l : List UInt8) : (canRes l).1.length = l.length := by
  unfold canRes
  split
  · subst_vars; rfl
  · split
    · exact canL_length _ _
    · split <;> rfl
theorem OB.comp {w w1 : World} {v v1 v2 : Value} (h : OB w v v1) (hs : w.heap.size ≤ w1.heap.size) (k : OB w1 v1 v2) : OB w v v2 := by
  rcases k with e | ⟨g, e, hg⟩
  · rcases h with e' | ⟨g, e', hg⟩
    · exact .inl (e.trans e')
    · exact .inr ⟨g, e.trans e', hg⟩
  · exact .inr ⟨g, e, by omega⟩
/-- What lies behind the part that was written. -/
theorem Wrote.rest {b off i : Nat} {w w' : World} {t : List UInt8} (h : Wrote b off (off + i) w w') (hr : Row8 w b off t) : Row8 w' b (off + i) (t.drop i) := by
  intro j u hj
  rw [List.getElem?_drop] at hj
  have h1 := hr _ u hj
  cases hb : w.heap[b]? with
  | none => simp [World.cell?, hb] at h1
  | some o =>
    cases o with
    | cells cs t' fr =>
      obtain ⟨cs', h2, _, h3⟩ := h.row _ _ _ hb
      rw [cell_of_row w b _ cs _ _ hb] at h1
      rw [cell_of_row w' b _ cs' _ _ h2, h3 _ (.inr (by omega)), Nat.add_assoc]
      exact h1
    | _ => simp [World.cell?, hb] at h1
/-- Behind the canonical form of the key in place. -/
theorem key_stage {k : RK} {s2 s3 : RS} {w wr W5 w6 : World} {T bT SB B n used rem b off cap i : Nat} {D : DataW Value} {all : List Fd} {L : List Nat} {v v2 v3 : Value} {xs2 xs3 t c' : List UInt8}
    (hR2 : Rd wr k s2) (hTb2 : Tb wr k T bT v2 xs2) (hHS2 : HS wr SB B n D all L SB used rem v2) (hTu2 : Turned (contBlocks k T v) w wr) (hOB2 : OB w v v2)
    (hR3 : Rd W5 k s3) (hTb3 : Tb W5 k T bT v3 xs3) (hHS3 : HS W5 SB B n D all L SB used rem v3) (hTu3 : Turned (contBlocks k T v) w W5) (hOB3 : OB wr v2 v3) (hlow : ∀ x, x ∈ T :: k.blocks → x < SB ∧ x < B)
    (hrow : Row8 W5 b off t) (hp : (b = k.C ∧ off + t.length ≤ s3.r) ∨ (wr.heap.size ≤ b ∧ some b ≠ v3.ownBlock) ∨ v3 = .slice (some ⟨b, off, none⟩) t.length cap)
    (hw : Wrote b off (off + i) W5 w6) (hi : i ≤ t.length) (hc : Row8 w6 b off c') (hcl : c'.length = i) :
    ∃ s6 xs6, Rd w6 k s6 ∧ s6.pos = s3.pos ∧ Tb w6 k T bT v3 xs6 ∧ HS w6 SB B n D all L SB used rem v3 ∧ Turned (contBlocks k T v) w w6 ∧ OB w v v3 ∧ Row8 w6 b (off + i) (t.drop i) := by
  obtain ⟨s6, xs6, h1, h2, h3⟩ := place_wrote hR2 hTb2 hR3 hTb3 hrow hp hw hi hc hcl
  refine ⟨s6, xs6, h1, h2, h3, hHS3.inplace ⟨v2, hHS2⟩ hw.turned (fun x hx => hlow x (List.mem_cons_of_mem _ hx)) ?_, hTu3.join hw.turned (fun x hx => ?_), hOB2.comp hTu2.size hOB3, hw.rest hrow⟩
  · rcases hp with ⟨e, _⟩ | ⟨e, _⟩ | e
    · exact .inl e
    · exact .inr (.inl e)
    · exact .inr (.inr (by rw [e]; rfl))
  · rw [List.mem_singleton.1 hx]
    rcases hp with ⟨e, _⟩ | ⟨e, _⟩ | e
    · exact .inl (by rw [e]; simp [contBlocks, RK.blocks])
    · exact .inr (Nat.le_trans hTu2.size e)
    · have e1 : v3.ownBlock = some b := by rw [e]; rfl
      rcases hOB2.comp hTu2.size hOB3 with e2 | ⟨g, e2, hg⟩
      · refine .inl ?_
        simp only [contBlocks, List.mem_cons, List.mem_append]
        refine .inr (.inr ?_)
        rw [← e2, e1]
        simp
      · rw [e1] at e2
        injection e2 with e2
        exact .inr (by omega)

/-- What a group is to the reader, one by one. -/
theorem HG.one {d : List UInt8} {ps qs : List Fd} {r t r' : List UInt8} (h : HG d ps qs r) (hs : CSpec erCol d (.line t r')) (ht : t ≠ []) : ∃ j kk vv, Grp d j t r' kk vv ∧ HG r' (ps ++ [(canon kk, trimL blB vv)]) qs r := by
  rcases h.read hs with ⟨e, _⟩ | ⟨j, t', r2, kk, vv, hgr, e, hg3⟩
  · injection e with e
    exact absurd e ht
  · injection e with e2 e3
    subst e2 e3
    exact ⟨j, kk, vv, hgr, hg3⟩
theorem HB.one {d : List UInt8} {t r' : List UInt8} (h : HB d) (hs : CSpec erCol d (.line t r')) : HB r' := by
  rcases h.read hs with e | e | ⟨j, t', r2, kk, vv, hgr, e, hb3⟩
  · cases e
  · cases e
  · injection e with e2 e3
    subst e2 e3
    exact hb3

set_option maxRecDepth 100000 in
/-- A field more: the loop goes on. -/
theorem lr_next {k : RK} {s s2 s6 : RS} {w w7 w8 : World} {T bT SB B n used8 rem8 g j : Nat} {D8 : DataW Value} {all : List Fd} {L8 : List Nat} {v v3 : Value} {xs6 t : List UInt8} {mm' : Int} {q8 : Option Addr} {S : List Nat}
    (hR : Rd w7 k s6) (hTb : Tb w7 k T bT v3 xs6) (hTu : Turned (contBlocks k T v) w w7) (hOB : OB w v v3) (ht : Turned S w7 w8) (hS : ∀ x, x ∈ S → bT ≤ x ∧ v3.ownBlock ≠ some x) (hSn : ∀ x, x ∈ S → w.heap.size ≤ x)
    (hHS : HS w8 SB B (n + 1) D8 (insF all ((canRes (t.take j)).1, trimL blB (t.drop (j + 1)))) L8 SB used8 rem8 v3) (hq : 0 < rem8 → q8 = some ⟨SB, used8, none⟩)
    (hm1 : 9223372036854775807 - 3000000 * ((n : Int) + 1) ≤ mm') (hm2 : mm' ≤ 9223372036854775807) (hsrt : Sorted all) (hall : all.length = n) (hpos : n + s.pos ≤ s2.pos) (hlt : s2.pos < s6.pos) (hg : k.d.length - s2.pos ≤ g) (hle : s6.pos ≤ k.d.length)
    (hHG : ∀ qs r, HG (k.d.drop s.pos) [] qs r → ∃ ps, all = allOf ps ∧ HG (k.d.drop s2.pos) ps qs r) (hHB : HB (k.d.drop s.pos) → HB (k.d.drop s2.pos)) (hCS : CSpec erCol (k.d.drop s2.pos) (.line t (k.d.drop s6.pos))) (ht0 : t ≠ []) (h58 : t[j]? = some 58) (hno : NoC t 58 j) :
    LR k s w T bT v SB B SB (.int .i64 mm') (.int .i64 (9223372036854775807 - (n : Int) - 1)) (.slice q8 rem8 rem8) (g - 1) w8 := by
  obtain ⟨g1, g2⟩ := rdtb_keep hR hTb ht hS
  refine ⟨mm', s6, v3, xs6, n + 1, D8, _, L8, used8, rem8, q8, rfl, by omega, hm2, congrArg (Value.int .i64) (by omega), rfl, hq, g1, g2, hHS, hTu.join ht (fun x hx => .inr (hSn x hx)), hOB, ins_sorted hsrt _ _, by unfold insF; rw [ins_length, hall]; rfl, by omega, by omega, fun qs r hg => ?_, fun hb => (hHB hb).one hCS⟩
  obtain ⟨ps, e1, hg2⟩ := hHG qs r hg
  obtain ⟨j', kk, vv, hgr, hg3⟩ := hg2.one hCS ht0
  obtain ⟨_, e3, e4⟩ := hgr.cut h58 hno
  refine ⟨_, ?_, hg3⟩
  rw [allOf_snoc, ← e1, e3, hgr.canRes_, e4]
end Go.Proofs.YthobojpbdeepoaaDoor
