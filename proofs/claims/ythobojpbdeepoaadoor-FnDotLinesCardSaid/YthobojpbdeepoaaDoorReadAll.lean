/-
  The contract of io.ReadAll over an open block.
-/
import Derived.Test.YthobojpbdeepoaaDoorDotTail
import Derived.Lib.AppendZeros
namespace Go.Proofs.YthobojpbdeepoaaDoor
open Go.RowKit

theorem bs_info : (Tryd.prog.info? 22).map (fun i => (i.zero, i.size, i.bytes)) = some (some (.slice none 0 0), 1, 24) := by kernel_rfl

theorem zeroCells_size (n : Nat) : (Builtin.zeroCells (Value.int .u8 0).cells n).size = n := by
  unfold Builtin.zeroCells
  rw [Array.size_map, Array.size_range]
  show n * 1 = n
  omega

/-- 'append([]byte(nil), make([]byte, n)...)': a new row with room for n bytes. -/
theorem wpList_zeros (w : World) {ops : Array Oper} {rest : List Oper} {o : Oper} {a : Act} {Q : Exit → Act → World → Prop} (hgd : o.guard = none) (x : Operand)
    (ho : o.op = .call { callee := .builtin .append, args := #[.const (.slice none 0 0), x], argTypes := #[22, 3] }) (n : Nat) (hx : a.eval x = .int .i64 (n : Int)) (h0 : 0 < n) (hn : n ≤ 1099511627776)
    (h : ∀ cap w', n ≤ cap → w'.ownsRow w.heap.size 5 1 (.slice (some ⟨w.heap.size, 0, none⟩) 0 cap) 0 [] → w.grownBy w' none → wpList Tryd.prog ops Q rest (a.put o.dst (.slice (some ⟨w.heap.size, 0, none⟩) n cap)) w') :
    wpList Tryd.prog ops Q (o :: rest) a w := by
  obtain ⟨i, hi, hz, hs, hb⟩ := info_parts u8_info
  have hm : n ≤ maxLen := by unfold maxLen; omega
  have hr := Lib.run_append_nil_zeros (P := Tryd.prog) w 22 3 o.type 5 i (.int .u8 0) .i64 .i64 Tryd.underlying22 Tryd.underlying3 hi hz n h0 (by rw [hs]; decide) (by omega) (by rw [hb]; omega)
  refine Lib.wpList_append_run w hgd _ x _ _ ho _ _ rfl hx _ _ hr (h _ _ (grownCap_ge w n 0 _) ?_ ?_)
  · refine (World.ownsRow_made w.drew _ (grownCap w n 0 5) (Nat.le_refl _) (grownCap_le_maxLen _ _ _ _ hm) ?_)
    rw [Array.size_append, zeroCells_size, zeroCells_size, Nat.mul_one]
    have := grownCap_ge w n 0 5
    omega
  · exact ⟨rfl, rfl, rfl, by simp, fun j hj hne => (World.grownBy_alloc w.drew _ none).block j hj hne⟩

/-- A chunk's value: its row's block, its bytes, its capacity. -/
abbrev ckVal (c : Nat × List UInt8 × Nat) : Value := .slice (some ⟨c.1, 0, none⟩) c.2.1.length c.2.2
/-- The bytes of the chunks. -/
def ckAll : List (Nat × List UInt8 × Nat) → List UInt8
  | [] => []
  | c :: cs => c.2.1 ++ ckAll cs
theorem ckAll_append (a b : List (Nat × List UInt8 × Nat)) : ckAll (a ++ b) = ckAll a ++ ckAll b := by
  induction a with
  | nil => rfl
  | cons c cs ih => simp [ckAll, ih]
def CkOwn (w wr : World) (c : Nat × List UInt8 × Nat) : Prop := wr.ownsRow w.heap.size 5 1 (ckVal c) c.2.1.length (by8 c.2.1)
theorem own_ne_type {w : World} {b1 b2 n1 n2 s1 s2 : Nat} {e1 e2 : TypeId} {v1 v2 : Value} {x1 x2 : List Value} (h1 : w.ownsRow b1 e1 s1 v1 n1 x1) (h2 : w.ownsRow b2 e2 s2 v2 n2 x2) (hne : e1 ≠ e2) (x : Nat) (hx : v1.ownBlock = some x) : some x ≠ v2.ownBlock := by
  rcases h1.2 with ⟨rfl, _⟩ | ⟨g1, c1, u1, rfl, _, g, _⟩
  · cases hx
  · rcases h2.2 with ⟨rfl, _⟩ | ⟨g2, c2, u2, rfl, _, g', _⟩
    · intro h; cases h
    · intro h
      have e1 : g1 = x := by simpa [Value.ownBlock] using hx
      have e2 : x = g2 := by simpa [Value.ownBlock] using h
      rw [e1, e2] at g
      rw [g] at g'
      injection g' with g'
      injection g' with _ g'
      exact hne g'

/-- What a round of ReadAll's loop keeps: lb in the row gb of capacity cb, the chunks cs (their slice: v6), the next size nx. -/
structure RAR (k : RK) (p st : Nat) (w : World) (T D g : Nat) (lb : List UInt8) (gb cb nx : Nat) (cs : List (Nat × List UInt8 × Nat)) (v6 : Value) (st1 : Nat) (s1 : RS) (wr : World) : Prop where
  rd : Rd wr k s1
  tu : Turned (tdBlocks k T D) w wr
  dt : Dt wr k T D st1 true
  eq : dec (k.d.drop p) st = (ckAll cs ++ lb ++ (dec (k.d.drop s1.pos) st1).1, (dec (k.d.drop s1.pos) st1).2)
  s5 : st1 ≤ 5
  bo : wr.ownsRow w.heap.size 5 1 (.slice (some ⟨gb, 0, none⟩) lb.length cb) lb.length (by8 lb)
  room : lb.length < cb
  c256 : 256 ≤ nx ∧ 2 * nx ≤ 3 * cb
  co : wr.ownsRow w.heap.size 22 1 v6 cs.length (cs.map ckVal)
  ch : ∀ c, c ∈ cs → CkOwn w wr c ∧ c.1 ≠ gb
  cl : cs.length ≤ (ckAll cs).length
  le : (dec (k.d.drop s1.pos) st1).1.length + 1 ≤ g

section
variable {k : RK} {s s1 s2 : RS} {w wr wd w3 w4 : World} {T D g gb cb nx p st st1 st2 : Nat} {op2 : Bool} {lb out : List UInt8} {cs : List (Nat × List UInt8 × Nat)} {cur : List Value} {v6 er : Value} {ue : Addr}

/-- What the Read leaves of all that. -/
structure RA3 (k : RK) (p st : Nat) (w : World) (T D g : Nat) (lb : List UInt8) (gb cb nx : Nat) (cs : List (Nat × List UInt8 × Nat)) (v6 : Value) (st2 : Nat) (s2 : RS) (op2 : Bool) (w3 : World) : Prop where
  rd : Rd w3 k s2
  tu : Turned (tdBlocks k T D) w w3
  dt : Dt w3 k T D st2 op2
  eq : dec (k.d.drop p) st = (ckAll cs ++ lb ++ (dec (k.d.drop s2.pos) st2).1, (dec (k.d.drop s2.pos) st2).2)
  s5 : st2 ≤ 5
  bo : w3.ownsRow w.heap.size 5 1 (.slice (some ⟨gb, 0, none⟩) lb.length cb) lb.length (by8 lb)
  c256 : 256 ≤ nx ∧ 2 * nx ≤ 3 * cb
  co : w3.ownsRow w.heap.size 22 1 v6 cs.length (cs.map ckVal)
  ch : ∀ c, c ∈ cs → CkOwn w w3 c ∧ c.1 ≠ gb
  cl : cs.length ≤ (ckAll cs).length

theorem td_lt2 (h0 : Rd w k s) (hD0 : Dt w k T D st op2) : ∀ x, x ∈ tdBlocks k T D → x < w.heap.size := by
  obtain ⟨buf, hb⟩ := hD0.tb
  have b1 := h0.bb.lt
  have b2 := h0.cb.lt
  have b3 := h0.yb.lt
  have b4 := hb.lt
  have b5 := hD0.db.lt
  intro x hx
  simp [tdBlocks, RK.blocks] at hx
  omega

theorem RAR.read (h : RAR k p st w T D g lb gb cb nx cs v6 st1 s1 wr) (h0 : Rd w k s) (hD0 : Dt w k T D st true) (hw : Turned [] wr wd) (hcl : cur.length = cb) (hcx : cur.take lb.length = by8 lb) (hb0 : w.heap.size ≤ gb)
    (hd : DR k s1 wd T D st1 op2 gb lb.length (cb - lb.length) cur (2 * k.d.length + 1) out st2 s2 w3) : RA3 k p st w T D g (lb ++ out) gb cb nx cs v6 st2 s2 op2 w3 ∧ (lb ++ out).length ≤ cb := by
  have hl := td_lt2 h0 hD0
  have hgbw : gb < wr.heap.size := (h.bo.lt gb rfl).2
  have hlen := hd.len
  have hroom := h.room
  have h8 : (by8 out).length = out.length := by8_length out
  have hT3 : Turned (tdBlocks k T D) w w3 := by
    have h1 := h.tu.trans (hw.mono (by simp))
    exact ⟨hd.tu.os.trans h1.os, hd.tu.tape.trans h1.tape, hd.tu.output.trans h1.output, Nat.le_trans h1.size hd.tu.size, fun i hi hn => (hd.tu.block i (Nat.lt_of_lt_of_le hi h1.size) (fun hx => by
      simp [dotBlocks] at hx hn
      omega)).trans (h1.block i hi hn)⟩
  have far : ∀ x, w.heap.size ≤ x → x ≠ gb → x ∉ dotBlocks k T D gb := fun x hx hne hm => by
    simp [dotBlocks, RK.blocks] at hm
    have h3 := hl T (by simp [tdBlocks])
    have h4 := hl D (by simp [tdBlocks])
    have h5 := hl k.B (by simp [tdBlocks, RK.blocks])
    have h6 := hl k.C (by simp [tdBlocks, RK.blocks])
    have h7 := hl k.Y (by simp [tdBlocks, RK.blocks])
    omega
  refine ⟨⟨hd.rd, hT3, hd.dt, ?_, hd.s5, ?_, h.c256, ?_, ?_, h.cl⟩, by rw [List.length_append]; omega⟩
  · rw [h.eq, hd.eq]; simp
  · refine own_of_blk hd.gb ?_ (by rw [List.length_append]; omega) ?_ hb0 ?_ (by rw [by8_length])
    · rw [length_splice _ _ _ (by omega), hcl]
    · obtain ⟨_, _, _, _, hm, _⟩ := blk_of_own h.bo
      exact hm
    · have e8 : by8 (lb ++ out) = by8 lb ++ by8 out := by unfold by8; rw [List.map_append]
      unfold splice
      rw [e8, hcx, List.length_append, ← List.append_assoc, List.take_left' (by rw [List.length_append, by8_length, by8_length])]
  · refine own_keepS (own_keepS h.co hw (by simp)) hd.tu (fun x hx he => ?_)
    have h1 := h.co.lt x he.symm
    exact far x h1.1 (fun e => own_ne_type h.co h.bo (by decide) x he.symm (by rw [e]; rfl)) hx
  · intro c hc
    obtain ⟨h1, h2⟩ := h.ch c hc
    refine ⟨own_keepS (own_keepS h1 hw (by simp)) hd.tu (fun x hx he => ?_), h2⟩
    have h3 := h1.lt x he.symm
    have h4 : x = c.1 := by simpa [Value.ownBlock] using he
    exact far x h3.1 (by rw [h4]; exact h2) hx
/-- The full row is laid to the chunks, and a new one made. -/
theorem RA3.next (h : RA3 k p st w T D g lb gb cb nx cs v6 st2 s2 true w3) (h0 : Rd w k s) (hD0 : Dt w k T D st true) (hfull : lb.length = cb) {v6' : Value} {w5 : World} {cb' : Nat} {t : TypeId} {x : Value}
    (ho : w4.ownsRow w.heap.size 22 1 v6' (cs.length + 1) (cs.map ckVal ++ [ckVal (gb, lb, cb)])) (hg : (w3.alloc (.cells #[x] t)).grownBy w4 v6.ownBlock) (hn : w5.ownsRow w4.heap.size 5 1 (.slice (some ⟨w4.heap.size, 0, none⟩) 0 cb') 0 []) (hg5 : w4.grownBy w5 none) (hcb : nx ≤ cb') (hc1 : 1 ≤ cb)
    (hle : (dec (k.d.drop s2.pos) st2).1.length + 1 ≤ g - 1) : RAR k p st w T D (g - 1) [] w4.heap.size cb' (nx + nx / 2) (cs ++ [(gb, lb, cb)]) v6' st2 s2 w5 := by
  have hl := td_lt2 h0 hD0
  have hT3 := h.tu
  have hall : ∀ y, y < w3.heap.size → some y ≠ v6.ownBlock → w5.heap[y]? = w3.heap[y]? := fun y hy hne => by
    have hy1 : y < (w3.alloc (.cells #[x] t)).heap.size := by simp; omega
    exact (hg5.block y (Nat.lt_of_lt_of_le hy1 hg.size) (by simp)).trans ((hg.block y hy1 hne).trans (Below.heap_alloc _ _ _ hy))
  have hsz : w3.heap.size ≤ w5.heap.size := by
    have h1 := hg.size
    have h2 := hg5.size
    simp at h1
    omega
  have hsz4 : w3.heap.size < w4.heap.size := by
    have h1 := hg.size
    simp at h1
    omega
  have hT5 : Turned (tdBlocks k T D) w w5 := ⟨hg5.os.trans (hg.os.trans hT3.os), hg5.tape.trans (hg.tape.trans hT3.tape), hg5.output.trans (hg.output.trans hT3.output), Nat.le_trans hT3.size hsz, fun i hi hni => (hall i (Nat.lt_of_lt_of_le hi hT3.size) (own_ne h.co i hi)).trans (hT3.block i hi hni)⟩
  have hb : ∀ y, y < w.heap.size → w5.heap[y]? = w3.heap[y]? := fun y hy => hall y (Nat.lt_of_lt_of_le hy hT3.size) (own_ne h.co y hy)
  have keep : ∀ {v : Value} {n : Nat} {xs : List Value}, w3.ownsRow w.heap.size 5 1 v n xs → w5.ownsRow w.heap.size 5 1 v n xs := fun {v n xs} ho => by
    refine ⟨ho.1, ?_⟩
    rcases ho.2 with h1 | ⟨g', cap', cur', hv, hb', hg', h2⟩
    · exact .inl h1
    · refine .inr ⟨g', cap', cur', hv, hb', (hall g' ?_ (own_ne_type ho h.co (by decide) g' (by rw [hv]; rfl))).trans hg', h2⟩
      rcases Nat.lt_or_ge g' w3.heap.size with hlt | hge
      · exact hlt
      · rw [Array.getElem?_eq_none hge] at hg'; cases hg'
  refine ⟨h.rd.grown h0 hsz hb, hT5, h.dt.grown (hb T (hl T (by simp [tdBlocks]))) (hb D (hl D (by simp [tdBlocks]))), ?_, h.s5, ?_, ?_, ?_, ?_, ?_, ?_, hle⟩
  · rw [h.eq, ckAll_append]; simp [ckAll]
  · obtain ⟨h1, h2⟩ := hn
    refine ⟨h1, ?_⟩
    rcases h2 with ⟨h2, _⟩ | ⟨g', cap', cur', hv, hb', hr⟩
    · cases h2
    · exact .inr ⟨g', cap', cur', hv, by have := hT3.size; omega, hr⟩
  · have := h.c256; show 0 < cb'; omega
  · have := h.c256; omega
  · rw [List.length_append, List.map_append]
    refine ho.kept hg5 ?_
    cases v6'.ownBlock
    · exact .inl rfl
    · exact .inr (by simp)
  · intro c hc
    rcases List.mem_append.1 hc with hc | hc
    · obtain ⟨h1, h2⟩ := h.ch c hc
      refine ⟨keep h1, ?_⟩
      have h3 := h1.lt c.1 rfl
      omega
    · rw [List.mem_singleton.1 hc]
      refine ⟨keep h.bo, ?_⟩
      have h3 := h.bo.lt gb rfl
      show gb ≠ _
      omega
  · have := h.cl
    rw [ckAll_append, List.length_append, List.length_append]
    simp [ckAll]
    omega
end

theorem own_base {w : World} {b b' n : Nat} {e : TypeId} {sz : Nat} {v : Value} {xs : List Value} (h : w.ownsRow b e sz v n xs) (hb : b' ≤ b) : w.ownsRow b' e sz v n xs := by
  refine ⟨h.1, ?_⟩
  rcases h.2 with h1 | ⟨g, cap, cur, hv, h1, h2⟩
  · exact .inl h1
  · exact .inr ⟨g, cap, cur, hv, Nat.le_trans hb h1, h2⟩
theorem own_form {w : World} {b n : Nat} {e : TypeId} {sz : Nat} {v : Value} {xs : List Value} (h : w.ownsRow b e sz v n xs) : ∃ p c, v = .slice p n c ∧ (0 < n → ∃ g, p = some ⟨g, 0, none⟩) ∧ n ≤ c := by
  rcases h.2 with ⟨rfl, rfl⟩ | ⟨g, cap, cur, rfl, _, _, h1, _⟩
  · exact ⟨none, 0, rfl, fun h => absurd h (Nat.lt_irrefl 0), Nat.le_refl _⟩
  · exact ⟨_, cap, rfl, fun _ => ⟨g, rfl⟩, h1⟩
theorem ckAll_take {cs : List (Nat × List UInt8 × Nat)} {i : Nat} {c : Nat × List UInt8 × Nat} (h : cs[i]? = some c) : ckAll (cs.take (i + 1)) = ckAll (cs.take i) ++ c.2.1 := by
  rw [List.take_add_one, h, ckAll_append]
  simp [ckAll]
theorem ckAll_take_le (cs : List (Nat × List UInt8 × Nat)) (i : Nat) : (ckAll (cs.take i)).length ≤ (ckAll cs).length := by
  have h : ckAll cs = ckAll (cs.take i) ++ ckAll (cs.drop i) := by rw [← ckAll_append, List.take_append_drop]
  rw [h, List.length_append]
  omega
theorem own_cells8 {w : World} {b : Nat} {g : Nat} {l : List UInt8} {cap : Nat} (h : w.ownsRow b 5 1 (.slice (some ⟨g, 0, none⟩) l.length cap) l.length (by8 l)) : ∀ j u, (by8 l)[j]? = some u → w.cell? ((⟨g, 0, none⟩ : Addr).add j) = some u :=
  fun j u hj => h.cells (g := g) rfl j u hj

/-- What a round over the chunks keeps: the first i of them are laid behind one another. -/
def FinR (w3 : World) (cs : List (Nat × List UInt8 × Nat)) (i : Nat) (v : Value) (wr : World) : Prop :=
  wr.ownsRow w3.heap.size 5 1 v (ckAll (cs.take i)).length (by8 (ckAll (cs.take i))) ∧ Turned [] w3 wr

/-- What ReadAll leaves: the text in a row of its own; what is left of the reader. -/
def AllPost (k : RK) (s : RS) (w : World) (T D st : Nat) (ue : Addr) (e : Ending) (w' : World) : Prop :=
  ∃ v er s', e = .returned (.tuple #[v, er]) ∧ Rd w' k s' ∧ Turned (tdBlocks k T D) w w' ∧ Tp w' k T ∧
    w'.ownsRow w.heap.size 5 1 v (dec (k.d.drop s.pos) st).1.length (by8 (dec (k.d.drop s.pos) st).1) ∧
    ((er = .nilIface ∧ (dec (k.d.drop s.pos) st).2 = some (k.d.drop s'.pos)) ∨ (er = errAt ue ∧ (dec (k.d.drop s.pos) st).2 = none))

set_option maxRecDepth 100000 in
set_option maxHeartbeats 8000000 in
theorem readAll_any (k : RK) (s : RS) (w : World) (T D st : Nat) (ue : Addr) (h : Rd w k s) (hD : Dt w k T D st true) (h5 : st ≤ 5) (hd : k.d.length ≤ 1048576) (hE : EndsC w k.K k.ae ue) :
    Calls Tryd.prog 83 #[.iface 127 (.pointer (some ⟨D, 0, none⟩))] w (AllPost k s w T D st ue) := by
  obtain ⟨i0, hi, hz0, hz1, hz2⟩ := info_parts u8_info
  obtain ⟨j0, hj, jz0, jz1, jz2⟩ := info_parts bs_info
  have H0 := Lib.hid (⟨h, hD⟩ : Rd w k s ∧ Dt w k T D st true)
  have HE : Hid (∀ wr, Turned (tdBlocks k T D) w wr → EndsC wr k.K k.ae ue) := fun wr hx => hE.keep (hx.below (by have := h.kb; have := h.bb.lt; omega) (fun x hx => by
    have h1 := h.kb
    have h2 := h.kc
    have h3 := h.ky
    have h4 := hD.kt
    have h5 := hD.kd
    simp [tdBlocks, RK.blocks] at hx
    omega))
  have H5 := Lib.hid h5
  clear h hD hE h5
  go_enter Tryd.func83, Tryd.ntmps83
  go_wp2_with (at_make; refine wpList_make_own _ rfl (.const (.int .i64 0)) (.const (.int .i64 512)) 22 rfl w.heap.size 5 i0 (.int .u8 0) 1 Tryd.underlying22 hi hz0 hz1 .i64 .i64 512 512 rfl rfl rfl (by rw [hz2]; decide) (by decide) (Nat.le_refl _) ?_; intro w1 hown1 hgrow1; refine Hid.out ?_)
  refine Lib.hid ?_
  have hs1 : w.heap.size ≤ w1.heap.size := hgrow1.size
  go_wp2_with (at_make; refine wpList_make_own _ rfl (.const (.int .i64 0)) (.const (.int .i64 4)) 34 rfl w.heap.size 22 j0 (.slice none 0 0) 1 Tryd.underlying34 hj jz0 jz1 .i64 .i64 4 4 rfl rfl rfl (by rw [jz2]; decide) (by decide) hs1 ?_; intro w2 hown2 hgrow2; refine Hid.out ?_)
  refine Lib.hid ?_
  have HI : Hid (RAR k s.pos st w T D ((dec (k.d.drop s.pos) st).1.length + 1) [] w.heap.size 512 256 [] (.slice (some ⟨w1.heap.size, 0, none⟩) 0 4) st s w2) := by
    have hT : Turned [] w w2 := ((Turned.refl [] w).grown hgrow1 (fun x hx => by cases hx)).grown hgrow2 (fun x hx => by cases hx)
    refine ⟨H0.out.1.keepNew hT, hT.mono (by simp), H0.out.2.keep hT (by simp) (by simp), by simp [ckAll], H5.out, hown1.kept hgrow2 (.inr (by simp [Value.ownBlock])), by decide, ⟨by decide, by decide⟩, hown2, (fun c hc => by simp at hc), Nat.le_refl _, Nat.le_refl _⟩
  have HB0 : Hid (w.heap.size ≤ w.heap.size) := Nat.le_refl _
  clear hown1 hgrow1 hown2 hgrow2 hs1
  go_wp2_with fail
  go_loopg [4, 5, 6, 7] ((dec (k.d.drop s.pos) st).1.length + 1) (fun g b nx v6 fs wr => ∃ lb gb cb n cs st1 s1, RAR k s.pos st w T D g lb gb cb n cs v6 st1 s1 wr ∧ b = .slice (some ⟨gb, 0, none⟩) lb.length cb ∧ nx = .int .i64 ((n : Nat) : Int) ∧ fs = .int .i64 ((ckAll cs).length : Int))
  case atStart => exact ⟨[], _, 512, 256, [], st, s, HI.out, rfl, rfl, rfl⟩
  case round =>
    obtain ⟨lb, gb, cb, n, cs, st1, s1, hr, rfl, rfl, rfl⟩ := hrel
    obtain ⟨cur, hG, hcl, _, hcm, hbg, hcx⟩ := blk_of_own hr.bo
    have hTd : Turned [] wr wr.drew := (Turned.refl _ _).drew
    have hEr := HE.out _ hr.tu
    have RD := Lib.hid (dotRead_any k s1 wr.drew T D st1 true gb lb.length (cb - lb.length) (cb - lb.length) cur ue (hr.rd.keepNew hTd) (hr.dt.keep hTd (by simp) (by simp)) (bf_new (w := w) (cap := cb) H0.out.1 hbg hG.drew hcl lb.length (by have := hr.room; omega)) hr.s5 (by unfold maxLen at hcm; omega) ⟨hEr.cut.glob, hEr.cut.below, hEr.cut.cell, hEr.cut.row⟩)
    have HN := Lib.hid (fun op2 out st2 s2 w3 => hr.read (op2 := op2) (out := out) (st2 := st2) (s2 := s2) (w3 := w3) H0.out.1 H0.out.2 hTd hcl hcx hbg)
    have ma := dot_ahead ⟨D, 0, none⟩
    have mm := dot_method ⟨D, 0, none⟩
    have hroom := hr.room
    have hall : (ckAll cs ++ lb).length + (dec (k.d.drop s1.pos) st1).1.length = (dec (k.d.drop s.pos) st).1.length := by rw [hr.eq]; exact List.length_append.symm
    have hdl := dec_len (k.d.drop s.pos) st
    rw [List.length_drop] at hdl
    have hdm : (dec (k.d.drop s.pos) st).1.length ≤ 1048577 := by split at hdl <;> omega
    have hcl2 := hr.cl
    have hle := hr.le
    have hc256 := hr.c256
    rw [List.length_append] at hall
    have b1 : (0 : Int) ≤ (lb.length : Int) := by omega
    have b2 : (lb.length : Int) ≤ (cb : Int) := by omega
    have b3 : ¬ cb = lb.length := by omega
    have hcm2 : cb ≤ 9223372036854775807 := by unfold maxLen at hcm; exact hcm
    clear hr hG hcl hcm hbg hcx hTd hEr hdl
    go_wp2_with fail
    go_region_held3 (fun w' => True) (trivial) (first | (go_at_call 94; (with_reducible refine RD.out.mono ?_); rintro e w3 ⟨out, st2, s2, op2, er, rfl, hdr, hor⟩))
    all_goals
      obtain ⟨h3, hlo⟩ := HN.out op2 out st2 s2 w3 hdr
      have hlo2 := hdr.len
      have hdeq : (dec (k.d.drop s1.pos) st1).1.length = out.length + (dec (k.d.drop s2.pos) st2).1.length := by rw [hdr.eq, List.length_append]
      rcases hor with ⟨rfl, g1, g2, rfl⟩ | ⟨rfl, g1, rfl⟩ | ⟨rfl, g1, g2, rfl⟩
      · have H3 := Lib.hid h3
        have e1 : IntKind.i64.wrap ((lb.length : Int) + (out.length : Int)) = (lb.length : Int) + (out.length : Int) := IntWalk.i64_in _ (by omega)
        have e2 : ((lb.length : Int) + (out.length : Int)).toNat = lb.length + out.length := by omega
        have e3 : IntKind.i64.wrap ((cb : Int) - ((lb.length : Int) + (out.length : Int))) = (cb : Int) - ((lb.length : Int) + (out.length : Int)) := IntWalk.i64_in _ (by omega)
        have e4 : IntKind.i64.wrap (((ckAll cs).length : Int) + ((lb.length : Int) + (out.length : Int))) = ((ckAll cs).length : Int) + ((lb.length : Int) + (out.length : Int)) := IntWalk.i64_in _ (by omega)
        have e5 : IntKind.i64.wrap ((n : Int) + (n : Int) / 2) = (n : Int) + (n : Int) / 2 := IntWalk.i64_in _ (by omega)
        have b4 : (0 : Int) ≤ (lb.length : Int) + (out.length : Int) := by omega
        have b5 : (lb.length : Int) + (out.length : Int) ≤ (cb : Int) := by omega
        have b6 : (cb : Int) - ((lb.length : Int) + (out.length : Int)) < (cb : Int) / 16 := by omega
        have hco := h3.co.alloc (.cells #[.slice (some ⟨gb, 0, none⟩) (lb.length + out.length) cb] 22)
        have HCO := Lib.hid hco
        have L2 : Hid (cs.length + 1 ≤ maxLen) := by show _ ≤ _; unfold maxLen; omega
        have L3 : Hid ((cs.length + 1) * 24 ≤ 140737488355328) := by show _ ≤ _; omega
        have HSz : Hid (w.heap.size ≤ (w3.alloc (.cells #[.slice (some ⟨gb, 0, none⟩) (lb.length + out.length) cb] 22)).heap.size) := by have := h3.tu.size; show _ ≤ _; simp; omega
        have HF : Hid (∀ v6' w4 w5 cb', w4.ownsRow w.heap.size 22 1 v6' (cs.length + 1) (cs.map ckVal ++ [.slice (some ⟨gb, 0, none⟩) (lb.length + out.length) cb]) → (w3.alloc (.cells #[.slice (some ⟨gb, 0, none⟩) (lb.length + out.length) cb] 22)).grownBy w4 u6.ownBlock →
            w5.ownsRow w4.heap.size 5 1 (.slice (some ⟨w4.heap.size, 0, none⟩) 0 cb') 0 [] → w4.grownBy w5 none → n ≤ cb' → RAR k s.pos st w T D (gk - 1) [] w4.heap.size cb' (n + n / 2) (cs ++ [(gb, lb ++ out, cb)]) v6' st2 s2 w5 ∧ 1 ≤ gk ∧ (ckAll (cs ++ [(gb, lb ++ out, cb)])).length = (ckAll cs).length + (lb.length + out.length)) := by
          intro v6' w4 w5 cb' q1 q2 q3 q4 q5
          refine ⟨h3.next H0.out.1 H0.out.2 (by rw [List.length_append]; omega) (by rw [← List.length_append] at q1; exact q1) q2 q3 q4 q5 (by omega) (by omega), by omega, ?_⟩
          rw [ckAll_append]
          simp [ckAll]
        have hn0 : 0 < n := by omega
        have hn1 : n ≤ 1099511627776 := by omega
        clear h3 hdr RD HN hco g1 g2 hdeq hlo hlo2
        go_wp2_with (at_builtin; refine wpList_append_own_at _ rfl (.tmp 76) (.tmp 78) 34 rfl w.heap.size 22 j0 (.slice none 0 0) 1 24 Tryd.underlying34 hj jz0 jz1 jz2 rfl (by decide) _ cs.length (cs.map ckVal) rfl HCO.out ⟨w3.heap.size, 0, none⟩ 1 1 [.slice (some ⟨gb, 0, none⟩) (lb.length + out.length) cb] rfl rfl (cell_one_new _ _ _) (by simp [Value.oneCell']) L2.out L3.out HSz.out ?_; intro v6' w4 hown hgrow hnil hat; refine Hid.out ?_)
        refine Lib.hid ?_
        have HF4 := Lib.hid (fun w5 cb' => HF.out v6' w4 w5 cb' hown hgrow)
        clear hown hgrow hnil hat HF HCO
        go_wp2_with (at_builtin; refine wpList_zeros _ rfl (.tmp 84) rfl n rfl hn0 hn1 ?_; intro cb' w5 hcb hown5 hgrow5; refine Hid.out ?_)
        refine Lib.hid ?_
        have HF5 := Lib.hid (HF4.out w5 cb' hown5 hgrow5 hcb)
        clear hown5 hgrow5 HF4
        have b7 : (0 : Int) ≤ (cb' : Int) := by omega
        go_wp2_with fail
        go_roundg (gk - 1)
        case rel => exact ⟨_, _, _, _, _, _, _, HF5.out.1, rfl, by go_num, by rw [HF5.out.2.2]; go_num⟩
        case measure => have := HF5.out.2.1; omega
      · have hfin : (dec (k.d.drop s2.pos) st2).1 = [] ∧ (dec (k.d.drop s2.pos) st2).2 = some (k.d.drop s2.pos) := by
          rw [g1, dec5]; exact ⟨rfl, rfl⟩
        have hT := h3.tu
        have hE3 := HE.out _ hT
        have cE := hE3.eof.cell
        have q2 := err_same w3 k.ae
        obtain ⟨p6, c6, rfl, hp6, hc6⟩ := own_form h3.co
        have htx : (dec (k.d.drop s.pos) st).1 = ckAll cs ++ (lb ++ out) := by
          have h1 := congrArg Prod.fst h3.eq
          rw [hfin.1, List.append_nil] at h1
          exact h1
        have hfs : (dec (k.d.drop s.pos) st).2 = some (k.d.drop s2.pos) := by
          have h1 := congrArg Prod.snd h3.eq
          rw [h1]; exact hfin.2
        have HP : Hid (∀ v w5, w5.ownsRow w.heap.size 5 1 v (ckAll cs ++ (lb ++ out)).length (by8 (ckAll cs ++ (lb ++ out))) → Turned [] w3 w5 → AllPost k s w T D st ue (.returned (.tuple #[v, .nilIface])) w5) := by
          intro v w5 hO hT5
          refine ⟨v, _, s2, rfl, h3.rd.keepNew hT5, hT.trans (hT5.mono (by simp)), (h3.dt.keep hT5 (by simp) (by simp)).tp, by rw [htx]; exact hO, .inl ⟨rfl, hfs⟩⟩
        have e1 : IntKind.i64.wrap ((lb.length : Int) + (out.length : Int)) = (lb.length : Int) + (out.length : Int) := IntWalk.i64_in _ (by omega)
        have e2 : ((lb.length : Int) + (out.length : Int)).toNat = lb.length + out.length := by omega
        have e4 : IntKind.i64.wrap (((ckAll cs).length : Int) + ((lb.length : Int) + (out.length : Int))) = ((ckAll cs).length : Int) + ((lb.length : Int) + (out.length : Int)) := IntWalk.i64_in _ (by omega)
        have b4 : (0 : Int) ≤ (lb.length : Int) + (out.length : Int) := by omega
        have b5 : (lb.length : Int) + (out.length : Int) ≤ (cb : Int) := by omega
        have HB3 : Hid (w.heap.size ≤ w3.heap.size) := hT.size
        have HBO := Lib.hid h3.bo
        have HCO := Lib.hid h3.co
        have HCH := Lib.hid h3.ch
        by_cases hcs : cs.length = 0
        · have hnil : cs = [] := List.eq_nil_of_length_eq_zero hcs
          subst hnil
          have HF := Lib.hid (HP.out _ w3 h3.bo (Turned.refl _ _))
          rw [List.length_append] at HF
          clear h3 hdr RD HN hfin hT hE3 htx hfs HP HBO HCO HCH g1 hdeq hlo hlo2 hp6 hc6 hall hcl2 hle hdm
          go_wp2_with fail
          go_ret2
          exact HF.out
        · have t0 : ((cs.length : Int) == 0) = false := beq_eq_false_iff_ne.2 (by omega)
          obtain ⟨g6, rfl⟩ := hp6 (by omega)
          obtain ⟨z, hz⟩ : ∃ z : Nat, z = (ckAll cs).length + (lb.length + out.length) := ⟨_, rfl⟩
          have e6 : ((ckAll cs).length : Int) + ((lb.length : Int) + (out.length : Int)) = (z : Int) := by omega
          have z0 : 0 < z := by omega
          have z1 : z ≤ 1099511627776 := by omega
          have HZ : Hid (z ≤ 1048577 ∧ z = (ckAll cs).length + (lb.length + out.length) ∧ cs.length ≤ 1048577) := ⟨by omega, hz, by omega⟩
          have b8 : (0 : Int) ≤ (z : Int) := by omega
          clear h3 hdr RD HN hfin hT hE3 htx hfs g1 hdeq hlo hlo2 hc6 hall hcl2 hle hdm hz
          go_wp2_with (at_builtin; refine wpList_zeros _ rfl (.tmp 49) rfl z rfl z0 z1 ?_; intro cz w5 hcz hown5 hgrow5; refine Hid.out ?_)
          refine Lib.hid ?_
          have HF0 : Hid (FinR w3 cs 0 (.slice (some ⟨w3.heap.size, 0, none⟩) 0 cz) w5) := ⟨hown5, (Turned.refl [] w3).grown hgrow5 (fun x hx => by cases hx)⟩
          have b9 : (0 : Int) ≤ (cz : Int) := by omega
          clear hown5 hgrow5 hcz
          obtain ⟨go, hgo⟩ : ∃ go, go = gk := ⟨_, rfl⟩
          clear hgo
          go_wp2_with fail
          go_loopg [10, 54] cs.length (fun g v i wr => ∃ m : Nat, i = .int .i64 (m : Int) ∧ m ≤ cs.length ∧ FinR w3 cs m v wr ∧ cs.length - m ≤ g)
          case atStart => exact ⟨0, rfl, Nat.zero_le _, HF0.out, Nat.le_refl _⟩
          case round =>
            obtain ⟨m, rfl, hm, hf, hg⟩ := hrel
            by_cases hlt : m < cs.length
            · have d0 : (m : Int) < (cs.length : Int) := by omega
              have d1 : (0 : Int) ≤ (m : Int) := by omega
              obtain ⟨c, hc⟩ : ∃ c, cs[m]? = some c := ⟨_, List.getElem?_eq_getElem hlt⟩
              have hco := HCO.out
              have cc : wr.cell? ⟨g6, m, none⟩ = some (.slice (some ⟨c.1, 0, none⟩) c.2.1.length c.2.2) := by
                have h1 := (own_keepS hco hf.2 (by simp)).cells (g := g6) rfl m (ckVal c) (by rw [List.getElem?_map, hc]; rfl)
                unfold Addr.add at h1
                split at h1
                · subst_vars; simpa using h1
                · simpa using h1
              have hck := own_keepS (HCH.out c (List.mem_of_getElem? hc)).1 hf.2 (by simp)
              have htk := ckAll_take hc
              have htl := ckAll_take_le cs (m + 1)
              rw [htk, List.length_append] at htl
              have hz2 := HZ.out.2.1
              have hz3 := HZ.out.1
              have L1 : Hid ((by8 c.2.1).length = c.2.1.length * 1) := by show _ = _; rw [by8_length, Nat.mul_one]
              have L2 : Hid ((ckAll (cs.take m)).length + c.2.1.length ≤ maxLen) := by show _ ≤ _; unfold maxLen; omega
              have L3 : Hid (((ckAll (cs.take m)).length + c.2.1.length) * 1 ≤ 140737488355328) := by show _ ≤ _; omega
              have HS5 : Hid (w3.heap.size ≤ wr.heap.size) := hf.2.size
              have HO5 := Lib.hid hf.1
              have HC5 := Lib.hid (own_cells8 hck)
              have H15 := Lib.hid (by8_one c.2.1)
              have HF5 : Hid (∀ v' w6, w6.ownsRow w3.heap.size 5 1 v' ((ckAll (cs.take m)).length + c.2.1.length) (by8 (ckAll (cs.take m)) ++ by8 c.2.1) → wr.grownBy w6 u10.ownBlock → FinR w3 cs (m + 1) v' w6) := by
                intro v' w6 q1 q2
                refine ⟨?_, hf.2.grown q2 (fun x hx => .inr (hf.1.lt x hx).1)⟩
                rw [htk, List.length_append]
                unfold by8 at q1 ⊢
                rwa [List.map_append]
              have e7 : IntKind.i64.wrap ((m : Int) + 1) = (m : Int) + 1 := IntWalk.i64_in _ (by have := HZ.out.2.2; omega)
              have HJ : Hid (cs.length - (m + 1) ≤ gk - 1 ∧ 1 ≤ gk) := ⟨by omega, by omega⟩
              clear hf hck htk htl hz2 hz3 hco hg hc
              go_wp2_with (at_builtin; refine wpList_append_own_at _ rfl (.tmp 58) (.tmp 59) 22 rfl w3.heap.size 5 i0 (.int .u8 0) 1 1 Tryd.underlying22 hi hz0 hz1 hz2 rfl (by decide) _ _ _ rfl HO5.out ⟨c.1, 0, none⟩ c.2.1.length c.2.2 (by8 c.2.1) rfl L1.out HC5.out H15.out L2.out L3.out HS5.out ?_; intro v' w6 hown6 hgrow6 hnil6 hat6; refine Hid.out ?_)
              refine Lib.hid ?_
              have HG6 := Lib.hid (HF5.out v' w6 hown6 hgrow6)
              clear hown6 hgrow6 hnil6 hat6 HF5
              go_wp2_with fail
              go_roundg (gk - 1)
              case rel => exact ⟨m + 1, by go_num, hlt, HG6.out, HJ.out.1⟩
              case measure => have := HJ.out.2; omega
            · obtain rfl : m = cs.length := by omega
              have d0 : ¬ (cs.length : Int) < (cs.length : Int) := by omega
              have htk : cs.take cs.length = cs := List.take_length
              unfold FinR at hf
              rw [htk] at hf
              have hbo := own_keepS HBO.out hf.2 (by simp)
              have hz2 := HZ.out.2.1
              have hz3 := HZ.out.1
              have hl2 : (lb ++ out).length = lb.length + out.length := List.length_append
              rw [hl2] at hbo
              have L1 : Hid ((by8 (lb ++ out)).length = (lb.length + out.length) * 1) := by show _ = _; rw [by8_length, hl2, Nat.mul_one]
              have L2 : Hid ((ckAll cs).length + (lb.length + out.length) ≤ maxLen) := by show _ ≤ _; unfold maxLen; omega
              have L3 : Hid (((ckAll cs).length + (lb.length + out.length)) * 1 ≤ 140737488355328) := by show _ ≤ _; omega
              have HS5 : Hid (w3.heap.size ≤ wr.heap.size) := hf.2.size
              have HO5 := Lib.hid hf.1
              have HC5 : Hid (∀ j u, (by8 (lb ++ out))[j]? = some u → wr.cell? ((⟨gb, 0, none⟩ : Addr).add j) = some u) := fun j u hj => hbo.cells (g := gb) rfl j u hj
              have H15 := Lib.hid (by8_one (lb ++ out))
              have HF5 : Hid (∀ v' w6, w6.ownsRow w3.heap.size 5 1 v' ((ckAll cs).length + (lb.length + out.length)) (by8 (ckAll cs) ++ by8 (lb ++ out)) → wr.grownBy w6 u10.ownBlock → AllPost k s w T D st ue (.returned (.tuple #[v', .nilIface])) w6) := by
                intro v' w6 q1 q2
                refine HP.out v' w6 ?_ (hf.2.grown q2 (fun x hx => .inr (hf.1.lt x hx).1))
                refine own_base ?_ HB3.out
                rw [List.length_append, hl2]
                unfold by8 at q1 ⊢
                rwa [List.map_append]
              clear hf hbo hz2 hz3 hl2 htk hg hm HP
              go_wp2_with (at_builtin; refine wpList_append_own_at _ rfl (.tmp 62) (.tmp 63) 22 rfl w3.heap.size 5 i0 (.int .u8 0) 1 1 Tryd.underlying22 hi hz0 hz1 hz2 rfl (by decide) _ _ _ rfl HO5.out ⟨gb, 0, none⟩ (lb.length + out.length) cb (by8 (lb ++ out)) rfl L1.out HC5.out H15.out L2.out L3.out HS5.out ?_; intro v' w6 hown6 hgrow6 hnil6 hat6; refine Hid.out ?_)
              refine Lib.hid ?_
              have HG6 := Lib.hid (HF5.out v' w6 hown6 hgrow6)
              clear hown6 hgrow6 hnil6 hat6 HF5
              go_wp2_with fail
              go_ret2
              exact HG6.out
      · have hfin : (dec (k.d.drop s2.pos) st2).1 = [] ∧ (dec (k.d.drop s2.pos) st2).2 = none := by
          rw [g1, List.drop_length, dec_nil, if_neg g2]; exact ⟨rfl, rfl⟩
        have hT := h3.tu
        have hE3 := HE.out _ hT
        have cE := hE3.eof.cell
        have q2 := err_other hE3.cut hE3.eof (fun e => hE3.ne e.symm)
        obtain ⟨p6, c6, rfl, hp6, hc6⟩ := own_form h3.co
        have htx : (dec (k.d.drop s.pos) st).1 = ckAll cs ++ (lb ++ out) := by
          have h1 := congrArg Prod.fst h3.eq
          rw [hfin.1, List.append_nil] at h1
          exact h1
        have hfs : (dec (k.d.drop s.pos) st).2 = none := by
          have h1 := congrArg Prod.snd h3.eq
          rw [h1]; exact hfin.2
        have HP : Hid (∀ v w5, w5.ownsRow w.heap.size 5 1 v (ckAll cs ++ (lb ++ out)).length (by8 (ckAll cs ++ (lb ++ out))) → Turned [] w3 w5 → AllPost k s w T D st ue (.returned (.tuple #[v, (errAt ue)])) w5) := by
          intro v w5 hO hT5
          refine ⟨v, _, s2, rfl, h3.rd.keepNew hT5, hT.trans (hT5.mono (by simp)), (h3.dt.keep hT5 (by simp) (by simp)).tp, by rw [htx]; exact hO, .inr ⟨rfl, hfs⟩⟩
        have e1 : IntKind.i64.wrap ((lb.length : Int) + (out.length : Int)) = (lb.length : Int) + (out.length : Int) := IntWalk.i64_in _ (by omega)
        have e2 : ((lb.length : Int) + (out.length : Int)).toNat = lb.length + out.length := by omega
        have e4 : IntKind.i64.wrap (((ckAll cs).length : Int) + ((lb.length : Int) + (out.length : Int))) = ((ckAll cs).length : Int) + ((lb.length : Int) + (out.length : Int)) := IntWalk.i64_in _ (by omega)
        have b4 : (0 : Int) ≤ (lb.length : Int) + (out.length : Int) := by omega
        have b5 : (lb.length : Int) + (out.length : Int) ≤ (cb : Int) := by omega
        have HB3 : Hid (w.heap.size ≤ w3.heap.size) := hT.size
        have HBO := Lib.hid h3.bo
        have HCO := Lib.hid h3.co
        have HCH := Lib.hid h3.ch
        by_cases hcs : cs.length = 0
        · have hnil : cs = [] := List.eq_nil_of_length_eq_zero hcs
          subst hnil
          have HF := Lib.hid (HP.out _ w3 h3.bo (Turned.refl _ _))
          rw [List.length_append] at HF
          clear h3 hdr RD HN hfin hT hE3 htx hfs HP HBO HCO HCH g1 g2 hdeq hlo hlo2 hp6 hc6 hall hcl2 hle hdm
          go_wp2_with fail
          go_ret2
          exact HF.out
        · have t0 : ((cs.length : Int) == 0) = false := beq_eq_false_iff_ne.2 (by omega)
          obtain ⟨g6, rfl⟩ := hp6 (by omega)
          obtain ⟨z, hz⟩ : ∃ z : Nat, z = (ckAll cs).length + (lb.length + out.length) := ⟨_, rfl⟩
          have e6 : ((ckAll cs).length : Int) + ((lb.length : Int) + (out.length : Int)) = (z : Int) := by omega
          have z0 : 0 < z := by omega
          have z1 : z ≤ 1099511627776 := by omega
          have HZ : Hid (z ≤ 1048577 ∧ z = (ckAll cs).length + (lb.length + out.length) ∧ cs.length ≤ 1048577) := ⟨by omega, hz, by omega⟩
          have b8 : (0 : Int) ≤ (z : Int) := by omega
          clear h3 hdr RD HN hfin hT hE3 htx hfs g1 g2 hdeq hlo hlo2 hc6 hall hcl2 hle hdm hz
          go_wp2_with (at_builtin; refine wpList_zeros _ rfl (.tmp 49) rfl z rfl z0 z1 ?_; intro cz w5 hcz hown5 hgrow5; refine Hid.out ?_)
          refine Lib.hid ?_
          have HF0 : Hid (FinR w3 cs 0 (.slice (some ⟨w3.heap.size, 0, none⟩) 0 cz) w5) := ⟨hown5, (Turned.refl [] w3).grown hgrow5 (fun x hx => by cases hx)⟩
          have b9 : (0 : Int) ≤ (cz : Int) := by omega
          clear hown5 hgrow5 hcz
          obtain ⟨go, hgo⟩ : ∃ go, go = gk := ⟨_, rfl⟩
          clear hgo
          go_wp2_with fail
          go_loopg [10, 54] cs.length (fun g v i wr => ∃ m : Nat, i = .int .i64 (m : Int) ∧ m ≤ cs.length ∧ FinR w3 cs m v wr ∧ cs.length - m ≤ g)
          case atStart => exact ⟨0, rfl, Nat.zero_le _, HF0.out, Nat.le_refl _⟩
          case round =>
            obtain ⟨m, rfl, hm, hf, hg⟩ := hrel
            by_cases hlt : m < cs.length
            · have d0 : (m : Int) < (cs.length : Int) := by omega
              have d1 : (0 : Int) ≤ (m : Int) := by omega
              obtain ⟨c, hc⟩ : ∃ c, cs[m]? = some c := ⟨_, List.getElem?_eq_getElem hlt⟩
              have hco := HCO.out
              have cc : wr.cell? ⟨g6, m, none⟩ = some (.slice (some ⟨c.1, 0, none⟩) c.2.1.length c.2.2) := by
                have h1 := (own_keepS hco hf.2 (by simp)).cells (g := g6) rfl m (ckVal c) (by rw [List.getElem?_map, hc]; rfl)
                unfold Addr.add at h1
                split at h1
                · subst_vars; simpa using h1
                · simpa using h1
              have hck := own_keepS (HCH.out c (List.mem_of_getElem? hc)).1 hf.2 (by simp)
              have htk := ckAll_take hc
              have htl := ckAll_take_le cs (m + 1)
              rw [htk, List.length_append] at htl
              have hz2 := HZ.out.2.1
              have hz3 := HZ.out.1
              have L1 : Hid ((by8 c.2.1).length = c.2.1.length * 1) := by show _ = _; rw [by8_length, Nat.mul_one]
              have L2 : Hid ((ckAll (cs.take m)).length + c.2.1.length ≤ maxLen) := by show _ ≤ _; unfold maxLen; omega
              have L3 : Hid (((ckAll (cs.take m)).length + c.2.1.length) * 1 ≤ 140737488355328) := by show _ ≤ _; omega
              have HS5 : Hid (w3.heap.size ≤ wr.heap.size) := hf.2.size
              have HO5 := Lib.hid hf.1
              have HC5 := Lib.hid (own_cells8 hck)
              have H15 := Lib.hid (by8_one c.2.1)
              have HF5 : Hid (∀ v' w6, w6.ownsRow w3.heap.size 5 1 v' ((ckAll (cs.take m)).length + c.2.1.length) (by8 (ckAll (cs.take m)) ++ by8 c.2.1) → wr.grownBy w6 u10.ownBlock → FinR w3 cs (m + 1) v' w6) := by
                intro v' w6 q1 q2
                refine ⟨?_, hf.2.grown q2 (fun x hx => .inr (hf.1.lt x hx).1)⟩
                rw [htk, List.length_append]
                unfold by8 at q1 ⊢
                rwa [List.map_append]
              have e7 : IntKind.i64.wrap ((m : Int) + 1) = (m : Int) + 1 := IntWalk.i64_in _ (by have := HZ.out.2.2; omega)
              have HJ : Hid (cs.length - (m + 1) ≤ gk - 1 ∧ 1 ≤ gk) := ⟨by omega, by omega⟩
              clear hf hck htk htl hz2 hz3 hco hg hc
              go_wp2_with (at_builtin; refine wpList_append_own_at _ rfl (.tmp 58) (.tmp 59) 22 rfl w3.heap.size 5 i0 (.int .u8 0) 1 1 Tryd.underlying22 hi hz0 hz1 hz2 rfl (by decide) _ _ _ rfl HO5.out ⟨c.1, 0, none⟩ c.2.1.length c.2.2 (by8 c.2.1) rfl L1.out HC5.out H15.out L2.out L3.out HS5.out ?_; intro v' w6 hown6 hgrow6 hnil6 hat6; refine Hid.out ?_)
              refine Lib.hid ?_
              have HG6 := Lib.hid (HF5.out v' w6 hown6 hgrow6)
              clear hown6 hgrow6 hnil6 hat6 HF5
              go_wp2_with fail
              go_roundg (gk - 1)
              case rel => exact ⟨m + 1, by go_num, hlt, HG6.out, HJ.out.1⟩
              case measure => have := HJ.out.2; omega
            · obtain rfl : m = cs.length := by omega
              have d0 : ¬ (cs.length : Int) < (cs.length : Int) := by omega
              have htk : cs.take cs.length = cs := List.take_length
              unfold FinR at hf
              rw [htk] at hf
              have hbo := own_keepS HBO.out hf.2 (by simp)
              have hz2 := HZ.out.2.1
              have hz3 := HZ.out.1
              have hl2 : (lb ++ out).length = lb.length + out.length := List.length_append
              rw [hl2] at hbo
              have L1 : Hid ((by8 (lb ++ out)).length = (lb.length + out.length) * 1) := by show _ = _; rw [by8_length, hl2, Nat.mul_one]
              have L2 : Hid ((ckAll cs).length + (lb.length + out.length) ≤ maxLen) := by show _ ≤ _; unfold maxLen; omega
              have L3 : Hid (((ckAll cs).length + (lb.length + out.length)) * 1 ≤ 140737488355328) := by show _ ≤ _; omega
              have HS5 : Hid (w3.heap.size ≤ wr.heap.size) := hf.2.size
              have HO5 := Lib.hid hf.1
              have HC5 : Hid (∀ j u, (by8 (lb ++ out))[j]? = some u → wr.cell? ((⟨gb, 0, none⟩ : Addr).add j) = some u) := fun j u hj => hbo.cells (g := gb) rfl j u hj
              have H15 := Lib.hid (by8_one (lb ++ out))
              have HF5 : Hid (∀ v' w6, w6.ownsRow w3.heap.size 5 1 v' ((ckAll cs).length + (lb.length + out.length)) (by8 (ckAll cs) ++ by8 (lb ++ out)) → wr.grownBy w6 u10.ownBlock → AllPost k s w T D st ue (.returned (.tuple #[v', (errAt ue)])) w6) := by
                intro v' w6 q1 q2
                refine HP.out v' w6 ?_ (hf.2.grown q2 (fun x hx => .inr (hf.1.lt x hx).1))
                refine own_base ?_ HB3.out
                rw [List.length_append, hl2]
                unfold by8 at q1 ⊢
                rwa [List.map_append]
              clear hf hbo hz2 hz3 hl2 htk hg hm HP
              go_wp2_with (at_builtin; refine wpList_append_own_at _ rfl (.tmp 62) (.tmp 63) 22 rfl w3.heap.size 5 i0 (.int .u8 0) 1 1 Tryd.underlying22 hi hz0 hz1 hz2 rfl (by decide) _ _ _ rfl HO5.out ⟨gb, 0, none⟩ (lb.length + out.length) cb (by8 (lb ++ out)) rfl L1.out HC5.out H15.out L2.out L3.out HS5.out ?_; intro v' w6 hown6 hgrow6 hnil6 hat6; refine Hid.out ?_)
              refine Lib.hid ?_
              have HG6 := Lib.hid (HF5.out v' w6 hown6 hgrow6)
              clear hown6 hgrow6 hnil6 hat6 HF5
              go_wp2_with fail
              go_ret2
              exact HG6.out
end Go.Proofs.YthobojpbdeepoaaDoor
