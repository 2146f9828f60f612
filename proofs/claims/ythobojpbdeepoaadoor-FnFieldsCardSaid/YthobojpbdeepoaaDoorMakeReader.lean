/-
  The contract of impl's reader: a reader made over a copy of the data.
-/
import Derived.Test.YthobojpbdeepoaaDoorTpLine
namespace Go.Proofs.YthobojpbdeepoaaDoor
open Go.RowKit

/-- The bytes l lie in a slice that came in. -/
def DataAt (w : World) (p : Option Addr) (l : List UInt8) : Prop := l = [] ∨ ∃ b off, p = some ⟨b, off, none⟩ ∧ b < w.heap.size ∧ Row8 w b off l

def ClonePost (l : List UInt8) (w : World) (e : Ending) (w' : World) : Prop :=
  ∃ sa scap, e = .returned (.slice sa l.length scap) ∧ Turned [] w w' ∧ l.length ≤ scap ∧ (l = [] ∨ ∃ S so, sa = some ⟨S, so, none⟩ ∧ w.heap.size ≤ S ∧ S < w'.heap.size ∧ Row8 w' S so l)

theorem clone_post {l : List UInt8} {w w' : World} {v : Value} (hT : Turned [] w w') (h : w'.ownsRow w.heap.size 5 1 v l.length (by8 l)) : ClonePost l w (.returned v) w' := by
  rcases h.2 with ⟨rfl, h0⟩ | ⟨g, cap, cur, rfl, hb, hg, hc, _⟩
  · have h1 : l = [] := List.eq_nil_of_length_eq_zero h0
    subst h1
    exact ⟨none, 0, rfl, hT, Nat.le_refl _, .inl rfl⟩
  · refine ⟨some ⟨g, 0, none⟩, cap, rfl, hT, hc, .inr ⟨g, 0, rfl, hb, ?_, fun j u hj => ?_⟩⟩
    · rcases Nat.lt_or_ge g w'.heap.size with hlt | hge
      · exact hlt
      · rw [Array.getElem?_eq_none hge] at hg; cases hg
    · have h1 := h.cells (g := g) rfl j _ (by8_get hj)
      unfold Addr.add at h1
      split at h1
      · subst_vars; simpa using h1
      · simpa using h1

set_option maxRecDepth 100000 in
set_option maxHeartbeats 2000000 in
theorem clone_any (p : Option Addr) (l : List UInt8) (cap : Nat) (w : World) (h : DataAt w p l) (hl : l.length ≤ 4294967296) :
    Calls Tryd.prog 56 #[.slice p l.length cap] w (ClonePost l w) := by
  have Q1 := fun (W : World) a n c => Lib.run_eql_slice_nil (P := Tryd.prog) W 22 5 a n c 0 0 Tryd.underlying22
  cases p with
  | none =>
    obtain rfl : l = [] := by
      rcases h with h | ⟨b, off, h, _⟩
      · exact h
      · cases h
    have HF := Lib.hid (clone_post (l := []) (v := .slice none 0 0) (Turned.refl [] w) ⟨rfl, .inl ⟨rfl, rfl⟩⟩)
    go_enter Tryd.func56, Tryd.ntmps56
    go_wp2_with fail
    go_ret
    exact HF.out
  | some x =>
    have hnews : ∀ j u, (by8 l)[j]? = some u → (w.alloc (.cells #[] 5)).cell? (x.add j) = some u := by
      intro j u hj
      unfold by8 at hj
      rw [List.getElem?_map] at hj
      obtain ⟨y, hy, rfl⟩ := Option.map_eq_some_iff.1 hj
      rcases h with rfl | ⟨b, off, h, hb, hr⟩
      · simp at hy
      · injection h with h
        subst h
        have hr2 : Row8 (w.alloc (.cells #[] 5)) b off l := hr.of_block (Below.heap_alloc _ _ _ hb)
        have h3 := hr2 j y hy
        unfold Addr.add
        split
        · subst_vars; simpa using h3
        · exact h3
    obtain ⟨i0, hi, hz0, hz1, hz2⟩ := info_parts u8_info
    have L1 : Hid ((by8 l).length = l.length * 1) := by show _ = _; rw [by8_length, Nat.mul_one]
    have L2 : Hid (0 + l.length ≤ maxLen) := by show _ ≤ _; unfold maxLen; omega
    have L3 : Hid ((0 + l.length) * 1 ≤ 140737488355328) := by show _ ≤ _; omega
    have HS : Hid (w.heap.size ≤ (w.alloc (.cells #[] 5)).heap.size) := by show _ ≤ _; simp
    have HN := Lib.hid hnews
    have H1 := Lib.hid (by8_one l)
    have HO : Hid ((w.alloc (.cells #[] 5)).ownsRow w.heap.size 5 1 (.slice (some ⟨w.heap.size, 0, none⟩) 0 0) 0 []) := ⟨rfl, .inr ⟨w.heap.size, 0, #[], rfl, Nat.le_refl _, heap_alloc_new w _, Nat.le_refl _, Nat.zero_le _, rfl, rfl⟩⟩
    clear hnews h
    go_enter Tryd.func56, Tryd.ntmps56
    go_wp2_with (at_builtin; refine wpList_append_own_at _ rfl (.tmp 5) (.tmp 6) 22 rfl w.heap.size 5 i0 (.int .u8 0) 1 1 Tryd.underlying22 hi hz0 hz1 hz2 rfl (by decide) _ 0 [] rfl HO.out x l.length cap (by8 l) rfl L1.out HN.out H1.out L2.out L3.out HS.out ?_; intro v' w2 hown hgrow hnil hat)
    go_ret
    rw [Nat.zero_add, List.nil_append] at hown
    exact clone_post ((((Turned.refl [] w).alloc _).grown hgrow (fun x hx => .inr (by
      have hx : some w.heap.size = some x := hx
      injection hx with hx
      omega)))) hown

theorem not_bufReader (a : Addr) (w : World) : (Instr.typeAssert (.iface 121 (.pointer (some a))) 97 119 true).run Tryd.prog w = .ok (.tuple #[.pointer none, .bool false]) w := by kernel_rfl

/-- What bufio's NewReader leaves. -/
def BufPost (Y : Nat) (w : World) (e : Ending) (w' : World) : Prop :=
  ∃ cur : List Value, e = .returned (.pointer (some ⟨w.heap.size, 0, none⟩)) ∧ Turned [] w w' ∧ cur.length = 4096 ∧ Blk w' (w.heap.size + 1) 5 cur.toArray ∧
    Blk w' w.heap.size 163 #[.slice (some ⟨w.heap.size + 1, 0, none⟩) 4096 4096, .iface 121 (.pointer (some ⟨Y, 0, none⟩)), .int .i64 0, .int .i64 0, .nilIface, .int .i64 (-1), .int .i64 (-1)]

/-- The zero cells of a bufio.Reader. -/
abbrev zeroB : Array Value := #[.slice none 0 0, .nilIface, .int .i64 0, .int .i64 0, .nilIface, .int .i64 0, .int .i64 0]

theorem made_post (Y : Nat) {w w2 : World} {xs : List Value} (hown : w2.ownsRow 0 5 1 (.slice (some ⟨w.heap.size + 1, 0, none⟩) 4096 4096) 4096 xs) (hgrow : (w.alloc (.cells zeroB 163)).grownBy w2 none) :
    Blk w2 w.heap.size 163 zeroB ∧ Hid (BufPost Y w (.returned (.pointer (some ⟨w.heap.size, 0, none⟩)))
      (((((((w2.setCell ⟨w.heap.size, 0, none⟩ (.slice (some ⟨w.heap.size + 1, 0, none⟩) 4096 4096)).setCell ⟨w.heap.size, 1, none⟩ (.iface 121 (.pointer (some ⟨Y, 0, none⟩)))).setCell ⟨w.heap.size, 2, none⟩ (.int .i64 0)).setCell
        ⟨w.heap.size, 3, none⟩ (.int .i64 0)).setCell ⟨w.heap.size, 4, none⟩ .nilIface).setCell ⟨w.heap.size, 5, none⟩ (.int .i64 (-1))).setCell ⟨w.heap.size, 6, none⟩ (.int .i64 (-1)))) := by
  have hB : Blk w2 w.heap.size 163 zeroB := (hgrow.block _ (by simp) (by simp)).trans (Blk.new w _ _)
  refine ⟨hB, ?_⟩
  rcases hown.2 with ⟨h0, _⟩ | ⟨g, cap, cur, hv, _, hg, _, _, hsz, _⟩
  · cases h0
  · injection hv with h1 h2 h3
    injection h1 with h1
    injection h1 with h1
    subst h1 h3
    have hC : Blk w2 (w.heap.size + 1) 5 cur.toList.toArray := by unfold Blk; simpa using hg
    have hn : ¬ w.heap.size + 1 = w.heap.size := by omega
    have hT : Turned [] w w2 := ((Turned.refl [] w).alloc _).grown hgrow (fun x hx => by cases hx)
    refine ⟨cur.toList, rfl, ?_, ?_, ?_, ?_⟩
    · exact ((((((hT.setCell (.inr (Nat.le_refl _)) _).setCell (.inr (Nat.le_refl _)) _).setCell (.inr (Nat.le_refl _)) _).setCell (.inr (Nat.le_refl _)) _).setCell (.inr (Nat.le_refl _)) _).setCell (.inr (Nat.le_refl _)) _).setCell (.inr (Nat.le_refl _)) _
    · rw [Array.length_toList, hsz]
    · exact ((((((hC.far hn _).far hn _).far hn _).far hn _).far hn _).far hn _).far hn _
    · have h3 := ((((((hB.set_ 0 (.slice (some ⟨w.heap.size + 1, 0, none⟩) 4096 4096)).set_ 1 (.iface 121 (.pointer (some ⟨Y, 0, none⟩)))).set_ 2 (.int .i64 0)).set_ 3 (.int .i64 0)).set_ 4 .nilIface).set_ 5 (.int .i64 (-1))).set_ 6 (.int .i64 (-1))
      simpa using h3

set_option maxRecDepth 100000 in
set_option maxHeartbeats 2000000 in
theorem bufNew_any (Y : Nat) (w : World) :
    Calls Tryd.prog 71 #[.iface 121 (.pointer (some ⟨Y, 0, none⟩))] w (BufPost Y w) := by
  obtain ⟨i0, hi, hz0, hz1, hz2⟩ := info_parts u8_info
  have hn := not_bufReader ⟨Y, 0, none⟩
  go_enter Tryd.func71, Tryd.ntmps71
  go_wp2_with (first | (at_make; refine wpList_make_full _ rfl (.tmp 27) (.tmp 27) 22 rfl 0 5 i0 (.int .u8 0) 1 Tryd.underlying22 hi hz0 hz1 .i64 .i64 4096 4096 4096 rfl rfl rfl rfl (by rw [hz2]; decide) (by decide) (Nat.zero_le _) ?_; intro w2 hown hgrow; obtain ⟨hB, HF⟩ := made_post Y (by simpa using hown) hgrow; obtain ⟨c0, c1, c2, c3, c4, c5, c6⟩ : w2.cell? ⟨w.heap.size, 0, none⟩ = some (.slice none 0 0) ∧ w2.cell? ⟨w.heap.size, 1, none⟩ = some .nilIface ∧ w2.cell? ⟨w.heap.size, 2, none⟩ = some (.int .i64 0) ∧ w2.cell? ⟨w.heap.size, 3, none⟩ = some (.int .i64 0) ∧ w2.cell? ⟨w.heap.size, 4, none⟩ = some .nilIface ∧ w2.cell? ⟨w.heap.size, 5, none⟩ = some (.int .i64 0) ∧ w2.cell? ⟨w.heap.size, 6, none⟩ = some (.int .i64 0) := (by refine ⟨?_, ?_, ?_, ?_, ?_, ?_, ?_⟩ <;> (rw [hB.cell]; rfl)); have f0 := hB.frozen 0; have f1 := hB.frozen 1; have f2 := hB.frozen 2; have f3 := hB.frozen 3; have f4 := hB.frozen 4; have f5 := hB.frozen 5; have f6 := hB.frozen 6; clear hown hgrow) | go_in)
  (try simp only [Exit.inBlock, Exit.then])
  first | refine bodyPost_ret (results_none rfl _ _ _) rfl ?_ | refine bodyPost_end (results_none rfl _ _ _) rfl ?_
  simp only []
  go_wp2_with go_in
  go_ret
  exact HF.out

/-- What is known of the two sentinels. -/
structure Ends (w : World) (K : Nat) (ae fe : Addr) : Prop where
  eof : Sent w K 0 ae
  full : Sent w K 6 fe
  ne : ae ≠ fe

/-- What impl's reader leaves. -/
def ReaderPost (l : List UInt8) (ae : Addr) (w : World) (e : Ending) (w' : World) : Prop :=
  ∃ k s T, e = .returned (.pointer (some ⟨T, 0, none⟩)) ∧ Turned [] w w' ∧ k.d = l ∧ k.K = w.heap.size ∧ k.ae = ae ∧ Rd w' k s ∧ Tp w' k T ∧ s.pos = 0 ∧ s.i = 0 ∧ s.er = .nilIface ∧ Blk w' T 129 #[.pointer (some ⟨k.B, 0, none⟩), .pointer none, .slice none 0 0]

theorem reader_post {e : Ending} {l : List UInt8} {ae : Addr} {w w1 w2 : World} (hE : Sent w w.heap.size 0 ae) (hl : l.length ≤ 4294967296) {sa : Option Addr} {scap : Nat} (hT : Turned [] w w1) (hc : l.length ≤ scap)
    (hor : l = [] ∨ ∃ S so, sa = some ⟨S, so, none⟩ ∧ w.heap.size ≤ S ∧ S < w1.heap.size ∧ Row8 w1 S so l)
    (hB : BufPost w1.heap.size (w1.alloc (.cells #[.slice sa l.length scap, .int .i64 0, .int .i64 (-1)] 161)) e w2) :
    ReaderPost l ae w (.returned (.pointer (some ⟨w2.heap.size, 0, none⟩))) (w2.alloc (.cells #[.pointer (some ⟨w1.heap.size + 1, 0, none⟩), .pointer none, .slice none 0 0] 129)) := by
  obtain ⟨cur, _, hT2, hcl, hC, hBB⟩ := hB
  have hY := hT2.blk (Blk.new w1 161 #[.slice sa l.length scap, .int .i64 0, .int .i64 (-1)]) (by simp)
  have hsz : (w1.alloc (.cells #[.slice sa l.length scap, .int .i64 0, .int .i64 (-1)] 161)).heap.size = w1.heap.size + 1 := by simp
  rw [hsz] at hC hBB
  have hT3 : Turned [] w w2 := (hT.alloc _).trans hT2
  have hs1 := hT.size
  have hs2 := hT2.size
  have hs3 := hC.lt
  rw [hsz] at hs2
  refine ⟨{ K := w.heap.size, B := w1.heap.size + 1, C := w1.heap.size + 1 + 1, Y := w1.heap.size, sa := sa, scap := scap, ae := ae, d := l }, { i := 0, r := 0, wp := 0, er := .nilIface, lb := -1, lr := -1, pr := -1, cur := cur }, w2.heap.size, rfl, hT3.alloc _, rfl, rfl, rfl, ?_, ⟨?_, ?_, _, Blk.new w2 _ _⟩, rfl, rfl, rfl, Blk.new w2 _ _⟩
  · refine ⟨hBB.alloc _, hC.alloc _, hY.alloc _, ?_, by show w.heap.size ≤ w1.heap.size + 1; omega, by show w.heap.size ≤ w1.heap.size + 1 + 1; omega, hs1, hl, hc, hcl, Nat.le_refl _, Nat.zero_le _, Nat.zero_le _, Nat.zero_le _, fun j u hj => absurd hj (Nat.not_lt_zero j), .inl rfl, ?_⟩
    · rcases hor with h | ⟨S, so, h1, h2, h3, h4⟩
      · exact .inl h
      · refine .inr ⟨S, so, h1, by show S ≠ w1.heap.size + 1; omega, by show S ≠ w1.heap.size + 1 + 1; omega, by show S ≠ w1.heap.size; omega, by show S < (w2.alloc _).heap.size; simp; omega, ?_⟩
        have g1 : Row8 (w1.alloc (.cells #[.slice sa l.length scap, .int .i64 0, .int .i64 (-1)] 161)) S so l := h4.of_block (Below.heap_alloc _ _ _ h3)
        have g2 : Row8 w2 S so l := g1.of_block (hT2.block S (by rw [hsz]; omega) (by simp))
        exact g2.of_block (Below.heap_alloc _ _ _ (by omega))
    · exact hE.keep ((hT3.alloc _).below (Nat.le_refl _) (by simp))
  · show w.heap.size ≤ w2.heap.size
    omega
  · rcases hor with h | ⟨S, so, h1, h2, h3, h4⟩
    · exact .inl h
    · refine .inr fun so' e' => ?_
      have e' : sa = some ⟨w2.heap.size, so', none⟩ := e'
      rw [h1] at e'
      injection e' with e'
      injection e' with e'
      omega

set_option maxRecDepth 100000 in
set_option maxHeartbeats 2000000 in
theorem mkReader_any (p : Option Addr) (l : List UInt8) (cap : Nat) (ae : Addr) (w : World) (h : DataAt w p l) (hl : l.length ≤ 4294967296) (hE : Sent w w.heap.size 0 ae) :
    Calls Tryd.prog 47 #[.slice p l.length cap] w (ReaderPost l ae w) := by
  have CL := clone_any p l cap w h hl
  go_enter Tryd.func47, Tryd.ntmps47
  go_wp2_with fail
  go_at_call 56
  refine CL.mono ?_
  rintro e w1 ⟨sa, scap, rfl, hT, hc, hor⟩
  have BN := bufNew_any w1.heap.size (w1.alloc (.cells #[.slice sa l.length scap, .int .i64 0, .int .i64 (-1)] 161))
  have HP := Lib.hid (fun e w2 => reader_post (e := e) (w2 := w2) hE hl hT hc hor)
  clear CL h hl hE hT hc hor
  go_wp2_with (first | (go_at_call 71; refine BN.mono ?_; rintro e w2 hB; have HF := Lib.hid (HP.out _ _ hB); obtain ⟨cur, rfl, hB⟩ := hB; clear hB) | go_in)
  go_ret
  exact HF.out
end Go.Proofs.YthobojpbdeepoaaDoor
