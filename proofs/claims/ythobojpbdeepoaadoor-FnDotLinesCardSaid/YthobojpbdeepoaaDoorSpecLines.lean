/-
  The contracts of spec.Lines and spec.Dotted.
-/
import Derived.Test.YthobojpbdeepoaaDoorSpecDots
import Derived.Test.YthobojpbdeepoaaDoorReadAll
namespace Go.Proofs.YthobojpbdeepoaaDoor
open Go.RowKit

theorem str_info : (Tryd.prog.info? 9).map (fun i => (i.zero, i.size, i.bytes)) = some (some (.string ⟨#[]⟩), 1, 16) := by kernel_rfl
/-- A line as a string. -/
def sv (l : List UInt8) : Value := .string ⟨l.toArray⟩
/-- The last piece of a text, if there is one. -/
def tl (l : List UInt8) : List (List UInt8) := if l = [] then [] else [l]
theorem lfs_len (ls : List (List UInt8)) : ls.length ≤ (lfs ls).length := by
  induction ls with
  | nil => exact Nat.le_refl _
  | cons l ls ih =>
    show ls.length + 1 ≤ (l ++ 10 :: lfs ls).length
    rw [List.length_append, List.length_cons]; omega
theorem trimCR_clean {l : List UInt8} (h : ∀ c, c ∈ l → c ≠ 13) : trimCR l = l := by
  unfold trimCR
  split
  · rename_i h1
    exact absurd rfl (h 13 (List.mem_of_getElem? h1))
  · rfl
theorem nonl_clean {l : List UInt8} {j : Nat} (h : NoNl l 0 j) (h13 : ∀ c, c ∈ l → c ≠ 13) : Clean (l.take j) := by
  intro c hc
  refine ⟨h13 c (List.mem_of_mem_take hc), ?_⟩
  rintro rfl
  obtain ⟨i, hi, he⟩ := List.mem_iff_getElem.1 hc
  have h1 : i < j := by rw [List.length_take] at hi; omega
  have h2 := h i h1
  rw [Nat.zero_add] at h2
  rw [List.getElem_take] at he
  exact h2 (by rw [List.getElem?_eq_getElem (by rw [List.length_take] at hi; omega), he])

/-- The lines of s: the whole ones, and what is left. -/
structure Ln (s : List UInt8) (full : List (List UInt8)) (last : List UInt8) : Prop where
  eq : s = lfs full ++ last
  cl : ∀ l, l ∈ full → Clean l
  ll : Clean last
/-- What spec.Lines answers. -/
def LinesPost (s : List UInt8) (w : World) (e : Ending) (w' : World) : Prop :=
  ∃ v full last, e = .returned v ∧ Turned [] w w' ∧ Ln s full last ∧ w'.ownsRow w.heap.size 9 1 v (full ++ tl last).length ((full ++ tl last).map sv)

/-- What a round of spec.Lines keeps. -/
structure LnR (w : World) (s : List UInt8) (full : List (List UInt8)) (cur : List UInt8) (v : Value) (wr : World) : Prop where
  eq : s = lfs full ++ cur
  cl : ∀ l, l ∈ full → Clean l
  tu : Turned [] w wr
  own : wr.ownsRow w.heap.size 9 1 v full.length (full.map sv)
section
variable {w wr wa w2 : World} {s cur l : List UInt8} {full : List (List UInt8)} {v v' : Value}
theorem LnR.n13 (h : LnR w s full cur v wr) (h13 : ∀ c, c ∈ s → c ≠ 13) : ∀ c, c ∈ cur → c ≠ 13 := fun c hc => h13 c (by rw [h.eq]; exact List.mem_append_right _ hc)
/-- Behind an append. -/
theorem LnR.grow (h : LnR w s full cur v wr) (ha : Turned [] wr wa) (hown : w2.ownsRow w.heap.size 9 1 v' (full.length + 1) (full.map sv ++ [sv l])) (hgrow : wa.grownBy w2 v.ownBlock) :
    Turned [] w w2 ∧ w2.ownsRow w.heap.size 9 1 v' (full ++ [l]).length ((full ++ [l]).map sv) := by
  refine ⟨(h.tu.trans ha).grown hgrow (fun x hx => .inr (h.own.lt x hx).1), ?_⟩
  rw [List.length_append, List.length_singleton, List.map_append]
  exact hown
theorem LnR.line {j : Nat} (h : LnR w s full cur v wr) (h13 : ∀ c, c ∈ s → c ≠ 13) (hj : cur[j]? = some 10) (hno : NoNl cur 0 j) (ha : Turned [] wr wa)
    (hown : w2.ownsRow w.heap.size 9 1 v' (full.length + 1) (full.map sv ++ [sv (trimCR (cur.take j))])) (hgrow : wa.grownBy w2 v.ownBlock) :
    LnR w s (full ++ [cur.take j]) (cur.drop (j + 1)) v' w2 := by
  have hc := nonl_clean hno (h.n13 h13)
  rw [trimCR_clean (fun c hx => (hc c hx).1)] at hown
  obtain ⟨h1, h2⟩ := h.grow ha hown hgrow
  refine ⟨?_, ?_, h1, h2⟩
  · have h3 : cur = cur.take j ++ 10 :: cur.drop (j + 1) := by
      obtain ⟨hlt, he⟩ := List.getElem?_eq_some_iff.1 hj
      conv => lhs; rw [← List.take_append_drop j cur, List.drop_eq_getElem_cons hlt, he]
    rw [h.eq, lfs_append]
    conv => lhs; rw [h3]
    simp [lfs]
  · intro x hx
    rcases List.mem_append.1 hx with hx | hx
    · exact h.cl x hx
    · rw [List.mem_singleton.1 hx]; exact hc
theorem LnR.drewN (h : LnR w s full cur v wr) (q : Nat) : LnR w s full cur v (wr.drewN q) := ⟨h.eq, h.cl, h.tu.drewN q, own_keepS h.own ((Turned.refl [] wr).drewN q) (by simp)⟩
theorem LnR.fin (h : LnR w s full [] v wr) : LinesPost s w (.returned v) wr :=
  ⟨v, full, [], rfl, h.tu, ⟨h.eq, h.cl, fun c hc => by cases hc⟩, by simpa [tl] using h.own⟩
theorem LnR.last (h : LnR w s full cur v wr) (h13 : ∀ c, c ∈ s → c ≠ 13) (hno : NoNl cur 0 cur.length) (hne : cur ≠ []) (ha : Turned [] wr wa)
    (hown : w2.ownsRow w.heap.size 9 1 v' (full.length + 1) (full.map sv ++ [sv cur])) (hgrow : wa.grownBy w2 v.ownBlock) : LinesPost s w (.returned v') w2 := by
  obtain ⟨h1, h2⟩ := h.grow ha hown hgrow
  have hc := nonl_clean hno (h.n13 h13)
  rw [List.take_of_length_le (Nat.le_refl _)] at hc
  exact ⟨v', full, cur, rfl, h1, ⟨h.eq, h.cl, hc⟩, by simpa [tl, hne] using h2⟩
end

set_option maxRecDepth 100000 in
set_option maxHeartbeats 4000000 in
theorem lines_any (s : ByteArray) (w : World) (hs : s.size ≤ 1048576) (h13 : ∀ c, c ∈ lst s → c ≠ 13) : Calls Tryd.prog 36 #[.string s] w (LinesPost (lst s) w) := by
  obtain ⟨i0, hi, hz0, hz1, hz2⟩ := info_parts str_info
  have H13 := Lib.hid h13
  have H0 : Hid (LnR w (lst s) [] (lst s) (.slice none 0 0) w) := ⟨rfl, (fun l hl => by cases hl), Turned.refl _ _, ⟨rfl, .inl ⟨rfl, rfl⟩⟩⟩
  have HSZ : Hid ((lst s).length ≤ 1048576) := by show _ ≤ _; rw [lst_length]; exact hs
  clear h13
  go_enter Tryd.func36, Tryd.ntmps36
  go_wp2_with fail
  go_loopg [0, 3] s.size (fun g t v wr => ∃ cur : ByteArray, ∃ full, t = .string cur ∧ LnR w (lst s) full (lst cur) v wr ∧ cur.size ≤ g)
  case atStart => exact ⟨s, [], rfl, H0.out, Nat.le_refl _⟩
  case round =>
    obtain ⟨cur, full, rfl, hr, hg⟩ := hrel
    have hcs : cur.size ≤ 1048576 := by
      have h1 := hr.eq
      have h2 := HSZ.out
      rw [h1, List.length_append, lst_length] at h2
      omega
    have hfl : full.length ≤ 1048576 := by
      have h1 := hr.eq
      have h2 := HSZ.out
      have h3 := lfs_len full
      rw [h1, List.length_append] at h2
      omega
    have SL := Lib.hid (specline_any cur wr (by omega))
    have HR := Lib.hid hr
    have HG := Lib.hid hg
    have L2 : Hid (full.length + 1 ≤ maxLen) := by show _ ≤ _; unfold maxLen; omega
    have L3 : Hid ((full.length + 1) * 16 ≤ 140737488355328) := by show _ ≤ _; omega
    clear hr hg hfl
    go_wp2_with fail
    go_at_call 62
    (with_reducible refine SL.out.mono ?_)
    rintro e w1 ⟨⟨q, rfl⟩, hor⟩
    have HCO : Hid (∀ x, ((wr.drewN q).alloc (.cells #[x] 9)).ownsRow w.heap.size 9 1 u3 full.length (full.map sv)) := fun x => own_keepS HR.out.own (((Turned.refl [] wr).drewN q).alloc _) (by simp)
    have HT : Hid (∀ x, Turned [] wr ((wr.drewN q).alloc (.cells #[x] 9))) := fun x => ((Turned.refl [] wr).drewN q).alloc _
    have HSz : Hid (∀ x, w.heap.size ≤ ((wr.drewN q).alloc (.cells #[x] 9)).heap.size) := fun x => by
      have := HR.out.tu.size; show _ ≤ _; simp; omega
    rcases hor with ⟨j, hj, hno, rfl⟩ | ⟨hno, rfl⟩
    · have hlt : j < cur.size := by
        obtain ⟨h1, _⟩ := List.getElem?_eq_some_iff.1 hj
        rw [lst_length] at h1; exact h1
      have HN := Lib.hid (fun wa w2 v' => HR.out.line (wa := wa) (w2 := w2) (v' := v') H13.out hj hno)
      have HM : Hid ((⟨((lst cur).drop (j + 1)).toArray⟩ : ByteArray).size ≤ gk - 1 ∧ 0 < gk) := by
        have h1 := HG.out
        have h2 : ((lst cur).drop (j + 1)).length = cur.size - (j + 1) := by rw [List.length_drop, lst_length]
        refine ⟨by rw [size_mk, h2]; omega, by omega⟩
      clear hj hno hlt
      go_wp2_with (at_builtin; refine wpList_append_own_at _ rfl (.tmp 22) (.tmp 24) 29 rfl w.heap.size 9 i0 (.string ⟨#[]⟩) 1 16 Tryd.underlying29 hi hz0 hz1 hz2 rfl (by decide) _ full.length (full.map sv) rfl (HCO.out _) ⟨wr.heap.size, 0, none⟩ 1 1 [sv (trimCR ((lst cur).take j))] rfl rfl (cell_one_new _ _ _) (by simp [Value.oneCell', sv]) L2.out L3.out (HSz.out _) ?_; intro v' w4 hown hgrow hnil hat; refine Hid.out ?_)
      refine Lib.hid ?_
      have HF := Lib.hid (HN.out _ _ _ (HT.out _) hown hgrow)
      clear hown hgrow hnil hat HN
      go_wp2_with fail
      go_roundg (gk - 1)
      case rel => exact ⟨_, _, rfl, HF.out, HM.out.1⟩
      case measure => have := HM.out; omega
    · by_cases h0 : lst cur = []
      · have t0 := str_is h0
        have HF : Hid (LinesPost (lst s) w (.returned u3) (wr.drewN q)) := by have h1 := HR.out.drewN q; rw [h0] at h1; exact h1.fin
        clear hno h0
        go_wp2_with fail
        go_ret
        exact HF.out
      · have t0 := str_not h0
        have HN := Lib.hid (fun wa w2 v' => HR.out.last (wa := wa) (w2 := w2) (v' := v') H13.out (by rw [lst_length]; exact hno) h0)
        clear hno h0
        go_wp2_with (at_builtin; refine wpList_append_own_at _ rfl (.tmp 17) (.tmp 19) 29 rfl w.heap.size 9 i0 (.string ⟨#[]⟩) 1 16 Tryd.underlying29 hi hz0 hz1 hz2 rfl (by decide) _ full.length (full.map sv) rfl (HCO.out _) ⟨wr.heap.size, 0, none⟩ 1 1 [sv (lst cur)] rfl rfl (cell_one_new _ _ _) (by simp [Value.oneCell', sv]) L2.out L3.out (HSz.out _) ?_; intro v' w4 hown hgrow hnil hat; refine Hid.out ?_)
        refine Lib.hid ?_
        have HF := Lib.hid (HN.out _ _ _ (HT.out _) hown hgrow)
        clear hown hgrow hnil hat HN
        go_wp2_with fail
        go_ret
        exact HF.out
end Go.Proofs.YthobojpbdeepoaaDoor
