/-
  The contract of spec.Continued.
-/
import Derived.Test.YthobojpbdeepoaaDoorContLaw
import Derived.Test.YthobojpbdeepoaaDoorSpecLine
import Derived.Test.YthobojpbdeepoaaDoorHas
namespace Go.Proofs.YthobojpbdeepoaaDoor
open Go.RowKit

/-- The line at the head of d, with the lines that go on: t; behind it r. -/
def CGood (d t r : List UInt8) : Prop :=
  ∃ j, d[j]? = some 10 ∧ NoNl d 0 j ∧ ((trimCR (d.take j) = [] ∧ t = [] ∧ r = d.drop (j + 1)) ∨ (trimCR (d.take j) ≠ [] ∧ CMore (trimB (trimCR (d.take j))) (d.drop (j + 1)) t r))
theorem cgood_spec {d t r : List UInt8} {res : CRes} {er : List UInt8 → Value} (her : ∀ l, er l = .nilIface) (h : CGood d t r) (hs : CSpec er d res) : res = .line t r := by
  obtain ⟨j, h1, h2, h3⟩ := h
  obtain ⟨_, h4⟩ := hs
  obtain ⟨g1, _, g3⟩ := h4 j h1 h2
  rcases h3 with ⟨e, rfl, rfl⟩ | ⟨e, hm⟩
  · exact g1 e
  · exact g3 e (her _) t r hm

theorem cstr_is {l : ByteArray} {x : List UInt8} (h : lst l = x) : (l.toList == x) = true := by
  have e : l.toList = lst l := ByteArray.toList_eq l
  rw [e, h]; simp
theorem cstr_not {l : ByteArray} {x : List UInt8} (h : lst l ≠ x) : (l.toList == x) = false := by
  have e : l.toList = lst l := ByteArray.toList_eq l
  rw [e]; simpa using h
theorem clst_cat (a b : ByteArray) : lst (a ++ b) = lst a ++ lst b := by unfold lst; rw [ByteArray.data_append, Array.toList_append]
theorem csize_mk (l : List UInt8) : (⟨l.toArray⟩ : ByteArray).size = l.length := by show l.toArray.size = _; simp
theorem trimCR_ne {d : List UInt8} {j : Nat} {c : UInt8} (h10 : d[j]? = some 10) (hc : d[0]? = some c) (hb : blB c = true) : trimCR (d.take j) ≠ [] := by
  have hj : 0 < j := by
    rcases Nat.eq_zero_or_pos j with h | h
    · subst h
      rw [h10] at hc
      obtain rfl := Option.some.inj hc
      exact absurd hb (by decide)
    · exact h
  have h1 := (List.getElem?_eq_some_iff.1 h10).1
  have hl : (d.take j).length = j := by rw [List.length_take]; omega
  intro e
  unfold trimCR at e
  rw [hl] at e
  split at e
  · rename_i h13
    have h2 : (List.take (j - 1) (d.take j)).length = 0 := by rw [e]; rfl
    rw [List.length_take, hl] at h2
    have h3 : j = 1 := by omega
    subst h3
    rw [List.getElem?_take_of_lt (by omega), hc] at h13
    obtain rfl := Option.some.inj h13
    exact absurd hb (by decide)
  · rw [e] at hl
    simp at hl
    omega

/-- What spec.Continued answers. -/
def SCPost (s : ByteArray) (w : World) (e : Ending) (w' : World) : Prop :=
  (∃ q, w' = w.drewN q) ∧ ∃ t r what, e = .returned (.tuple #[.string t, .string r, .int .i64 what]) ∧ ((what = 0 ∧ CGood (lst s) (lst t) (lst r)) ∨ (what = 1 ∧ s.size = 0) ∨ what = 2)
/-- What a round keeps. -/
structure SC (s cur txt : ByteArray) (n : Nat) : Prop where
  sz : txt.size + cur.size ≤ s.size
  nb : n + cur.size ≤ s.size
  n0 : n = 0 → cur = s ∧ lst txt = []
  n1 : 0 < n → (lst txt = [] ∧ CGood (lst s) [] (lst cur)) ∨ (lst txt ≠ [] ∧ ∀ t r, CMore (lst txt) (lst cur) t r → CGood (lst s) t r)
section
variable {s cur txt : ByteArray} {n j : Nat} {l : List UInt8}
theorem SC.stop (h : SC s cur txt n) (hn : 0 < n) (h0 : (∀ c, (lst cur)[0]? = some c → blB c = false) ∨ lst txt = []) (w : World) (q : Nat) : SCPost s w (.returned (.tuple #[.string txt, .string cur, .int .i64 0])) (w.drewN q) := by
  refine ⟨⟨q, rfl⟩, txt, cur, 0, rfl, .inl ⟨rfl, ?_⟩⟩
  rcases h.n1 hn with ⟨h1, h2⟩ | ⟨h1, h2⟩
  · rw [h1]; exact h2
  · rcases h0 with h0 | h0
    · exact h2 _ _ (.stop _ _ h0)
    · exact absurd h0 h1
theorem line_size (h10 : (lst cur)[j]? = some 10) : (trimB (trimCR ((lst cur).take j))).length ≤ j ∧ j < cur.size := by
  have h1 := (List.getElem?_eq_some_iff.1 h10).1
  rw [lst_length] at h1
  have h2 := trimB_length (trimCR ((lst cur).take j))
  have h3 := trimCR_length ((lst cur).take j)
  rw [List.length_take] at h3
  omega
theorem drop_size : (⟨((lst cur).drop (j + 1)).toArray⟩ : ByteArray).size = cur.size - (j + 1) := by rw [csize_mk, List.length_drop, lst_length]
theorem SC.first (h : SC s cur txt n) (hn : n = 0) (h10 : (lst cur)[j]? = some 10) (hno : NoNl (lst cur) 0 j) (hne : trimCR ((lst cur).take j) ≠ [] → trimB (trimCR ((lst cur).take j)) ≠ []) :
    SC s ⟨((lst cur).drop (j + 1)).toArray⟩ (txt ++ ⟨(trimB (trimCR ((lst cur).take j))).toArray⟩) (n + 1) := by
  obtain ⟨rfl, ht⟩ := h.n0 hn
  have h2 := line_size h10
  have hz : txt.size = 0 := by rw [← lst_length, ht]; rfl
  have e : lst (txt ++ ⟨(trimB (trimCR ((lst cur).take j))).toArray⟩) = trimB (trimCR ((lst cur).take j)) := by rw [clst_cat, ht]; rfl
  refine ⟨?_, ?_, fun h => by omega, fun _ => ?_⟩
  · have a1 := drop_size (cur := cur) (j := j)
    have a2 := csize_mk (trimB (trimCR ((lst cur).take j)))
    have a3 := ByteArray.size_append (a := txt) (b := ⟨(trimB (trimCR ((lst cur).take j))).toArray⟩)
    omega
  · rw [drop_size]; omega
  · rw [e, lst_mk ((lst cur).drop (j + 1))]
    by_cases h0 : trimCR ((lst cur).take j) = []
    · refine .inl ⟨by rw [h0]; rfl, j, h10, hno, .inl ⟨h0, rfl, rfl⟩⟩
    · exact .inr ⟨hne h0, fun t r hm => ⟨j, h10, hno, .inr ⟨h0, hm⟩⟩⟩
theorem SC.next (h : SC s cur txt n) (hn : 0 < n) (ht : lst txt ≠ []) {c : UInt8} (hc : (lst cur)[0]? = some c) (hb : blB c = true) (h10 : (lst cur)[j]? = some 10) (hno : NoNl (lst cur) 0 j) (hne : trimB (trimCR ((lst cur).take j)) ≠ []) :
    SC s ⟨((lst cur).drop (j + 1)).toArray⟩ (txt ++ ⟨#[32]⟩ ++ ⟨(trimB (trimCR ((lst cur).take j))).toArray⟩) (n + 1) := by
  have h2 := line_size h10
  have h3 := h.sz
  have h4 := h.nb
  have e : lst (txt ++ ⟨#[32]⟩ ++ ⟨(trimB (trimCR ((lst cur).take j))).toArray⟩) = lst txt ++ 32 :: trimB (trimCR ((lst cur).take j)) := by rw [clst_cat, clst_cat, List.append_assoc]; rfl
  have e3 : (⟨#[32]⟩ : ByteArray).size = 1 := rfl
  refine ⟨?_, ?_, fun h => by omega, fun _ => .inr ⟨?_, fun t r hm => ?_⟩⟩
  · have a1 := drop_size (cur := cur) (j := j)
    have a2 := csize_mk (trimB (trimCR ((lst cur).take j)))
    have a3 := ByteArray.size_append (a := txt ++ ⟨#[32]⟩) (b := ⟨(trimB (trimCR ((lst cur).take j))).toArray⟩)
    have a4 := ByteArray.size_append (a := txt) (b := ⟨#[32]⟩)
    omega
  · rw [drop_size]; omega
  · rw [e]; simp
  · rcases h.n1 hn with ⟨h1, _⟩ | ⟨_, h5⟩
    · exact absurd h1 ht
    · rw [e, lst_mk ((lst cur).drop (j + 1))] at hm
      exact h5 t r (.more _ _ _ _ j h10 hno ⟨c, hc, hb⟩ hne hm)
end

set_option maxRecDepth 100000 in
set_option maxHeartbeats 8000000 in
theorem specCont_any (s : ByteArray) (w : World) (hs : s.size ≤ 4294967296) : Calls Tryd.prog 37 #[.string s] w (SCPost s w) := by
  have HS : Hid (s.size ≤ 4294967296) := hs
  clear hs
  by_cases hs0 : lst s = []
  · have t0 := cstr_is hs0
    have HF : Hid (SCPost s w (.returned (.tuple #[.string ⟨#[]⟩, .string ⟨#[]⟩, .int .i64 1])) w) := ⟨⟨0, rfl⟩, _, _, 1, rfl, .inr (.inl ⟨rfl, by rw [← lst_length, hs0]; rfl⟩)⟩
    clear hs0
    go_enter Tryd.func37, Tryd.ntmps37
    go_wp2_with fail
    go_ret3
    exact HF.out
  · have t0 := cstr_not hs0
    clear hs0
    have HO : Hid (∀ q, SCPost s w (.returned (.tuple #[.string ⟨#[]⟩, .string ⟨#[]⟩, .int .i64 2])) (w.drewN q)) := fun q => ⟨⟨q, rfl⟩, _, _, 2, rfl, .inr (.inr rfl)⟩
    go_enter Tryd.func37, Tryd.ntmps37
    go_wp2_with fail
    clear t0
    go_loopg [0, 2, 5] (s.size + 1) (fun g v0 v2 v5 wr => ∃ (cur txt : ByteArray) (n : Nat), v0 = .string cur ∧ v2 = .string txt ∧ v5 = .int .i64 (n : Int) ∧ SC s cur txt n ∧ (∃ q, wr = w.drewN q) ∧ cur.size + 1 ≤ g)
    case atStart => exact ⟨s, ⟨#[]⟩, 0, rfl, rfl, rfl, ⟨by show 0 + s.size ≤ s.size; omega, by omega, fun _ => ⟨rfl, rfl⟩, fun h => absurd h (Nat.lt_irrefl 0)⟩, ⟨0, rfl⟩, Nat.le_refl _⟩
    case round =>
      obtain ⟨cur, txt, n, rfl, rfl, rfl, hSC, ⟨q, rfl⟩, hg⟩ := hrel
      have hz1 := hSC.sz
      have hz2 := hSC.nb
      have hz3 := HS.out
      have SL := specline_any cur (w.drewN q) (by omega)
      rcases Nat.eq_zero_or_pos n with hn | hn
      · subst hn
        go_wp2_with fail
        go_at_call 62
        refine SL.mono ?_
        rintro e w1 ⟨⟨q1, rfl⟩, hor⟩
        clear SL
        rcases hor with ⟨j, h10, hno, rfl⟩ | ⟨_, rfl⟩
        · have hjl := line_size h10
          obtain ⟨ls, hls⟩ : ∃ ls : ByteArray, ls = ⟨(trimCR ((lst cur).take j)).toArray⟩ := ⟨_, rfl⟩
          obtain ⟨aft, haft⟩ : ∃ aft : ByteArray, aft = ⟨((lst cur).drop (j + 1)).toArray⟩ := ⟨_, rfl⟩
          obtain ⟨tl, htl⟩ : ∃ tl : ByteArray, tl = ⟨(trimB (lst ls)).toArray⟩ := ⟨_, rfl⟩
          have hlst : lst ls = trimCR ((lst cur).take j) := by rw [hls]; exact lst_mk _
          have hasz : aft.size = cur.size - (j + 1) := by rw [haft]; exact drop_size
          have hlsz : ls.size ≤ cur.size := by
            have h3 := trimCR_length ((lst cur).take j)
            rw [List.length_take, lst_length] at h3
            rw [hls, csize_mk]; omega
          have htsz : tl.size ≤ j := by rw [htl, csize_mk, hlst]; exact hjl.1
          have HN : Hid ((lst ls ≠ [] → lst tl ≠ []) → SC s aft (txt ++ tl) 1) := by
            intro hne
            have := hSC.first rfl h10 hno (by
              rw [← hlst]
              intro h
              have := hne h
              rw [htl, lst_mk (trimB (lst ls))] at this
              exact this)
            rw [haft, htl, hlst]
            exact this
          have HM : Hid (aft.size + 1 ≤ gk - 1 ∧ 0 < gk) := by
            have := hjl.2
            exact ⟨by omega, by omega⟩
          have LH := Lib.hid (fun W => shas_any ls 13 W (by omega))
          have TR := Lib.hid (fun W => specTrim_any ls W (by omega))
          have TE : ∀ W, Calls Tryd.prog 43 #[.string ls] W fun e w' => e = .returned (.string tl) ∧ W = w' := fun W => by
            have := TR.out W
            rw [htl]
            exact this
          have TE := Lib.hid TE
          have IB := Lib.hid (fun c W => isBlank_any c W)
          have z3 : ¬ 9223372036854775807 < txt.size + tl.size := by omega
          rw [← hls, ← haft]
          clear hls haft htl hlst hno h10 hjl hSC TR hz1 hz2 hz3 htsz hg
          cases hcr : hasB (lst ls) 13 with
          | true =>
            have HF := Lib.hid (HO.out)
            rw [hcr] at LH
            go_wp2_with (go_at_call 52; (with_reducible refine (LH.out _).mono ?_); rintro e w' ⟨rfl, rfl⟩)
            go_ret3
            exact HF.out _
          | false =>
            rw [hcr] at LH
            clear hcr
            by_cases hl0 : lst ls = []
            · have t1 := cstr_is hl0
              have HF := Lib.hid (HN.out (fun h => absurd hl0 h))
              clear hl0 HN
              go_wp2_with (first | (go_at_call 52; (with_reducible refine (LH.out _).mono ?_); rintro e w' ⟨rfl, rfl⟩) | (go_at_call 43; (with_reducible refine (TE.out _).mono ?_); rintro e w' ⟨rfl, rfl⟩))
              go_roundg (gk - 1)
              case rel => exact ⟨aft, txt ++ tl, 1, rfl, rfl, rfl, HF.out, ⟨_, rfl⟩, HM.out.1⟩
              case measure => have := HM.out.2; omega
            · have t1 := cstr_not hl0
              have hp : 0 < ls.size := by
                rcases Nat.eq_zero_or_pos ls.size with h | h
                · exact absurd (List.eq_nil_of_length_eq_zero (by rw [lst_length, h])) hl0
                · exact h
              by_cases ht0 : lst tl = []
              · have t2 := cstr_is ht0
                clear hl0 HN ht0
                go_wp2_with (first | (go_at_call 52; (with_reducible refine (LH.out _).mono ?_); rintro e w' ⟨rfl, rfl⟩) | (go_at_call 43; (with_reducible refine (TE.out _).mono ?_); rintro e w' ⟨rfl, rfl⟩))
                go_ret3
                exact HO.out _
              · have t2 := cstr_not ht0
                have HF := Lib.hid (HN.out (fun _ => ht0))
                clear hl0 HN ht0
                cases hb : blI (ls[0].toNat : Int)
                · go_wp2_with (first | (go_at_call 52; (with_reducible refine (LH.out _).mono ?_); rintro e w' ⟨rfl, rfl⟩) | (go_at_call 43; (with_reducible refine (TE.out _).mono ?_); rintro e w' ⟨rfl, rfl⟩) | (go_at_call 65; (with_reducible refine (IB.out _ _).mono ?_); rintro e w' ⟨rfl, rfl⟩))
                  go_roundg (gk - 1)
                  case rel => exact ⟨aft, txt ++ tl, 1, rfl, rfl, rfl, HF.out, ⟨_, rfl⟩, HM.out.1⟩
                  case measure => have := HM.out.2; omega
                · go_wp2_with (first | (go_at_call 52; (with_reducible refine (LH.out _).mono ?_); rintro e w' ⟨rfl, rfl⟩) | (go_at_call 43; (with_reducible refine (TE.out _).mono ?_); rintro e w' ⟨rfl, rfl⟩) | (go_at_call 65; (with_reducible refine (IB.out _ _).mono ?_); rintro e w' ⟨rfl, rfl⟩))
                  go_ret3
                  exact HO.out _
        · clear hSC
          go_wp2_with fail
          go_ret3
          exact HO.out _
      · have b0 : (0 : Int) < (n : Int) := by omega
        have e1 : IntKind.i64.wrap ((n : Int) + 1) = ((n + 1 : Nat) : Int) := by rw [IntWalk.i64_in _ (by omega)]; omega
        by_cases hc0 : lst cur = []
        · have t1 := cstr_is hc0
          have HF := Lib.hid (fun q => hSC.stop hn (.inl (fun c hc => by rw [hc0] at hc; cases hc)) w q)
          clear hSC SL hc0
          go_wp2_with fail
          go_ret3
          exact HF.out _
        · have t1 := cstr_not hc0
          have hp : 0 < cur.size := by
            rcases Nat.eq_zero_or_pos cur.size with h | h
            · exact absurd (List.eq_nil_of_length_eq_zero (by rw [lst_length, h])) hc0
            · exact h
          have hc : (lst cur)[0]? = some cur[0] := lst_get cur 0 hp
          have IB := Lib.hid (fun c W => isBlank_any c W)
          clear hc0
          cases hb : blI (cur[0].toNat : Int)
          · have HF := Lib.hid (fun q => hSC.stop hn (.inl (fun c hc' => by
              rw [hc] at hc'
              obtain rfl := Option.some.inj hc'
              exact hb)) w q)
            clear hSC SL hc
            go_wp2_with (go_at_call 65; (with_reducible refine (IB.out _ _).mono ?_); rintro e w' ⟨rfl, rfl⟩)
            go_ret3
            exact HF.out _
          · by_cases hx0 : lst txt = []
            · have t2 := cstr_is hx0
              have HF := Lib.hid (fun q => hSC.stop hn (.inr hx0) w q)
              clear hSC SL hc hx0
              go_wp2_with (go_at_call 65; (with_reducible refine (IB.out _ _).mono ?_); rintro e w' ⟨rfl, rfl⟩)
              go_ret3
              exact HF.out _
            · have t2 := cstr_not hx0
              have SLH := Lib.hid SL
              clear SL
              go_wp2_with (go_at_call 65; (with_reducible refine (IB.out _ _).mono ?_); rintro e w' ⟨rfl, rfl⟩)
              go_at_call 62
              refine SLH.out.mono ?_
              rintro e w1 ⟨⟨q1, rfl⟩, hor⟩
              clear SLH
              rcases hor with ⟨j, h10, hno, rfl⟩ | ⟨_, rfl⟩
              · have hjl := line_size h10
                obtain ⟨ls, hls⟩ : ∃ ls : ByteArray, ls = ⟨(trimCR ((lst cur).take j)).toArray⟩ := ⟨_, rfl⟩
                obtain ⟨aft, haft⟩ : ∃ aft : ByteArray, aft = ⟨((lst cur).drop (j + 1)).toArray⟩ := ⟨_, rfl⟩
                obtain ⟨tl, htl⟩ : ∃ tl : ByteArray, tl = ⟨(trimB (lst ls)).toArray⟩ := ⟨_, rfl⟩
                have hlst : lst ls = trimCR ((lst cur).take j) := by rw [hls]; exact lst_mk _
                have hasz : aft.size = cur.size - (j + 1) := by rw [haft]; exact drop_size
                have hlsz : ls.size ≤ cur.size := by
                  have h3 := trimCR_length ((lst cur).take j)
                  rw [List.length_take, lst_length] at h3
                  rw [hls, csize_mk]; omega
                have htsz : tl.size ≤ j := by rw [htl, csize_mk, hlst]; exact hjl.1
                have hl0 : lst ls ≠ [] := by rw [hlst]; exact trimCR_ne h10 hc hb
                have HN : Hid (lst tl ≠ [] → SC s aft (txt ++ ⟨#[32]⟩ ++ tl) (n + 1)) := by
                  intro hne
                  have := hSC.next hn hx0 hc hb h10 hno (by
                    rw [← hlst]
                    intro h
                    rw [htl, lst_mk (trimB (lst ls))] at hne
                    exact hne h)
                  rw [haft, htl, hlst]
                  exact this
                have HM : Hid (aft.size + 1 ≤ gk - 1 ∧ 0 < gk) := by
                  have := hjl.2
                  exact ⟨by omega, by omega⟩
                have LH := Lib.hid (fun W => shas_any ls 13 W (by omega))
                have TR := Lib.hid (fun W => specTrim_any ls W (by omega))
                have TE : ∀ W, Calls Tryd.prog 43 #[.string ls] W fun e w' => e = .returned (.string tl) ∧ W = w' := fun W => by
                  have := TR.out W
                  rw [htl]
                  exact this
                have TE := Lib.hid TE
                have z3 : ¬ 9223372036854775807 < txt.size + 1 := by omega
                have z4 : ¬ 9223372036854775807 < txt.size + 1 + tl.size := by omega
                have z5 : ¬ 9223372036854775807 < txt.size + (1 + tl.size) := by omega
                have t3 := cstr_not hl0
                have b1 : ((n : Int) == 0) = false := by simp; omega
                rw [← hls, ← haft]
                clear hls haft htl hlst hno h10 hjl hSC TR hz1 hz2 hz3 htsz hg hl0 hc hb hx0 hasz
                cases hcr : hasB (lst ls) 13 with
                | true =>
                  rw [hcr] at LH
                  go_wp2_with (go_at_call 52; (with_reducible refine (LH.out _).mono ?_); rintro e w' ⟨rfl, rfl⟩)
                  go_ret3
                  exact HO.out _
                | false =>
                  rw [hcr] at LH
                  clear hcr
                  by_cases ht0 : lst tl = []
                  · have t4 := cstr_is ht0
                    clear HN ht0
                    go_wp2_with (first | (go_at_call 52; (with_reducible refine (LH.out _).mono ?_); rintro e w' ⟨rfl, rfl⟩) | (go_at_call 43; (with_reducible refine (TE.out _).mono ?_); rintro e w' ⟨rfl, rfl⟩))
                    go_ret3
                    exact HO.out _
                  · have t4 := cstr_not ht0
                    have HF := Lib.hid (HN.out ht0)
                    clear HN ht0
                    go_wp2_with (first | (go_at_call 52; (with_reducible refine (LH.out _).mono ?_); rintro e w' ⟨rfl, rfl⟩) | (go_at_call 43; (with_reducible refine (TE.out _).mono ?_); rintro e w' ⟨rfl, rfl⟩))
                    go_roundg (gk - 1)
                    case rel => exact ⟨aft, _, n + 1, rfl, rfl, rfl, HF.out, ⟨_, rfl⟩, HM.out.1⟩
                    case measure => have := HM.out.2; omega
              · clear hSC
                go_wp2_with fail
                go_ret3
                exact HO.out _
end Go.Proofs.YthobojpbdeepoaaDoor
