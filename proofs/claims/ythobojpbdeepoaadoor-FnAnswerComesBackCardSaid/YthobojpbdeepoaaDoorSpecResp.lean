/-
  The contract of spec.Response.
-/
import Derived.Test.YthobojpbdeepoaaDoorReadResp
import Derived.Test.YthobojpbdeepoaaDoorSpecDots
namespace Go.Proofs.YthobojpbdeepoaaDoor
open Go.RowKit

/-- What spec.Response answers. -/
def SRPost (s : ByteArray) (w : World) (e : Ending) (w' : World) : Prop :=
  ∃ n t r what, e = .returned (.tuple #[.int .i64 n, .string t, .string r, .int .i64 what]) ∧ (∃ q, w' = w.drewN q) ∧
   ((what = 0 ∧ ∃ j b m, (lst s)[j]? = some 10 ∧ NoNl (lst s) 0 j ∧ code3 (trimCR ((lst s).take j)) = some (n, b, m) ∧ 100 ≤ n ∧ SResp n b ((lst s).drop (j + 1)) m (.good (lst t) (lst r))) ∨
    (what = 1 ∧ (s.size = 0 ∨ ∃ j, (lst s)[j]? = some 10 ∧ NoNl (lst s) 0 j ∧ (code3 (trimCR ((lst s).take j)) = none ∨ ∃ n b m, code3 (trimCR ((lst s).take j)) = some (n, b, m) ∧ 100 ≤ n ∧ SResp n b ((lst s).drop (j + 1)) m .bad))) ∨ what = 2)
/-- What a round keeps. -/
structure SRR (s : ByteArray) (n : Int) (b0 : Bool) (d0 m0 : List UInt8) (more : Bool) (msg cur : ByteArray) : Prop where
  j : ∀ r, SResp n more (lst cur) (lst msg) r → SResp n b0 d0 m0 r
  sz : msg.size + cur.size ≤ s.size
section
variable {s : ByteArray} {n : Int} {b0 more : Bool} {d0 m0 : List UInt8} {msg cur : ByteArray} {j : Nat}
theorem not_cr {l : List UInt8} (h : hasB l 13 = false) : 13 ∉ l := by
  intro hm
  unfold hasB at h
  rw [List.any_eq_false] at h
  exact h 13 hm rfl
theorem size_cat (a b c : ByteArray) : (a ++ (b ++ c) : ByteArray).size = a.size + (b.size + c.size) := by rw [ByteArray.size_append, ByteArray.size_append]
theorem SRR.next (h : SRR s n b0 d0 m0 true msg cur) {x : Bool} {m : List UInt8} (hs : ∀ r, SResp n x ((lst cur).drop (j + 1)) (lst msg ++ 10 :: m) r → SResp n true (lst cur) (lst msg) r) (hm : m.length ≤ j) (hj : (lst cur)[j]? = some 10) :
    SRR s n b0 d0 m0 x (msg ++ (⟨#[10]⟩ ++ ⟨m.toArray⟩)) ⟨((lst cur).drop (j + 1)).toArray⟩ := by
  have h1 := h.sz
  have h2 := (List.getElem?_eq_some_iff.1 hj).1
  rw [lst_length] at h2
  refine ⟨fun r hr => h.j r (hs r ?_), ?_⟩
  · rw [lst_mk, lst_append, lst_append, lst_mk] at hr
    exact hr
  · rw [size_cat]
    have e1 := size_mk m
    have e2 := size_mk ((lst cur).drop (j + 1))
    rw [List.length_drop, lst_length] at e2
    have e3 : (⟨#[10]⟩ : ByteArray).size = 1 := rfl
    omega
end
set_option maxRecDepth 100000 in
set_option maxHeartbeats 8000000 in
theorem specResp_any (s : ByteArray) (w : World) (hs : s.size ≤ 4294967296) : Calls Tryd.prog 23 #[.string s] w (SRPost s w) := by
  have SL := Lib.hid (specLine_any s w hs)
  have HS : Hid (s.size ≤ 4294967296) := hs
  clear hs
  go_enter Tryd.func23, Tryd.ntmps23
  go_wp2_with fail
  go_at_call 31
  (with_reducible refine SL.out.mono ?_)
  rintro e w1 ⟨⟨q, rfl⟩, ⟨j0, h1, h2, rfl⟩ | ⟨_, _, rfl⟩ | ⟨h0, rfl⟩⟩
  · have HJ0 : Hid ((lst s)[j0]? = some 10 ∧ NoNl (lst s) 0 j0) := ⟨h1, h2⟩
    have CD := Lib.hid (specCode_any ⟨(trimCR ((lst s).take j0)).toArray⟩ (w.drewN q) (by
      have h3 := trimCR_length ((lst s).take j0)
      have h4 := HS.out
      rw [List.length_take, lst_length] at h3
      rw [size_mk]; omega))
    rw [lst_mk (trimCR ((lst s).take j0))] at CD
    clear h1 h2 SL
    go_wp2_with fail
    go_at_call 46
    (with_reducible refine CD.out.mono ?_)
    rintro e w2 ⟨⟨q2, rfl⟩, ⟨n, b, m, g1, g2, rfl⟩ | ⟨n, b, m, g1, g2, rfl⟩ | ⟨g1, rfl⟩⟩
    · have HC : Hid (code3 (trimCR ((lst s).take j0)) = some (n, b, m) ∧ 100 ≤ n) := ⟨g1, g2⟩
      have HI : Hid (SRR s n b ((lst s).drop (j0 + 1)) m b ⟨m.toArray⟩ ⟨((lst s).drop (j0 + 1)).toArray⟩) := by
        refine ⟨fun r hr => by rw [lst_mk, lst_mk] at hr; exact hr, ?_⟩
        have hml : m.length ≤ j0 := by
          have h3 := trimCR_length ((lst s).take j0)
          rw [List.length_take] at h3
          obtain ⟨a, b', c, sg, he, _⟩ := code3_some g1
          rw [he] at h3
          simp only [List.length_cons] at h3; omega
        have h4 := (List.getElem?_eq_some_iff.1 HJ0.out.1).1
        rw [lst_length] at h4
        rw [size_mk, size_mk, List.length_drop, lst_length]; omega
      have HG : Hid (∀ msg cur q, SRR s n b ((lst s).drop (j0 + 1)) m false msg cur → SRPost s w (.returned (.tuple #[.int .i64 n, .string msg, .string cur, .int .i64 0])) (w.drewN q)) := fun msg cur q h =>
        ⟨n, msg, cur, 0, rfl, ⟨q, rfl⟩, .inl ⟨rfl, j0, b, m, HJ0.out.1, HJ0.out.2, HC.out.1, HC.out.2, h.j _ (.stop _ _)⟩⟩
      have HB : Hid (∀ msg cur q, SRR s n b ((lst s).drop (j0 + 1)) m true msg cur → lst cur = [] → SRPost s w (.returned (.tuple #[.int .i64 0, .string ⟨#[]⟩, .string ⟨#[]⟩, .int .i64 1])) (w.drewN q)) := fun msg cur q h hc =>
        ⟨0, _, _, 1, rfl, ⟨q, rfl⟩, .inr (.inl ⟨rfl, .inr ⟨j0, HJ0.out.1, HJ0.out.2, .inr ⟨n, b, m, HC.out.1, HC.out.2, h.j _ (by rw [hc]; exact .eof _)⟩⟩⟩)⟩
      have HO : Hid (∀ q, SRPost s w (.returned (.tuple #[.int .i64 0, .string ⟨#[]⟩, .string ⟨#[]⟩, .int .i64 2])) (w.drewN q)) := fun q => ⟨0, _, _, 2, rfl, ⟨q, rfl⟩, .inr (.inr rfl)⟩
      clear g1 g2 CD
      go_wp2_with fail
      go_loopg [2, 3, 4, 7] s.size (fun g vn vm vc vb wr => ∃ more msg cur, vn = .int .i64 n ∧ vm = .string msg ∧ vc = .string cur ∧ vb = .bool more ∧ SRR s n b ((lst s).drop (j0 + 1)) m more msg cur ∧ (∃ q, wr = w.drewN q) ∧ cur.size ≤ g)
      case atStart => exact ⟨b, ⟨m.toArray⟩, ⟨((lst s).drop (j0 + 1)).toArray⟩, rfl, rfl, rfl, rfl, HI.out, ⟨_, rfl⟩, by rw [size_mk, List.length_drop, lst_length]; omega⟩
      case round =>
        clear HI
        obtain ⟨more, msg, cur, rfl, rfl, rfl, rfl, hr, ⟨q3, rfl⟩, hg⟩ := hrel
        have HR := Lib.hid hr
        have HGk := Lib.hid hg
        clear hr hg
        cases more with
        | false =>
          have HF := Lib.hid (HG.out msg cur q3 HR.out)
          go_wp2_with fail
          (try simp only [Exit.inBlock, Exit.then]); refine bodyPost_ret (results_tmp4 rfl _ _ _) rfl ?_
          exact HF.out
        | true =>
          by_cases h0 : lst cur = []
          · have t0 := str_is h0
            have HF := Lib.hid (HB.out msg cur q3 HR.out h0)
            clear h0
            go_wp2_with fail
            (try simp only [Exit.inBlock, Exit.then]); refine bodyPost_ret (results_tmp4 rfl _ _ _) rfl ?_
            exact HF.out
          · have t0 := str_not h0
            have SL := Lib.hid (specLine_any cur (w.drewN q3) (by have := HR.out.sz; have := HS.out; omega))
            have hne : cur.size ≠ 0 := fun h => h0 (List.eq_nil_of_length_eq_zero (by rw [lst_length, h]))
            clear h0
            go_wp2_with fail
            go_at_call 31
            (with_reducible refine SL.out.mono ?_)
            rintro e w4 ⟨⟨q4, rfl⟩, ⟨j, h1, h2, rfl⟩ | ⟨_, _, rfl⟩ | ⟨h0, rfl⟩⟩
            · have HJ : Hid ((lst cur)[j]? = some 10 ∧ NoNl (lst cur) 0 j) := ⟨h1, h2⟩
              have hjl : j < cur.size := by have h4 := (List.getElem?_eq_some_iff.1 h1).1; rwa [lst_length] at h4
              obtain ⟨l, hl⟩ : ∃ l, l = trimCR ((lst cur).take j) := ⟨_, rfl⟩
              have hll : l.length ≤ j := by
                have h3 := trimCR_length ((lst cur).take j)
                rw [List.length_take] at h3
                rw [hl]; omega
              rw [← hl]
              have HL := Lib.hid hl
              have HLL := Lib.hid hll
              have LH := Lib.hid (fun W => shas_any ⟨l.toArray⟩ 13 W (by rw [size_mk]; have := HR.out.sz; have := HS.out; omega))
              rw [lst_mk l] at LH
              have HM : Hid (∀ x : List UInt8, (⟨((lst cur).drop (j + 1)).toArray⟩ : ByteArray).size ≤ gk - 1 ∧ 0 < gk) := fun _ => by
                have := HGk.out
                rw [size_mk, List.length_drop, lst_length]; omega
              have CD := Lib.hid (specCode_any ⟨l.toArray⟩ (w.drewN (q3 + q4)) (by rw [size_mk]; have := HR.out.sz; have := HS.out; omega))
              rw [lst_mk l] at CD
              have hz := HR.out.sz
              have hz2 := HS.out
              have z1 : ¬ 9223372036854775807 < msg.size + (1 + l.length) := by omega
              have HZ : Hid (∀ m : List UInt8, m.length ≤ l.length → ¬ 9223372036854775807 < msg.size + (1 + m.length)) := fun m hm => by omega
              clear h1 h2 SL hl hll hz hz2 hne
              cases hcr : hasB l 13 with
              | true =>
                have HF := Lib.hid (HO.out)
                rw [hcr] at LH
                go_wp2_with (go_at_call 52; (with_reducible refine (LH.out _).mono ?_); rintro e w' ⟨rfl, rfl⟩)
                (try simp only [Exit.inBlock, Exit.then]); refine bodyPost_ret (results_tmp4 rfl _ _ _) rfl ?_
                exact HF.out _
              | false =>
                rw [hcr] at LH
                have HNC := Lib.hid (not_cr hcr)
                clear hcr
                go_wp2_with (go_at_call 52; (with_reducible refine (LH.out _).mono ?_); rintro e w' ⟨rfl, rfl⟩)
                go_at_call 46
                (with_reducible refine CD.out.mono ?_)
                rintro e w5 ⟨⟨q5, rfl⟩, ⟨n2, b2, m2, c1, c2, rfl⟩ | ⟨n2, b2, m2, c1, c2, rfl⟩ | ⟨c1, rfl⟩⟩
                · have hm2 : m2.length ≤ l.length := by
                    obtain ⟨a, b', c, sg, he, _⟩ := code3_some c1
                    rw [he]
                    simp only [List.length_cons]; omega
                  by_cases hn : n2 = n
                  · subst hn
                    have tn : (n2 == n2) = true := by simp
                    have z2 := HZ.out m2 hm2
                    have HF := Lib.hid (HR.out.next (j := j) (x := b2) (m := m2) (fun r hr => .same _ _ j HJ.out.1 HJ.out.2 (by rw [← HL.out]; exact HNC.out) b2 m2 (by rw [← HL.out]; exact c1) r hr) (by have := HLL.out; omega) HJ.out.1)
                    clear c1 c2 hm2 CD
                    go_wp2_with fail
                    go_roundg (gk - 1)
                    case rel => exact ⟨b2, _, _, rfl, rfl, rfl, rfl, HF.out, ⟨_, rfl⟩, (HM.out []).1⟩
                    case measure => have := (HM.out []).2; omega
                  · have tn : (n2 == n) = false := by simpa using hn
                    have HF := Lib.hid (HR.out.next (j := j) (x := true) (m := l) (fun r hr => .other _ _ j HJ.out.1 HJ.out.2 (by rw [← HL.out]; exact HNC.out) (by
                      rw [← HL.out]
                      intro x m h
                      rw [c1] at h
                      injection h with h
                      injection h with h
                      exact hn h) r (by rw [← HL.out]; exact hr)) HLL.out HJ.out.1)
                    clear c1 c2 hm2 CD hn
                    go_wp2_with fail
                    go_roundg (gk - 1)
                    case rel => exact ⟨true, _, _, rfl, rfl, rfl, rfl, HF.out, ⟨_, rfl⟩, (HM.out []).1⟩
                    case measure => have := (HM.out []).2; omega
                · have HF := Lib.hid (HR.out.next (j := j) (x := true) (m := l) (fun r hr => .other _ _ j HJ.out.1 HJ.out.2 (by rw [← HL.out]; exact HNC.out) (by
                      rw [← HL.out]
                      intro x m h
                      rw [c1] at h
                      injection h with h
                      injection h with h
                      have := HC.out.2
                      omega) r (by rw [← HL.out]; exact hr)) HLL.out HJ.out.1)
                  clear c1 c2 CD
                  go_wp2_with fail
                  go_roundg (gk - 1)
                  case rel => exact ⟨true, _, _, rfl, rfl, rfl, rfl, HF.out, ⟨_, rfl⟩, (HM.out []).1⟩
                  case measure => have := (HM.out []).2; omega
                · have HF := Lib.hid (HR.out.next (j := j) (x := true) (m := l) (fun r hr => .other _ _ j HJ.out.1 HJ.out.2 (by rw [← HL.out]; exact HNC.out) (by
                      rw [← HL.out]
                      intro x m h
                      rw [c1] at h
                      cases h) r (by rw [← HL.out]; exact hr)) HLL.out HJ.out.1)
                  clear c1 CD
                  go_wp2_with fail
                  go_roundg (gk - 1)
                  case rel => exact ⟨true, _, _, rfl, rfl, rfl, rfl, HF.out, ⟨_, rfl⟩, (HM.out []).1⟩
                  case measure => have := (HM.out []).2; omega
            · have HF := Lib.hid (HO.out)
              clear SL
              go_wp2_with fail
              (try simp only [Exit.inBlock, Exit.then]); refine bodyPost_ret (results_tmp4 rfl _ _ _) rfl ?_
              exact HF.out _
            · exact absurd h0 hne
    · have HF : Hid (SRPost s w (.returned (.tuple #[.int .i64 0, .string ⟨#[]⟩, .string ⟨#[]⟩, .int .i64 2])) (w.drewN (q + q2))) := ⟨0, _, _, _, rfl, ⟨_, rfl⟩, .inr (.inr rfl)⟩
      clear g1 g2 CD
      go_wp2_with fail
      (try simp only [Exit.inBlock, Exit.then]); refine bodyPost_ret (results_tmp4 rfl _ _ _) rfl ?_
      exact HF.out
    · have HF : Hid (SRPost s w (.returned (.tuple #[.int .i64 0, .string ⟨#[]⟩, .string ⟨#[]⟩, .int .i64 1])) (w.drewN (q + q2))) := ⟨0, _, _, _, rfl, ⟨_, rfl⟩, .inr (.inl ⟨rfl, .inr ⟨j0, HJ0.out.1, HJ0.out.2, .inl g1⟩⟩)⟩
      clear g1 CD
      go_wp2_with fail
      (try simp only [Exit.inBlock, Exit.then]); refine bodyPost_ret (results_tmp4 rfl _ _ _) rfl ?_
      exact HF.out
  · have HF : Hid (SRPost s w (.returned (.tuple #[.int .i64 0, .string ⟨#[]⟩, .string ⟨#[]⟩, .int .i64 2])) (w.drewN q)) := ⟨0, _, _, _, rfl, ⟨q, rfl⟩, .inr (.inr rfl)⟩
    clear SL
    go_wp2_with fail
    (try simp only [Exit.inBlock, Exit.then]); refine bodyPost_ret (results_tmp4 rfl _ _ _) rfl ?_
    exact HF.out
  · have HF : Hid (SRPost s w (.returned (.tuple #[.int .i64 0, .string ⟨#[]⟩, .string ⟨#[]⟩, .int .i64 1])) (w.drewN q)) := ⟨0, _, _, _, rfl, ⟨q, rfl⟩, .inr (.inl ⟨rfl, .inl h0⟩)⟩
    clear SL h0
    go_wp2_with fail
    (try simp only [Exit.inBlock, Exit.then]); refine bodyPost_ret (results_tmp4 rfl _ _ _) rfl ?_
    exact HF.out
end Go.Proofs.YthobojpbdeepoaaDoor
