/-
  The walk of laws.FnDotLines.
-/
import Derived.Test.YthobojpbdeepoaaDoorSameLines
import Derived.Test.YthobojpbdeepoaaDoorComeBack
namespace Go.Proofs.YthobojpbdeepoaaDoor
open Go.RowKit

set_option maxRecDepth 100000 in
set_option maxHeartbeats 8000000 in
theorem fnDotLines_any (p : Option Addr) (l : List UInt8) (cap : Nat) (ae fe ue : Addr) (w : World) (h : DataAt w p l) (hE : Ends3 w w.heap.size ae fe ue) :
    Calls Tryd.prog 11 #[.slice p l.length cap] w fun e w' => e = .returned (.bool true) ∧ Turned [] w w' := by
  by_cases hb2 : 2147483647 < l.length
  · have b1 : (2147483647 : Int) < (l.length : Int) := by omega
    go_enter Tryd.func11, Tryd.ntmps11
    go_wp2_with fail
    go_ret
    exact ⟨rfl, Turned.refl _ _⟩
  have b1 : ¬ (2147483647 : Int) < (l.length : Int) := by omega
  by_cases hb : 65536 < l.length
  · have b0 : (65536 : Int) < (l.length : Int) := by omega
    go_enter Tryd.func11, Tryd.ntmps11
    go_wp2_with fail
    go_ret
    exact ⟨rfl, Turned.refl _ _⟩
  have b0 : ¬ (65536 : Int) < (l.length : Int) := by omega
  have HD := Lib.hid h
  have HLN : Hid (l.length ≤ 65536) := by show _ ≤ _; omega
  have hs := string_of_rowP h.rowP cap
  have SD := Lib.hid (specDots_any ⟨l.toArray⟩ w (by rw [size_mk]; omega))
  have HE := Lib.hid hE
  clear h hE hb hb2
  go_enter Tryd.func11, Tryd.ntmps11
  go_wp2_with fail
  go_at_call 28
  (with_reducible refine SD.out.mono ?_)
  rintro e w4 ⟨⟨q, rfl⟩, text, rest, what, rfl, hts, hor⟩
  have HO := Lib.hid hor
  have HTS := Lib.hid hts
  have hTq : Turned [] w (w.drewN q) := (Turned.refl _ _).drewN q
  have hb1 := hTq.below (Nat.le_refl _) (by simp)
  have DLs := Lib.hid (implDotLines_any p l cap ae fe ue (w.drewN q) (HD.out.drewN q) (by have := HLN.out; omega) ⟨⟨HE.out.e2.eof.keep hb1, HE.out.e2.full.keep hb1, HE.out.e2.ne⟩, HE.out.cut.keep hb1, HE.out.neu⟩)
  have HTq := Lib.hid hTq
  clear hor hts hTq hb1 SD
  go_wp2_with fail
  go_at_call 34
  (with_reducible refine DLs.out.mono ?_)
  rintro e w5 ⟨v, p2, cap2, n, kd, out, ok, rfl, hT5, hO5, hp2, hdl, hk⟩
  have HT5 : Hid (Turned [] w w5) := HTq.out.trans hT5
  rcases HO.out with ⟨rfl, ls, h1, h2, h3⟩ | ⟨rfl, ls, t, h1, h2, h3⟩ | rfl
  · have hts2 : text.size ≤ l.length := by
      have h5 := HTS.out
      rwa [size_mk] at h5
    rw [lst_mk] at h2
    have hdl2 := hdl
    rw [h2] at hdl2
    obtain ⟨g1, g2, g3⟩ := dl_good (lst rest) ls h1 hdl2
    rw [← h2] at g2
    subst g1 g3
    obtain rfl : kd = 0 := by simpa using hk
    have hr : rest = ⟨(l.drop n).toArray⟩ := lst_inj (by rw [g2]; rfl)
    have hcl : ∀ x, x ∈ ls.map unstuff → Clean x := fun x hx => by
      obtain ⟨y, hy, rfl⟩ := List.mem_map.1 hx
      exact clean_unstuff (h1 y hy).1
    have h13 : ∀ c, c ∈ lst text → c ≠ 13 := by
      rw [h3]
      generalize ls.map unstuff = zs at hcl
      intro c hc
      induction zs with
      | nil => cases hc
      | cons z zs ih =>
        rcases List.mem_append.1 (show c ∈ z ++ 10 :: lfs zs from hc) with h5 | h5
        · exact (hcl z List.mem_cons_self c h5).1
        · rcases List.mem_cons.1 h5 with h6 | h6
          · rw [h6]; decide
          · exact ih (fun x hx => hcl x (List.mem_cons_of_mem _ hx)) h6
    have LA := Lib.hid (lines_any text w5 (by have := HLN.out; omega) h13)
    have HFull : Hid (∀ full last, Ln (lst text) full last → full ++ tl last = ls.map unstuff) := fun full last hl => by
      obtain ⟨a1, a2⟩ := ln_lines last (ls.map unstuff) full hcl hl.cl hl.ll (by rw [← h3]; exact hl.eq)
      rw [a1, a2]; simp [tl]
    have hlen : (ls.map unstuff).length ≤ 2147483647 := by
      have a1 := lfs_len (ls.map unstuff)
      rw [← h3, lst_length] at a1
      have := HLN.out; omega
    obtain ⟨zs, hz⟩ : ∃ zs, zs = ls.map unstuff := ⟨_, rfl⟩
    rw [← hz] at hO5 HFull hlen
    have HO5 := Lib.hid hO5
    have HP2 := Lib.hid hp2.dataAt
    clear hO5 hp2 hdl hT5 DLs HO hdl2 h1 h2 h3 g2 hk hcl h13 hz hs
    subst hr
    go_wp2_with fail
    go_at_call 36
    (with_reducible refine LA.out.mono ?_)
    rintro e w6 ⟨v2, full, last, rfl, hT6, hln, hO6⟩
    rw [HFull.out full last hln] at hO6
    have hO56 := own_keepS HO5.out hT6 (by simp)
    obtain ⟨vp, vc, rfl, hl1⟩ := lines_own hO56
    obtain ⟨vq, vd, rfl, hl2⟩ := lines_own hO6
    have SL := Lib.hid (sameLines_any vp vq vc vd zs w6 hl1 hl2 hlen)
    have HT6 : Hid (Turned [] w w6) := HT5.out.trans hT6
    have cv := fun q => string_of_rowP ((HP2.out.keep hT6).drewN q).rowP cap2
    simp only [List.length_drop] at cv
    clear hO6 hO56 hl1 hl2 hln hT6 LA
    go_wp2_with fail
    go_at_call 35
    (with_reducible refine SL.out.mono ?_)
    rintro e w7 ⟨rfl, q7, rfl⟩
    have cv7 := cv q7
    go_wp2_with fail
    go_ret
    exact ⟨ret_bool (by simp), HT6.out.drewN _⟩
  · rw [lst_mk] at h3
    have hdl2 := hdl
    rw [h3] at hdl2
    have hb := dl_bad t h2 ls h1 hdl2
    rcases hk with ⟨rfl, rfl⟩ | ⟨rfl, rfl⟩
    · obtain rfl : t = [46] := hb.resolve_left (by simp)
      have hpos : 0 < l.length := by rw [h3]; simp
      have hlast : l[l.length - 1]? = some 46 := by rw [h3]; simp
      rcases HD.out with h0 | ⟨b, off, rfl, hbl, hrow⟩
      · rw [h0] at hpos; exact absurd hpos (by decide)
      have c5 : w5.cell? ⟨b, off + (l.length - 1), none⟩ = some (.int .u8 46) := (hrow.of_block (HT5.out.block b hbl (by simp))) (l.length - 1) 46 hlast
      have e1 : IntKind.i64.wrap ((l.length : Int) - 1) = (l.length : Int) - 1 := IntWalk.i64_in _ (by omega)
      have d0 : (0 : Int) ≤ (l.length : Int) - 1 := by omega
      have d1 : (l.length : Int) - 1 < (l.length : Int) := by omega
      have d2 : ((l.length : Int) - 1).toNat = l.length - 1 := by omega
      have d3 : (0 : Int) < (l.length : Int) := by omega
      clear hO5 hp2 hdl hT5 DLs HO hdl2 hb h1 h2 h3 hlast hrow hbl hs
      go_wp2_with fail
      go_ret
      exact ⟨rfl, HT5.out⟩
    · clear hO5 hp2 hdl hT5 DLs HO hdl2 hb h1 h2 h3
      go_wp2_with fail
      go_ret
      exact ⟨rfl, HT5.out⟩
  · clear hO5 hp2 hdl hk hT5 DLs HO
    go_wp2_with fail
    go_ret
    exact ⟨rfl, HT5.out⟩
end Go.Proofs.YthobojpbdeepoaaDoor
