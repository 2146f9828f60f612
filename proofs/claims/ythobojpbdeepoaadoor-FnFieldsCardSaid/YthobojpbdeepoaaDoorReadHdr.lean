/-
  The contract of readMIMEHeader, at data that begins with no blank.
-/
import Derived.Test.YthobojpbdeepoaaDoorHdrRel
import Derived.Test.YthobojpbdeepoaaDoorTrimL
import Derived.Test.YthobojpbdeepoaaDoorFnLineWalk
import Derived.Deep.DeepCutAuto
import Derived.Deep.CutBlock
import Derived.OwnWalk
import Derived.Lib.SliceRun
import Derived.BigQuiet
import Derived.Deep.QuietTactic
namespace Go.Proofs.YthobojpbdeepoaaDoor
open Go.RowKit Go.ChangeMaps Go.MapKept Go.WideShapes

set_option maxRecDepth 100000 in
theorem strs_one (a : Addr) (n c : Nat) (hc : 1 ≤ c) (W : World) : (Instr.slice 29 (.slice (some a) n c) none (some (.int .i64 1)) (some (.int .i64 1))).run Tryd.prog W = .ok (.slice (some a) 1 1) W := by
  rw [run_slice_hm (P := Tryd.prog) (t := 29) (ht := by kernel_rfl) (kh := .i64) (km := .i64) (h := 1) (m := 1) (h0 := by omega) (h2 := by omega) (h3 := by omega)]
  rfl
set_option maxRecDepth 100000 in
theorem strs_from (b off r : Nat) : ∃ q : Option Addr, (∀ W, (Instr.slice 29 (.slice (some ⟨b, off, none⟩) (r + 1) (r + 1)) (some (.int .i64 1)) none none).run Tryd.prog W = .ok (.slice q r r) W) ∧ (0 < r → q = some ⟨b, off + 1, none⟩) := by
  refine ⟨if r = 0 then some ⟨b, off, none⟩ else some ⟨b, off + 1, none⟩, fun W => ?_, fun h => by rw [if_neg (by omega)]⟩
  rw [run_slice_l (P := Tryd.prog) (t := 29) (ht := by kernel_rfl) (kl := .i64) (l := 1) (h0 := by omega) (h1 := by omega)]
  by_cases h0 : r = 0
  · subst h0
    simp [go_sem]
  · simp [go_sem, Addr.add, h0]
set_option maxRecDepth 100000 in
set_option maxHeartbeats 8000000 in
theorem readHdr_any (k : RK) (s : RS) (w : World) (fe : Addr) (T bT : Nat) (v : Value) (xs : List UInt8) (hfe : k.ae ≠ fe) (h : Rd w k s) (hT : Tb w k T bT v xs) (hF : Sent w k.K 6 fe)
    (hd : k.d.length ≤ 1000000) (hhead : ∀ c, (k.d.drop s.pos)[0]? = some c → blB c = false) :
    Calls Tryd.prog 87 #[.pointer (some ⟨T, 0, none⟩), .int .i64 9223372036854775807, .int .i64 9223372036854775807] w (RHPost k s w T v) := by
  have UP := upcoming_any k s w T h hT.tp
  obtain ⟨j0, hj, hy0, hy1, hy2⟩ := info_parts str_row
  go_enter Tryd.func87, Tryd.ntmps87
  go_wp2_with fail
  go_at_call 102
  refine UP.mono ?_
  rintro e w1 ⟨n, s1, hn, hR1, hT1, hp1, rfl⟩
  have hTb1 := hT.keep h hT1
  have hS1 : Turned (contBlocks k T v) w w1 := hT1.mono (fun x hx => List.mem_cons_of_mem _ (List.mem_append_left _ hx))
  clear UP
  go_upto_if 31 with (fail)
  go_cut [8, 9] (fun u8 u9 wc => u9 = .int .i64 (n : Int) ∧ Turned [] w1 wc ∧ SRow wc w1.heap.size n u8)
  case first =>
    by_cases h0 : n = 0
    · subst h0
      go_wp2_with fail
      go_meet
      exact ⟨rfl, Turned.refl _ _, none, rfl, fun h => absurd h (by omega)⟩
    · have b1 : (0 : Int) < (n : Int) := by omega
      have b2 : ¬ (1000 : Int) < (n : Int) := by omega
      have hn2 : n ≤ 1000 := hn
      clear h hT hT1 hTb1 hS1 hR1
      go_wp2_with (at_make; refine wpList_make_full _ rfl (.tmp 34) (.tmp 34) 29 rfl 0 9 j0 (.string ⟨#[]⟩) 1 Tryd.underlying29 hj hy0 hy1 .i64 .i64 (n : Int) (n : Int) n rfl rfl rfl rfl (by rw [hy2]; omega) (by unfold maxLen; omega) (Nat.zero_le _) ?_; intro wm hown hgrow; refine Hid.out ?_)
      refine Lib.hid ?_
      have HF : Hid (Turned [] w1 wm ∧ SRow wm w1.heap.size n (.slice (some ⟨w1.heap.size, 0, none⟩) n n)) := by
        refine ⟨(Turned.refl [] w1).grown hgrow (fun x hx => by cases hx), some ⟨w1.heap.size, 0, none⟩, rfl, fun _ => ⟨rfl, ?_⟩⟩
        rcases hown.2 with ⟨h1, _⟩ | ⟨g, cap, cur, h1, _, h2, _, _, h3, _⟩
        · cases h1
        · injection h1 with e1 e2 e3
          injection e1 with e1
          injection e1 with e1
          subst e1 e3
          exact ⟨cur, h2, by simpa using h3⟩
      clear hown hgrow
      go_wp2_with fail
      go_meet
      exact ⟨rfl, HF.out⟩
  case rest =>
    obtain ⟨rfl, hT2, hSR⟩ := hcut
    have hR2 := hR1.keepNew hT2
    have hTb2 := hTb1.keepNew hT2
    have hS2 := hS1.trans (hT2.mono (by simp))
    have hmm := makeMap_hint (n : Int)
    obtain ⟨W, hW⟩ : ∃ W, W = wc.alloc (.map #[] 0) := ⟨_, rfl⟩
    have hTW : Turned [] wc W := by rw [hW]; exact (Turned.refl [] wc).alloc _
    have hRW := hR2.keepNew hTW
    have hTbW := hTb2.keepNew hTW
    have PK := peek_any k s1 W 1 hRW (by decide) (by decide)
    obtain ⟨_, c2, f2⟩ := hTbW.cells
    have cT := hTbW.cells.1
    rw [hW] at cT PK
    have HW := Lib.hid hW
    go_wp2_with fail
    go_at_call 98
    refine PK.mono ?_
    rintro e w5 ⟨s5, p5, m5, cap5, er5, hR5, hT5, hp5, rfl, hm5, hmc5, hpa5, hor5⟩
    rw [← HW.out] at hT5
    have HH : Hid (∀ c, (k.d.drop s.pos)[0]? = some c → blB c = false) := hhead
    have hlow : ∀ x, x ∈ T :: k.blocks → x < w1.heap.size ∧ x < wc.heap.size := by
      intro x hx
      have h1 := hT.bb
      have h2 := hT.cb
      have h3 := hT.yb
      have h4 := hT.lt
      have h5 := hT.size
      have h6 := hT1.size
      have h7 := hT2.size
      simp [RK.blocks] at hx
      rcases hx with rfl | rfl | rfl | rfl <;> omega
    have HLR : Hid (LR k s w T bT v w1.heap.size wc.heap.size w1.heap.size (.int .i64 9223372036854775807) (.int .i64 9223372036854775807) u8 (k.d.length - s.pos) w5) := by
      obtain ⟨q, hu8, hq⟩ := hSR
      have hHS : HS W w1.heap.size wc.heap.size 0 (.map []) [] [] w1.heap.size 0 n v := by
        refine ⟨?_, fun h0 => ?_, fun g hg => ?_⟩
        · rw [HW.out]; exact HM.made wc _
        · obtain ⟨_, cur, h1, h2⟩ := hq h0
          have hlt := (Array.getElem?_eq_some_iff.1 h1).1
          refine ⟨⟨cur, (hTW.block _ hlt (by simp)).trans h1, by omega⟩, Nat.le_refl _, by simp, by omega, fun x g off m c hx => ?_⟩
          rw [look_empty] at hx
          cases hx
        · have h1 := (own_ge hT.own hg).2
          have h2 := hT1.size
          have h3 := hT2.size
          refine ⟨by omega, by simp, fun x hx => ?_, fun _ => by omega⟩
          rw [look_empty] at hx
          cases hx
      refine ⟨_, s5, v, xs, 0, _, [], [], 0, n, q, rfl, by omega, by omega, by simp, hu8, fun h0 => (hq h0).1, hR5, hTbW.keep hRW hT5, hHS.keepS hT5 (fun hx => ?_) (fun x g hg => ?_) (fun _ hx => ?_), (hS2.trans (hTW.mono (by simp))).trans (hT5.mono (fun x hx => List.mem_cons_of_mem _ (List.mem_append_left _ hx))), .inl rfl, Sorted.nil, rfl, by omega, by rw [hp5, hp1]; exact Nat.le_refl _, fun qs r hg => ⟨[], rfl, by rw [hp5, hp1]; exact hg⟩, fun hb => by rw [hp5, hp1]; exact hb⟩
      · have := (hlow _ (List.mem_cons_of_mem _ hx)).2; omega
      · rw [look_empty] at hg; cases hg
      · have := (hlow _ (List.mem_cons_of_mem _ hx)).1; omega
    have HLOW := Lib.hid hlow
    have HSZ : Hid (w.heap.size ≤ w1.heap.size ∧ w1.heap.size ≤ wc.heap.size) := ⟨hT1.size, hT2.size⟩
    obtain ⟨B, hB⟩ : ∃ B, B = wc.heap.size := ⟨_, rfl⟩
    obtain ⟨SB, hSB⟩ : ∃ B, B = w1.heap.size := ⟨_, rfl⟩
    rw [← hB, ← hSB] at HLR HLOW HSZ
    rw [← hB]
    clear hB hSB
    go_upto_region 11 with fail
    go_cut [59] (fun u59 wd => u59 = .bool false ∧ wd = w5)
    case first =>
      rcases hor5 with ⟨hm1, rfl⟩ | ⟨hm0, _, rfl⟩
      · subst hm1
        have hpa := hpa5 (by decide)
        subst hpa
        have hpl := hR5.pos_le
        have hil := hR5.il
        obtain ⟨c, hc⟩ : ∃ c, k.d[s5.pos]? = some c := ⟨_, List.getElem?_eq_getElem (by omega)⟩
        have hcell : w5.cell? ⟨k.C, s5.r, none⟩ = some (.int .u8 (c.toNat : Int)) := by
          have h1 := hR5.buf 0 c (by omega) (by rw [Nat.add_zero]; exact hc)
          rw [hR5.cb.cell]
          simpa using h1
        have hnb := HH.out c (by rw [List.getElem?_drop, Nat.add_zero, ← hp1, ← hp5]; exact hc)
        have t32 : ((c.toNat : Int) == 32) = false := by
          cases h1 : ((c.toNat : Int) == 32)
          · rfl
          · unfold blB blI at hnb; rw [h1] at hnb; simp at hnb
        have t9 : ((c.toNat : Int) == 9) = false := by
          cases h1 : ((c.toNat : Int) == 9)
          · rfl
          · unfold blB blI at hnb; rw [h1] at hnb; simp at hnb
        clear h hT hF hT1 hTb1 hS1 hR1 hT2 hSR hR2 hTb2 hS2 hRW hTbW hTW PK cT c2 f2 hR5 hT5 hnb hc hlow hhead
        go_wp2_with fail
        go_meet
        exact ⟨rfl, rfl⟩
      · clear h hT hF hT1 hTb1 hS1 hR1 hT2 hSR hR2 hTb2 hS2 hRW hTbW hTW PK cT c2 f2 hR5 hT5 hlow hhead
        go_wp2_with fail
        go_meet
        exact ⟨rfl, rfl⟩
    case rest =>
      obtain ⟨rfl, rfl⟩ := hcut
      have HF0 : Hid (Sent w k.K 6 fe ∧ Rd w k s ∧ Tb w k T bT v xs) := ⟨hF, h, hT⟩
      clear h hT hF hT1 hTb1 hS1 hR1 hT2 hSR hR2 hTb2 hS2 hRW hTbW hTW PK cT c2 f2 hR5 hT5 hlow hhead hor5 HW hW hmm hp1 hp5
      go_wp2_with fail
      go_loopg [1, 2, 8] (k.d.length - s.pos) (fun g u1 u2 u8 wr => LR k s w T bT v SB B SB u1 u2 u8 g wr)
      case atStart => exact HLR.out
      case round =>
        clear HLR
        obtain ⟨mm, s2, v2, xs2, m, D, all, L, used, rem, q, rfl, hm1, hm2, hu2, rfl, hq, hR, hTb, hHS, hTu, hOB, hsrt, hall, hpos, hg, hHG, hHB⟩ := hrel
        obtain ⟨mh, hmh⟩ : ∃ x : Int, x = 9223372036854775807 - (m : Int) := ⟨_, rfl⟩
        rw [← hmh] at hu2
        subst hu2
        obtain ⟨G, hG⟩ : ∃ G, G = gk := ⟨_, rfl⟩
        have hil := hR.il
        have hpl := hR.pos_le
        have hmle : m ≤ 1000000 := by omega
        have hF2 : Sent wr k.K 6 fe := sent_keep HF0.out.1 HF0.out.2.1 HF0.out.2.2 hTu
        have RC := readCont_gen k s2 wr fe T bT v2 xs2 mm (.inr ⟨by omega, hm2⟩) hfe hR hTb hF2 103 erCol erCol_or call_colon (fun b off cap l W hr => mustColon_any b off cap l W hr)
        have HST : Hid (Rd wr k s2 ∧ Tb wr k T bT v2 xs2 ∧ HS wr SB B m D all L SB used rem v2 ∧ Turned (contBlocks k T v) w wr ∧ OB w v v2) := ⟨hR, hTb, hHS, hTu, hOB⟩
        have HNUM : Hid (9223372036854775807 - 3000000 * (m : Int) ≤ mm ∧ mm ≤ 9223372036854775807 ∧ m ≤ 1000000 ∧ m + s.pos ≤ s2.pos ∧ k.d.length - s2.pos ≤ G ∧ k.d.length ≤ 1000000 ∧ s2.pos ≤ k.d.length ∧ all.length = m ∧ mh = 9223372036854775807 - (m : Int) ∧ G = gk) := ⟨hm1, hm2, hmle, hpos, by omega, hd, by omega, hall, hmh, hG⟩
        have HQ := Lib.hid hq
        have HSRT := Lib.hid hsrt
        have HHG := Lib.hid hHG
        have HHB := Lib.hid hHB
        clear hm1 hm2 hq hR hTb hHS hTu hOB hsrt hall hpos hg hHG hHB hil hpl hF2 hmle hmh hG
        go_wp2_with fail
        go_at_call 85
        refine RC.mono ?_
        rintro e w3 ⟨s3, v3, xs3, res, hR3, hTb3, hTu3, hOB3, hCS, hor⟩
        clear RC
        have hHS3 := HST.out.2.2.1.reader hTu3 hOB3 HLOW.out
        have hTuw := HST.out.2.2.2.1.join hTu3 (fun x hx => by
          simp only [contBlocks, List.mem_cons, List.mem_append] at hx
          rcases hx with rfl | hx | hx
          · exact .inl (by simp [contBlocks])
          · exact .inl (by simp only [contBlocks, List.mem_cons, List.mem_append]; exact .inr (.inl hx))
          · rcases HST.out.2.2.2.2 with e | ⟨g, e, hg⟩
            · rw [e] at hx
              exact .inl (by simp only [contBlocks, List.mem_cons, List.mem_append]; exact .inr (.inr hx))
            · rw [e] at hx
              simp at hx
              exact .inr (by omega))
        -- how a round ends the reading
        have HEND : Hid (∀ w6 s6 all6 err n6 D6 L6 SB6 u6 r6 v6, Rd w6 k s6 → Tp w6 k T → HS w6 SB B n6 D6 all6 L6 SB6 u6 r6 v6 → Turned (contBlocks k T v) w w6 → Sorted all6 → all6.length ≤ k.d.length →
            (err = .nilIface ∨ err = errAt k.ae ∨ ∃ t, err = .iface 125 (.string t)) →
            (∀ qs r, HG (k.d.drop s.pos) [] qs r → err = .nilIface ∧ all6 = allOf qs ∧ r = k.d.drop s6.pos) → (HB (k.d.drop s.pos) → err ≠ .nilIface) → RHPost k s w T v (.returned (.tuple #[.map (some B), err])) w6) :=
          fun w6 s6 all6 err n6 D6 L6 SB6 u6 r6 v6 a1 a2 a3 a4 a5 a6 a7 a8 a9 => ⟨s6, all6, err, B, SB, n6, D6, L6, rfl, a1, a2, a3.hm, a5, a6, a4, a7, a8, a9⟩
        rcases hor with ⟨hres, rfl⟩ | ⟨l, hres, hl, rfl⟩ | ⟨t, p, cap, hres, rfl, htc, hcm, htl, hpl, hpp⟩
        · have HF : Hid (RHPost k s w T v (.returned (.tuple #[.map (some B), errAt k.ae])) w3) := by
            refine HEND.out w3 s3 all _ _ _ _ _ _ _ _ hR3 hTb3.tp hHS3 hTuw HSRT.out (by have := HNUM.out; omega) (.inr (.inl rfl)) (fun qs r hg => ?_) (fun _ e => by cases e)
            obtain ⟨ps, _, hg2⟩ := HHG.out qs r hg
            rcases hg2.read hCS with ⟨e, _⟩ | ⟨_, _, _, _, _, _, e, _⟩
            · rw [hres] at e; cases e
            · rw [hres] at e; cases e
          clear hR3 hTb3 hTu3 hOB3 hCS hHS3 hTuw HEND hres
          go_wp2_with fail
          go_ret2
          exact HF.out
        · have hel : erCol l = .iface 125 (.string erMsg) := by
            unfold erCol at hl ⊢
            split at hl
            · exact absurd rfl hl
            · rename_i hm; rw [if_neg hm]
          have HF : Hid (RHPost k s w T v (.returned (.tuple #[.map (some B), erCol l])) w3) := by
            refine HEND.out w3 s3 all _ _ _ _ _ _ _ _ hR3 hTb3.tp hHS3 hTuw HSRT.out (by have := HNUM.out; omega) (.inr (.inr ⟨_, hel⟩)) (fun qs r hg => ?_) (fun _ e => hl e)
            obtain ⟨ps, _, hg2⟩ := HHG.out qs r hg
            rcases hg2.read hCS with ⟨e, _⟩ | ⟨_, _, _, _, _, _, e, _⟩
            · rw [hres] at e; cases e
            · rw [hres] at e; cases e
          rw [hel] at HF
          clear hR3 hTb3 hTu3 hOB3 hCS hHS3 hTuw HEND hres hl
          rw [hel]
          clear hel
          go_wp2_with fail
          go_ret2
          exact HF.out
        · subst hres
          by_cases ht0 : t = []
          · subst ht0
            have HF : Hid (RHPost k s w T v (.returned (.tuple #[.map (some B), .nilIface])) w3) := by
              refine HEND.out w3 s3 all _ _ _ _ _ _ _ _ hR3 hTb3.tp hHS3 hTuw HSRT.out (by have := HNUM.out; omega) (.inl rfl) (fun qs r hg => ?_) (fun hb => ?_)
              · obtain ⟨ps, e1, hg2⟩ := HHG.out qs r hg
                rcases hg2.read hCS with ⟨e, e2⟩ | ⟨_, _, _, _, _, hgr, e, _⟩
                · injection e with _ e3
                  exact ⟨rfl, by rw [e1, e2], e3.symm⟩
                · injection e with e3
                  exact absurd e3.symm hgr.tne
              · rcases (HHB.out hb).read hCS with e | e | ⟨_, _, _, _, _, hgr, e, _⟩
                · cases e
                · cases e
                · injection e with e3
                  exact absurd e3.symm hgr.tne
            clear hR3 hTb3 hTu3 hOB3 hCS hHS3 hTuw HEND hpl htc htl
            go_wp2_with fail
            go_ret2
            exact HF.out
          · have hpos : 0 < t.length := List.length_pos_iff.2 ht0
            rcases hpl with hz | ⟨b', off, rfl, hrow, hfree, hplace⟩
            · exact absurd hz ht0
            have HLN : Hid (s2.pos < s3.pos ∧ s3.pos ≤ k.d.length ∧ t.length ≤ 1000000) := ⟨hpp ht0, by have := hR3.pos_le; have := hR3.il; omega, by have := HNUM.out; omega⟩
            have HBAD : Hid (∀ w6 s6 v6 xs6, Rd w6 k s6 → Tb w6 k T bT v6 xs6 → HS w6 SB B m D all L SB used rem v6 → Turned (contBlocks k T v) w w6 → (∀ j kk vv, ¬ Grp (k.d.drop s2.pos) j t (k.d.drop s3.pos) kk vv) → ∀ tx, RHPost k s w T v (.returned (.tuple #[.map (some B), .iface 125 (.string tx)])) w6) :=
              fun w6 s6 v6 xs6 a1 a2 a3 a4 a5 tx => HEND.out w6 s6 all _ m D L SB used rem v6 a1 a2.tp a3 a4 HSRT.out (by have := HNUM.out; omega) (.inr (.inr ⟨tx, rfl⟩)) (fun qs r hg => by
                obtain ⟨ps, _, hg2⟩ := HHG.out qs r hg
                obtain ⟨j, kk, vv, hgr, _⟩ := hg2.one hCS ht0
                exact absurd hgr (a5 _ _ _)) (fun _ e => by cases e)
            obtain ⟨x0, hx0⟩ : ∃ x, t[0]? = some x := ⟨_, List.getElem?_eq_getElem hpos⟩
            have hblt : b' < w3.heap.size := World.block_lt_of_cell? _ _ (hrow 0 x0 hx0)
            have hT34 : Turned [] w3 (w3.alloc (.cells #[.int .u8 58] 5 (1, 2))) := (Turned.refl [] w3).alloc _
            have hsep : (w3.alloc (.cells #[.int .u8 58] 5 (1, 2))).cell? ⟨w3.heap.size, 0, none⟩ = some (.int .u8 ((58 : UInt8).toNat : Int)) := World.cell?_alloc_mark w3 #[.int .u8 58] 5 (1, 2) 0
            have BC := bytesCut_any b' off cap w3.heap.size 1 t 58 _ (hrow.of_block (hT34.block b' hblt (by simp))) hsep htc (by have := HLN.out; omega)
            have hcv := conv_lit w3 (.int .u8 58)
            have HD : Hid (Rd w3 k s3 ∧ Tb w3 k T bT v3 xs3 ∧ HS w3 SB B m D all L SB used rem v3 ∧ Turned (contBlocks k T v) w w3 ∧ OB wr v2 v3 ∧ Row8 w3 b' off t ∧ Free8 w3 b' off t.length ∧ ((b' = k.C ∧ off + t.length ≤ s3.r) ∨ (wr.heap.size ≤ b' ∧ some b' ≠ v3.ownBlock) ∨ v3 = .slice (some ⟨b', off, none⟩) t.length cap) ∧ b' < w3.heap.size) :=
              ⟨hR3, hTb3, hHS3, hTuw, hOB3, hrow, hfree, hplace.imp id (Or.imp (fun h => ⟨h.1, h.2.2⟩) id), hblt⟩
            have HCS := Lib.hid hCS
            have HT34 := Lib.hid hT34
            have HCM : Hid (t.length ≤ cap ∧ cap ≤ 9223372036854775807) := ⟨htc, hcm⟩
            clear hR3 hTb3 hTu3 hOB3 hCS hHS3 hTuw HEND hrow hfree hplace hblt hT34 hsep hx0 htc hcm htl hpp
            go_wp2_with fail
            go_at_call 104
            refine BC.mono ?_
            rintro e w5 ⟨⟨n5, hw5⟩, hor⟩
            have hT35 : Turned [] w3 w5 := by rw [hw5]; exact HT34.out.drewN n5
            clear hw5 BC hcv HT34
            have HD5 : Hid (Rd w5 k s3 ∧ Tb w5 k T bT v3 xs3 ∧ HS w5 SB B m D all L SB used rem v3 ∧ Turned (contBlocks k T v) w w5 ∧ Row8 w5 b' off t ∧ Free8 w5 b' off t.length) := by
              obtain ⟨q1, q2, q3, q4, _, q6, q7, _, q9⟩ := HD.out
              have q10 := hT35.block b' q9 (by simp)
              exact ⟨q1.keepNew hT35, q2.keepNew hT35, q3.keepNew hT35, q4.trans (hT35.mono (by simp)), q6.of_block q10, q7.of_block q10⟩
            clear hT35
            rcases hor with ⟨i, qa, hi, hno, rfl, hqa⟩ | ⟨hno, rfl⟩
            rotate_left
            · have HF := Lib.hid (fun tx => HBAD.out w5 s3 v3 xs3 HD5.out.1 HD5.out.2.1 HD5.out.2.2.1 HD5.out.2.2.2.1 (fun j kk vv hgr => hgr.has hno) tx)
              clear hno HD5 HD HBAD
              go_wp2_with fail
              go_ret2
              exact HF.out _
            · have hit := (List.getElem?_eq_some_iff.1 hi).1
              have hkl : (t.take i).length = i := by rw [List.length_take]; omega
              have CK := canonKey_row b' off cap (t.take i) w5 (HD5.out.2.2.2.2.1.take i) (fun j hj => HD5.out.2.2.2.2.2 j (by omega)) (by have := HLN.out; omega)
              have hcl := canRes_len (t.take i)
              have HKS := Lib.hid (fun w6 hw hc => key_stage (w6 := w6) HST.out.1 HST.out.2.1 HST.out.2.2.1 HST.out.2.2.2.1 HST.out.2.2.2.2 HD5.out.1 HD5.out.2.1 HD5.out.2.2.1 HD5.out.2.2.2.1 HD.out.2.2.2.2.1 HLOW.out HD5.out.2.2.2.2.1 HD.out.2.2.2.2.2.2.2.1 (i := i) hw (by omega) (c' := (canRes (t.take i)).1) hc (by rw [hcl, hkl]))
              rw [hkl] at CK
              rw [hkl] at hcl
              obtain ⟨ky, kok, hcr⟩ : ∃ ky kok, canRes (t.take i) = (ky, kok) := ⟨_, _, rfl⟩
              rw [hcr] at CK hcl
              obtain ⟨vl, hvl⟩ : ∃ l, l = t.drop (i + 1) := ⟨_, rfl⟩
              have hvn : t.length - (i + 1) = vl.length := by rw [hvl, List.length_drop]
              obtain ⟨vc, hvc⟩ : ∃ c, c = cap - (i + 1) := ⟨_, rfl⟩
              rw [hvn, ← hvc]
              have HVC : Hid (vl.length ≤ vc ∧ vc ≤ 9223372036854775807 ∧ vl.length ≤ 1000000 ∧ ky.length ≤ 1000000) := by
                have h1 := HCM.out
                have h2 := HLN.out
                dsimp only at hcl
                exact ⟨by omega, by omega, by omega, by omega⟩
              have HKV : Hid (canRes (t.take i) = (ky, kok) ∧ vl = t.drop (i + 1) ∧ t[i]? = some 58 ∧ NoC t 58 i) := ⟨hcr, hvl, hi, hno⟩
              have HQA : Hid (∀ w6, Row8 w6 b' (off + i) (t.drop i) → RowP w6 (some qa) vl) := by
                intro w6 hr
                by_cases hz : vl = []
                · exact .inl hz
                · have h1 : 0 < vl.length := List.length_pos_iff.2 hz
                  refine .inr ⟨b', off + (i + 1), by rw [hqa (by omega)], ?_⟩
                  have h2 := hr.drop 1
                  rw [List.drop_drop] at h2
                  rw [hvl]
                  exact h2
              clear hcr hvl hi hno hqa hvn hvc hkl hcl hit HD5
              dsimp only at CK
              go_wp2_with fail
              go_at_call 105
              refine CK.mono ?_
              rintro e w6 ⟨rfl, hw6, hrow6⟩
              obtain ⟨s6, xs6, hR6, hp6, hTb6, hHS6, hTu6, hOB6, hrest⟩ := HKS.out w6 hw6 (by rw [HKV.out.1]; exact hrow6)
              have hrv := HQA.out w6 hrest
              clear CK HKS HQA hw6 hrow6 hrest HD
              cases kok
              · have HF := Lib.hid (fun tx => HBAD.out w6 s6 v3 xs6 hR6 hTb6 hHS6 hTu6 (fun j kk vv hgr => by
                  obtain ⟨_, e3, _⟩ := hgr.cut HKV.out.2.2.1 HKV.out.2.2.2
                  have h1 := HKV.out.1
                  rw [e3, hgr.canRes_] at h1
                  injection h1 with _ h1
                  cases h1) tx)
                clear hR6 hTb6 hHS6 hTu6 hOB6 hrv HBAD
                go_wp2_with fail
                go_ret2
                exact HF.out _
              · have HBV := Lib.hid (fun c (hc : c ∈ vl) (hb : valB (c.toNat : Int) = false) tx => HBAD.out w6 s6 v3 xs6 hR6 hTb6 hHS6 hTu6 (fun j kk vv hgr => by
                  obtain ⟨_, _, e4⟩ := hgr.cut HKV.out.2.2.1 HKV.out.2.2.2
                  rw [HKV.out.2.1, e4] at hc
                  rw [hgr.val c hc] at hb
                  cases hb) tx)
                have HD6 : Hid (Rd w6 k s6 ∧ s6.pos = s3.pos ∧ Tb w6 k T bT v3 xs6 ∧ HS w6 SB B m D all L SB used rem v3 ∧ Turned (contBlocks k T v) w w6 ∧ OB w v v3 ∧ RowP w6 (some qa) vl) := ⟨hR6, hp6, hTb6, hHS6, hTu6, hOB6, hrv⟩
                clear hR6 hp6 hTb6 hHS6 hTu6 hOB6 hrv HBAD
                go_wp2_with fail
                go_loopg [105] vl.length (fun g u wx => ∃ x : Nat, u = .int .i64 (x : Int) ∧ x ≤ vl.length ∧ w6 = wx ∧ vl.length - x ≤ g)
                case atStart => exact ⟨0, rfl, Nat.zero_le _, rfl, Nat.le_refl _⟩
                case round =>
                  obtain ⟨x, rfl, hx, rfl, hg⟩ := hrel
                  have HGI : Hid (vl.length - (x + 1) ≤ gk - 1 ∧ (x < vl.length → 0 < gk)) := ⟨by omega, fun _ => by omega⟩
                  have hvl6 : vl.length ≤ 1000000 := HVC.out.2.2.1
                  clear hg
                  by_cases hxl : x < vl.length
                  · obtain ⟨c, hc⟩ : ∃ c, vl[x]? = some c := ⟨_, List.getElem?_eq_getElem hxl⟩
                    rcases HD6.out.2.2.2.2.2.2 with hz | ⟨bv, ov, hqv, hrv⟩
                    · rw [hz] at hxl; exact absurd hxl (Nat.not_lt_zero _)
                    injection hqv with hqv
                    subst hqv
                    have hcell := hrv x c hc
                    have VV := vvalue_any (c.toNat : Int) w6 (by omega) (u8_le c)
                    have HCM2 := Lib.hid (List.mem_of_getElem? hc)
                    have e1 : IntKind.i64.wrap ((x : Int) + 1) = (x : Int) + 1 := IntWalk.i64_in _ (by omega)
                    clear hc hrv
                    cases hb : valB (c.toNat : Int)
                    · have HF := Lib.hid (HBV.out c HCM2.out hb)
                      rw [hb] at VV
                      clear hb
                      go_wp2_with fail
                      go_at_call 106
                      refine VV.mono ?_
                      rintro e w' ⟨rfl, rfl⟩
                      clear VV
                      go_wp2_with fail
                      go_ret2
                      exact HF.out _
                    · rw [hb] at VV
                      clear hb
                      go_wp2_with fail
                      go_at_call 106
                      refine VV.mono ?_
                      rintro e w' ⟨rfl, rfl⟩
                      clear VV
                      go_wp2_with fail
                      go_roundg (gk - 1)
                      case rel => exact ⟨x + 1, rfl, hxl, rfl, HGI.out.1⟩
                      case measure => exact Nat.sub_lt (HGI.out.2 hxl) Nat.one_pos
                  · obtain rfl : x = vl.length := by omega
                    clear HGI hvl6 HBV hx hxl
                    have TL := trimLeft_any (some qa) vc vl w6 HD6.out.2.2.2.2.2.2 HVC.out.1 HVC.out.2.1
                    have e1 : IntKind.i64.wrap (mh - 1) = mh - 1 := IntWalk.i64_in _ (by have := HNUM.out; omega)
                    have d1 : ¬ mh - 1 < 0 := by have := HNUM.out; omega
                    obtain ⟨tl, htl⟩ : ∃ l, l = trimL blB vl := ⟨_, rfl⟩
                    rw [← htl] at TL
                    have HTL : Hid (tl = trimL blB vl ∧ tl.length ≤ 1000000) := by
                      refine ⟨htl, ?_⟩
                      have h1 := HVC.out
                      have h2 : trimL blB vl <:+ vl := List.dropWhile_suffix _
                      have h3 := h2.length_le
                      rw [htl]
                      omega
                    clear htl
                    go_wp2_with fail
                    go_at_call 107
                    refine TL.mono ?_
                    rintro e w7 ⟨⟨q7, c7, rfl, hr7⟩, hb7⟩
                    have hT67 : Turned [] w6 w7 := Turned.of_below hb7
                    have hcv := string_of_rowP hr7 c7
                    clear TL hb7 hr7 e1 d1
                    have HD7 : Hid (Rd w7 k s6 ∧ Tb w7 k T bT v3 xs6 ∧ HS w7 SB B m D all L SB used rem v3 ∧ Turned (contBlocks k T v) w w7) :=
                      ⟨HD6.out.1.keepNew hT67, HD6.out.2.2.1.keepNew hT67, HD6.out.2.2.2.1.keepNew hT67, HD6.out.2.2.2.2.1.trans (hT67.mono (by simp))⟩
                    have HNX : Hid (∀ mm' : Int, mm - 3000000 ≤ mm' → mm' ≤ 9223372036854775807 → ∀ w8 D8 L8 used8 rem8 q8 S, Turned S w7 w8 → (∀ x, x ∈ S → w.heap.size ≤ x ∧ v3.ownBlock ≠ some x) → HS w8 SB B (m + 1) D8 (insF all (ky, tl)) L8 SB used8 rem8 v3 → (0 < rem8 → q8 = some ⟨SB, used8, none⟩) →
                        LR k s w T bT v SB B SB (.int .i64 mm') (.int .i64 (mh - 1)) (.slice q8 rem8 rem8) (G - 1) w8) := by
                      intro mm' hm1 hm2 w8 D8 L8 used8 rem8 q8 S hS1 hS2 hHS8 hq8
                      have hn := HNUM.out
                      have hbT := HF0.out.2.2.size
                      have h5 := lr_next (t := t) (j := i) (g := G) (s2 := s2) (mm' := mm') HD7.out.1 HD7.out.2.1 HD7.out.2.2.2 HD6.out.2.2.2.2.2.1 hS1 (fun x hx => ⟨Nat.le_trans hbT (hS2 x hx).1, (hS2 x hx).2⟩) (fun x hx => (hS2 x hx).1) (by rw [HKV.out.1, ← HKV.out.2.1, ← HTL.out.1]; exact hHS8) hq8 (by omega) hm2 HSRT.out hn.2.2.2.2.2.2.2.1 hn.2.2.2.1 (by rw [HD6.out.2.1]; exact HLN.out.1) hn.2.2.2.2.1 (by rw [HD6.out.2.1]; exact HLN.out.2.1) HHG.out HHB.out (by rw [HD6.out.2.1]; exact HCS.out) ht0 HKV.out.2.2.1 HKV.out.2.2.2
                      rw [hn.2.2.2.2.2.2.2.2.1]
                      exact h5
                    have hsz : (⟨ky.toArray⟩ : ByteArray).size ≤ maxLen := by
                      have := HVC.out
                      show ky.toArray.size ≤ _
                      unfold maxLen
                      simp
                      omega
                    have LK := HD7.out.2.2.1.hm.look_run Tryd.underlying113 (zero_strs w7) ⟨ky.toArray⟩ hsz
                    have hky := key_of ⟨ky.toArray⟩ hsz
                    rw [lst_mk] at LK hky
                    have HNM : Hid (m < maxLen ∧ (valsOf ky all).length + 1 ≤ 1048576 ∧ SB ≤ w7.heap.size ∧ w.heap.size ≤ SB ∧ w.heap.size ≤ B) := by
                      have h1 := HNUM.out
                      have h2 := HD7.out.2.2.1.hm.cnt ky
                      have h3 := HD7.out.2.2.1.hm.own.lt
                      have h4 := HSZ.out
                      refine ⟨by unfold maxLen; omega, by omega, by omega, h4.1, by omega⟩
                    clear hsz hT67
                    have bk : (ky.length : Int) ≤ 1000000 := by have := HVC.out; omega
                    have bt : (tl.length : Int) ≤ 1000000 := by have := HTL.out; omega
                    have bm : 9223369036854775807 ≤ mm ∧ mm ≤ 9223372036854775807 := by have := HNUM.out; omega
                    obtain ⟨bm1, bm2⟩ := bm
                    have hlk0 : ∃ p n c, look D ky = .slice p n c := (HD7.out.2.2.1.hm.sv ky).slice
                    have HAL : Hid (SB ≤ (w7.alloc (.cells #[.string ⟨tl.toArray⟩] 9)).heap.size) := by have := HNM.out; show _ ≤ _; simp; omega
                    have HSV : Hid (SV (w7.alloc (.cells #[.string ⟨tl.toArray⟩] 9)) SB (look D ky) (valsOf ky all)) := (HD7.out.2.2.1.hm.sv ky).turned ((Turned.refl [] w7).alloc _) (by simp)
                    have HO := Lib.hid (fun w8 => HD7.out.2.2.1.hm.own_room (w2 := w8) ((Turned.refl [] w7).alloc (.cells #[.string ⟨tl.toArray⟩] 9)) ky)
                    have HZ : Hid (∀ mm' : Int, mm - 3000000 ≤ mm' → mm' ≤ 9223372036854775807 → ∀ v8 w8 w9, SV w8 SB v8 (valsOf ky all ++ [tl]) → (w7.alloc (.cells #[.string ⟨tl.toArray⟩] 9)).grownBy w8 (roomOf (look D ky)) →
                        (v8.ownBlock = some (w7.alloc (.cells #[.string ⟨tl.toArray⟩] 9)).heap.size ∨ ∃ g, roomOf (look D ky) = some g ∧ v8.ownBlock = some g) → w9.ownsMap Tryd.prog 9 RSl B (m + 1) (D.put (kl ky) (.held v8)) → w8.grownBy w9 (some B) →
                        LR k s w T bT v SB B SB (.int .i64 mm') (.int .i64 (mh - 1)) (.slice q rem rem) (G - 1) w9) := by
                      intro mm' hm1 hm2 v8 w8 w9 hs8 hg8 hat8 hown9 hg9
                      obtain ⟨p1, p2⟩ := HD7.out.2.2.1.putApp (key := ky) (val := tl) ((Turned.refl [] w7).alloc (.cells #[.string ⟨tl.toArray⟩] 9)) hs8 hg8 hat8 hown9 hg9 (fun g hg => (own_ge HD7.out.2.1.own hg).2)
                      refine HNX.out mm' hm1 hm2 w9 _ _ used rem q (B :: L) p2 (fun x hx => ?_) p1 HQ.out
                      have h6 := HNM.out
                      rcases List.mem_cons.1 hx with rfl | hx
                      · exact ⟨h6.2.2.2.2, fun e => (HD7.out.2.2.1.bf _ e).1 rfl⟩
                      · have h7 := HD7.out.2.2.1.hm.ll x hx
                        exact ⟨by omega, fun e => (HD7.out.2.2.1.bf _ e).2.1 hx⟩
                    have hsv := HD7.out.2.2.1.hm.sv ky
                    rcases hsv with ⟨hlk, hn0⟩ | ⟨g, o, c, hlk, hn0⟩
                    · rw [hlk] at LK
                      have e3 : IntKind.i64.wrap (mm - (ky.length : Int)) = mm - (ky.length : Int) := IntWalk.i64_in _ (by omega)
                      have e4 : IntKind.i64.wrap (mm - (ky.length : Int) - 200) = mm - (ky.length : Int) - 200 := IntWalk.i64_in _ (by omega)
                      have e5 : IntKind.i64.wrap (mm - (ky.length : Int) - 200 - (tl.length : Int)) = mm - (ky.length : Int) - 200 - (tl.length : Int) := IntWalk.i64_in _ (by omega)
                      have d5 : ¬ mm - (ky.length : Int) - 200 - (tl.length : Int) < 0 := by omega
                      have Q0 := fun W => Lib.run_eql_slice_nil (P := Tryd.prog) W 29 9 none 0 0 0 0 Tryd.underlying29
                      cases rem with
                      | zero =>
                        rw [hlk] at HSV HO HZ
                        clear hn0 hlk
                        go_wp2_with (first
                          | (at_builtin; refine wpList_append_sv _ rfl (.tmp 161) (.tmp 163) 29 rfl SB j0 (.string ⟨#[]⟩) Tryd.underlying29 hj hy0 hy1 hy2 rfl _ (valsOf ky all) rfl HSV.out ⟨w7.heap.size, 0, none⟩ 1 tl rfl (cell_new _ _ _) HNM.out.2.1 HAL.out ?_; intro v8 w8 hs8 hg8 hat8; have HZZ := Lib.hid (fun w9 => HZ.out (mm - (ky.length : Int) - 200 - (tl.length : Int)) (by omega) (by omega) v8 w8 w9 hs8 hg8 hat8); have HOO := Lib.hid (HO.out w8 hg8); obtain ⟨p8, n8, c8, rfl⟩ := hs8.slice; clear hs8 hg8 hat8 HZ HO HSV LK)
                          | (at_mapUpdate; refine wpList_mapUpdate_own _ rfl _ _ _ 113 rfl _ _ keyed Tryd.underlying113 RSl B m D rfl HOO.out HNM.out.1 _ _ (kl ky) rfl rfl hky (.held _) [] rfl ?_; intro w9 hown9 hg9)
                          | go_in)
                        have HF := Lib.hid (HZZ.out w9 hown9 hg9)
                        clear HZZ HOO hown9 hg9
                        go_roundg (G - 1)
                        case rel => exact HF.out
                        case measure => have h1 := HNUM.out; have h2 := HLN.out; omega
                      | succ r =>
                        obtain rfl := HQ.out (Nat.succ_pos r)
                        obtain ⟨q', hq1, hq2⟩ := strs_from SB used r
                        have hq0 := strs_one ⟨SB, used, none⟩ (r + 1) (r + 1) (by omega)
                        obtain ⟨⟨cur, hc1, hc2⟩, hsb1, hsb2, hsb3, _⟩ := HD7.out.2.2.1.sb (Nat.succ_pos r)
                        obtain ⟨y, hy⟩ : ∃ y, cur[used]? = some y := ⟨_, Array.getElem?_eq_getElem (by omega)⟩
                        have hcell : ∀ q, (w7.drewN q).cell? ⟨SB, used, none⟩ = some y := fun q => by
                          show w7.cell? _ = _
                          rw [cell_of_row w7 SB used cur _ _ hc1]
                          exact hy
                        have hfrz : ∀ q, (w7.drewN q).frozen? ⟨SB, used, none⟩ = false := fun q => by
                          show w7.frozen? _ = _
                          simp [World.frozen?, hc1]
                        have HW : Hid (∀ q, ((w7.drewN q).setCell ⟨SB, used, none⟩ (.string ⟨tl.toArray⟩)).ownsMap Tryd.prog 9 RSl B m D) := fun q =>
                          (HD7.out.2.2.1.hm.drewN q).own.kept ((Wrote.refl SB used (used + 1) (w7.drewN q)).setCell (Nat.le_refl _) (Nat.lt_succ_self _) (.string ⟨tl.toArray⟩)).grown (fun e => by
                            injection e with e
                            first | exact hsb3 e | exact hsb3 e.symm)
                        have HZ2 : Hid (∀ q w8, w8.ownsMap Tryd.prog 9 RSl B (m + 1) (D.put (kl ky) (.held (.slice (some ⟨SB, used, none⟩) 1 1))) → ((w7.drewN q).setCell ⟨SB, used, none⟩ (.string ⟨tl.toArray⟩)).grownBy w8 (some B) →
                            LR k s w T bT v SB B SB (.int .i64 (mm - (ky.length : Int) - 200 - (tl.length : Int))) (.int .i64 (mh - 1)) (.slice q' r r) (G - 1) w8) := by
                          intro q w8 h2 hg2
                          obtain ⟨p1, p2⟩ := (HD7.out.2.2.1.keepNew ((Turned.refl [] w7).drewN q)).putRow (key := ky) (val := tl) hlk h2 hg2
                          refine HNX.out _ (by omega) (by omega) w8 _ L (used + 1) r q' [SB, B] (((Turned.refl _ w7).drewN q).trans p2) (fun x hx => ?_) p1 hq2
                          have h6 := HNM.out
                          simp only [List.mem_cons, List.not_mem_nil, or_false] at hx
                          rcases hx with rfl | rfl
                          · exact ⟨h6.2.2.2.1, fun e => (HD7.out.2.2.1.bf _ e).2.2.2 (Nat.succ_pos r) rfl⟩
                          · exact ⟨h6.2.2.2.2, fun e => (HD7.out.2.2.1.bf _ e).1 rfl⟩
                        have b0 : (0 : Int) < (r : Int) + 1 := by omega
                        clear hq2 hc1 hc2 hsb1 hsb2 hsb3 hy hn0 hlk HZ HO HSV
                        go_wp2_with fail
                        go_quiet (fail)
                        go_wp2_with (first
                          | (at_mapUpdate; refine wpList_mapUpdate_own _ rfl _ _ _ 113 rfl _ _ keyed Tryd.underlying113 RSl B m D rfl (HW.out _) HNM.out.1 _ _ (kl ky) rfl rfl hky (.held _) [] rfl ?_; intro w8 hown8 hg8)
                          | go_in)
                        have HF := Lib.hid (HZ2.out _ w8 hown8 hg8)
                        clear HZ2 HW hown8 hg8
                        go_roundg (G - 1)
                        case rel => exact HF.out
                        case measure => have h1 := HNUM.out; have h2 := HLN.out; omega
                    · have Q0 := fun W => Lib.run_eql_slice_nil (P := Tryd.prog) W 29 9 (some ⟨g, o, none⟩) (valsOf ky all).length c 0 0 Tryd.underlying29
                      have e3 : IntKind.i64.wrap (mm - (tl.length : Int)) = mm - (tl.length : Int) := IntWalk.i64_in _ (by omega)
                      have d5 : ¬ mm - (tl.length : Int) < 0 := by omega
                      rw [hlk] at HSV HO HZ LK
                      clear hn0 hlk
                      go_wp2_with (first
                        | (at_builtin; refine wpList_append_sv _ rfl (.tmp 161) (.tmp 163) 29 rfl SB j0 (.string ⟨#[]⟩) Tryd.underlying29 hj hy0 hy1 hy2 rfl _ (valsOf ky all) rfl HSV.out ⟨w7.heap.size, 0, none⟩ 1 tl rfl (cell_new _ _ _) HNM.out.2.1 HAL.out ?_; intro v8 w8 hs8 hg8 hat8; have HZZ := Lib.hid (fun w9 => HZ.out (mm - (tl.length : Int)) (by omega) (by omega) v8 w8 w9 hs8 hg8 hat8); have HOO := Lib.hid (HO.out w8 hg8); obtain ⟨p8, n8, c8, rfl⟩ := hs8.slice; clear hs8 hg8 hat8 HZ HO HSV LK)
                        | (at_mapUpdate; refine wpList_mapUpdate_own _ rfl _ _ _ 113 rfl _ _ keyed Tryd.underlying113 RSl B m D rfl HOO.out HNM.out.1 _ _ (kl ky) rfl rfl hky (.held _) [] rfl ?_; intro w9 hown9 hg9)
                        | go_in)
                      have HF := Lib.hid (HZZ.out w9 hown9 hg9)
                      clear HZZ HOO hown9 hg9
                      go_roundg (G - 1)
                      case rel => exact HF.out
                      case measure => have h1 := HNUM.out; have h2 := HLN.out; omega
end Go.Proofs.YthobojpbdeepoaaDoor
