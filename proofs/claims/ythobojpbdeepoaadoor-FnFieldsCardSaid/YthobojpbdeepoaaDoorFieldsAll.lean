/-
  The walk of laws.FnFields.
-/
import Derived.Test.YthobojpbdeepoaaDoorLineSlice
import Derived.Lib.SliceRun
import Derived.BigQuiet
import Derived.Deep.QuietTactic
import Derived.Test.YthobojpbdeepoaaDoorReadHdr
import Derived.Test.YthobojpbdeepoaaDoorIFields
import Derived.Test.YthobojpbdeepoaaDoorHdrText
import Derived.Test.YthobojpbdeepoaaDoorSpecInsert
import Derived.Test.YthobojpbdeepoaaDoorSpecCanon
import Derived.Test.YthobojpbdeepoaaDoorSpecLine
import Derived.Test.YthobojpbdeepoaaDoorContBuf
import Derived.Test.YthobojpbdeepoaaDoorHdrMem
import Derived.Deep.RegionHeld3
import Derived.Test.YthobojpbdeepoaaDoorSameSV
/- The contract of readLineSlice at a limit of 80 bytes. -/
namespace Go.Proofs.YthobojpbdeepoaaDoor
open Go.RowKit

/-- What it leaves: nothing is known of the line. -/
def LLPost (k : RK) (me : Addr) (w : World) (e : Ending) (w' : World) : Prop :=
  ∃ s' p n cap err, Rd w' k s' ∧ Turned k.blocks w w' ∧ e = .returned (.tuple #[.slice p n cap, err]) ∧ (err = .nilIface ∨ err = errAt k.ae ∨ err = errAt me)

set_option maxRecDepth 100000 in
set_option maxHeartbeats 4000000 in
theorem readLine80_any (k : RK) (s : RS) (w : World) (fe me : Addr) (T : Nat) (h : Rd w k s) (hF : Sent w k.K 6 fe) (hM : Sent w k.K 3 me) (hfe : k.ae ≠ fe) (hT : Tp w k T) :
    Calls Tryd.prog 84 #[.pointer (some ⟨T, 0, none⟩), .int .i64 80] w (LLPost k me w) := by
  have CD := closeDot_nil k T w hT
  have BL := bufLine_any k s w fe h hF hfe
  obtain ⟨buf, hTb⟩ := hT.blk
  have cT : w.cell? ⟨T, 0, none⟩ = some (.pointer (some ⟨k.B, 0, none⟩)) := by rw [hTb.cell]; rfl
  go_enter Tryd.func84, Tryd.ntmps84
  go_wp2_with fail
  go_at_call 82
  refine CD.mono ?_
  rintro e w1 ⟨rfl, rfl⟩
  clear CD hTb
  go_wp2_with fail
  go_loopg [6] 0 (fun _ v wr => v = .slice none 0 0 ∧ w = wr)
  case atStart => exact ⟨rfl, rfl⟩
  case round =>
    obtain ⟨rfl, rfl⟩ := hrel
    go_wp2_with fail
    go_at_call 95
    refine BL.mono ?_
    rintro e w1 ⟨s2, hR2, hT2, hor⟩
    rcases hor with ⟨rfl, hd, hp⟩ | ⟨off, l, cap, more, rfl, hcap, hcm, hrow, hfit, hor⟩
    · have HF : Hid (LLPost k me w (.returned (.tuple #[.slice none 0 0, errAt k.ae])) w1) := ⟨s2, _, _, _, _, hR2, hT2, rfl, .inr (.inl rfl)⟩
      clear BL hR2 hT2 h hF hT hM
      go_wp2_with fail
      go_ret2
      exact HF.out
    · have cM := (hM.keep (h.below hT2)).cell
      have e1 : IntKind.i64.wrap (l.length : Int) = (l.length : Int) := IntWalk.i64_in _ (by omega)
      by_cases h80 : 80 < l.length
      · have d1 : (80 : Int) < (l.length : Int) := by omega
        have HF : Hid (∀ q, LLPost k me w (.returned (.tuple #[.slice none 0 0, errAt me])) (w1.drewN q)) := fun q => ⟨s2, _, _, _, _, hR2.drewN q, hT2.drewN q, rfl, .inr (.inr rfl)⟩
        clear BL hR2 hT2 h hF hT hM hor hrow hfit h80
        go_wp2_with fail
        go_quiet (fail)
        go_wp2_with fail
        go_ret2
        exact HF.out _
      · have hmore : more = false := by
          rcases hor with ⟨e, _⟩ | ⟨e, _⟩ | ⟨_, m, h1, _, h3, _, rfl, _⟩
          · exact e
          · exact e
          · rw [List.length_take, List.length_drop] at h80
            omega
        subst hmore
        have d1 : ¬ (80 : Int) < (l.length : Int) := by omega
        have Q1 := fun W => Lib.run_eql_slice_nil (P := Tryd.prog) W 22 5 none 0 0 0 0 Tryd.underlying22
        have HF : Hid (LLPost k me w (.returned (.tuple #[.slice (some ⟨k.C, off, none⟩) l.length cap, .nilIface])) w1) := ⟨s2, _, _, _, _, hR2, hT2, rfl, .inl rfl⟩
        clear BL hR2 hT2 h hF hT hM hor hrow hfit h80
        go_wp2_with fail
        go_ret2
        exact HF.out
end Go.Proofs.YthobojpbdeepoaaDoor

/- readMIMEHeader, ReadMIMEHeader and impl.Fields at data that begins with a blank. -/
namespace Go.Proofs.YthobojpbdeepoaaDoor
open Go.RowKit Go.ChangeMaps Go.MapKept Go.WideShapes

/-- What readMIMEHeader answers there: an empty header and an error. -/
def RBPost (k : RK) (w : World) (T : Nat) (v : Value) (me : Addr) (e : Ending) (w' : World) : Prop :=
  ∃ s' err b base n D L, e = .returned (.tuple #[.map (some b), err]) ∧ Rd w' k s' ∧ Tp w' k T ∧ HM w' base b n D (fun x => valsOf x []) L ∧ Turned (contBlocks k T v) w w' ∧ (err = errAt k.ae ∨ err = errAt me ∨ ∃ t, err = .iface 125 (.string t))

set_option maxRecDepth 100000 in
set_option maxHeartbeats 8000000 in
theorem readHdr_blank (k : RK) (s : RS) (w : World) (fe me : Addr) (T bT : Nat) (v : Value) (xs : List UInt8) (hfe : k.ae ≠ fe) (h : Rd w k s) (hT : Tb w k T bT v xs) (hF : Sent w k.K 6 fe) (hM : Sent w k.K 3 me)
    (c : UInt8) (hc : (k.d.drop s.pos)[0]? = some c) (hb : blB c = true) :
    Calls Tryd.prog 87 #[.pointer (some ⟨T, 0, none⟩), .int .i64 9223372036854775807, .int .i64 9223372036854775807] w (RBPost k w T v me) := by
  have UP := upcoming_any k s w T h hT.tp
  obtain ⟨j0, hj, hy0, hy1, hy2⟩ := info_parts str_row
  go_enter Tryd.func87, Tryd.ntmps87
  go_wp2_with fail
  go_at_call 102
  refine UP.mono ?_
  rintro e w1 ⟨n, s1, hn, hR1, hT1, hp1, rfl⟩
  have hTb1 := hT.keep h hT1
  have hS1 : Turned (contBlocks k T v) w w1 := hT1.mono (fun x hx => List.mem_cons_of_mem _ (List.mem_append_left _ hx))
  clear UP
  go_upto_if 31 with (fail)
  go_cut [8, 9] (fun u8 u9 wc => u9 = .int .i64 (n : Int) ∧ Turned [] w1 wc ∧ SRow wc w1.heap.size n u8)
  case first =>
    by_cases h0 : n = 0
    · subst h0
      go_wp2_with fail
      go_meet
      exact ⟨rfl, Turned.refl _ _, none, rfl, fun h => absurd h (by omega)⟩
    · have b1 : (0 : Int) < (n : Int) := by omega
      have b2 : ¬ (1000 : Int) < (n : Int) := by omega
      have hn2 : n ≤ 1000 := hn
      clear h hT hT1 hTb1 hS1 hR1
      go_wp2_with (at_make; refine wpList_make_full _ rfl (.tmp 34) (.tmp 34) 29 rfl 0 9 j0 (.string ⟨#[]⟩) 1 Tryd.underlying29 hj hy0 hy1 .i64 .i64 (n : Int) (n : Int) n rfl rfl rfl rfl (by rw [hy2]; omega) (by unfold maxLen; omega) (Nat.zero_le _) ?_; intro wm hown hgrow; refine Hid.out ?_)
      refine Lib.hid ?_
      have HF : Hid (Turned [] w1 wm ∧ SRow wm w1.heap.size n (.slice (some ⟨w1.heap.size, 0, none⟩) n n)) := by
        refine ⟨(Turned.refl [] w1).grown hgrow (fun x hx => by cases hx), some ⟨w1.heap.size, 0, none⟩, rfl, fun _ => ⟨rfl, ?_⟩⟩
        rcases hown.2 with ⟨h1, _⟩ | ⟨g, cap, cur, h1, _, h2, _, _, h3, _⟩
        · cases h1
        · injection h1 with e1 e2 e3
          injection e1 with e1
          injection e1 with e1
          subst e1 e3
          exact ⟨cur, h2, by simpa using h3⟩
      clear hown hgrow
      go_wp2_with fail
      go_meet
      exact ⟨rfl, HF.out⟩
  case rest =>
    obtain ⟨rfl, hT2, hSR⟩ := hcut
    have hR2 := hR1.keepNew hT2
    have hTb2 := hTb1.keepNew hT2
    have hS2 := hS1.trans (hT2.mono (by simp))
    have hmm := makeMap_hint (n : Int)
    obtain ⟨W, hW⟩ : ∃ W, W = wc.alloc (.map #[] 0) := ⟨_, rfl⟩
    have hTW : Turned [] wc W := by rw [hW]; exact (Turned.refl [] wc).alloc _
    have hRW := hR2.keepNew hTW
    have hTbW := hTb2.keepNew hTW
    have PK := peek_any k s1 W 1 hRW (by decide) (by decide)
    obtain ⟨_, c2, f2⟩ := hTbW.cells
    have cT := hTbW.cells.1
    rw [hW] at cT PK
    have HW := Lib.hid hW
    go_wp2_with fail
    go_at_call 98
    refine PK.mono ?_
    rintro e w5 ⟨s5, p5, m5, cap5, er5, hR5, hT5, hp5, rfl, hm5, hmc5, hpa5, hor5⟩
    rw [← HW.out] at hT5
    have hp15 : s5.pos = s.pos := hp5.trans hp1
    rw [List.getElem?_drop, Nat.add_zero] at hc
    have hcl := (List.getElem?_eq_some_iff.1 hc).1
    have hw05 : Turned (contBlocks k T v) w w5 := (hS2.trans (hTW.mono (by simp))).trans (hT5.mono (fun x hx => List.mem_cons_of_mem _ (List.mem_append_left _ hx)))
    have hTp5 := hTbW.tp.keep hRW hT5
    have hHM5 : HM w5 w1.heap.size wc.heap.size 0 (.map []) (fun x => valsOf x []) [] := by
      have h1 : HM W w1.heap.size wc.heap.size 0 (.map []) (fun _ => []) [] := by rw [HW.out]; exact HM.made wc _
      refine h1.keepS hT5 (fun hx => ?_) (fun x g hg => by rw [look_empty] at hg; cases hg)
      have h2 := hT.bb
      have h3 := hT.cb
      have h4 := hT.yb
      have h5 := hT.size
      have h6 := hT1.size
      have h7 := hT2.size
      simp [RK.blocks] at hx
      omega
    rcases hor5 with ⟨hm1, rfl⟩ | ⟨hm0, hpe, _⟩
    rotate_left
    · exfalso; omega
    subst hm1
    have hpa := hpa5 (by decide)
    subst hpa
    have hcell : w5.cell? ⟨k.C, s5.r, none⟩ = some (.int .u8 (c.toNat : Int)) := by
      have h1 := hR5.buf 0 c (by omega) (by rw [Nat.add_zero, hp15]; exact hc)
      rw [hR5.cb.cell]
      simpa using h1
    have hsent : ∀ g a, Sent w k.K g a → Sent w5 k.K g a := fun g a hs => hs.keep (hw05.below (by have := h.kb; have := h.bb.lt; omega) (fun x hx => by
      rcases List.mem_cons.1 hx with rfl | hx
      · exact hT.kt
      rcases List.mem_append.1 hx with hx | hx
      · exact h.blocks_new x hx
      · have := (own_ge hT.own (by simpa using hx)).1
        have := hT.kt
        have := hT.lt
        omega))
    have RL := readLine80_any k s5 w5 fe me T hR5 (hsent _ _ hF) (hsent _ _ hM) hfe hTp5
    have HEND : Hid (∀ w6 s6 err, Rd w6 k s6 → Turned k.blocks w5 w6 → (err = errAt k.ae ∨ err = errAt me ∨ ∃ t, err = .iface 125 (.string t)) → RBPost k w T v me (.returned (.tuple #[.map (some wc.heap.size), err])) w6) := fun w6 s6 err a1 a2 a3 =>
      ⟨s6, err, _, _, _, _, _, rfl, a1, hTp5.keep hR5 a2, hHM5.keepS a2 (fun hx => by
        have h2 := hT.bb
        have h3 := hT.cb
        have h4 := hT.yb
        have h5 := hT.size
        have h6 := hT1.size
        have h7 := hT2.size
        simp [RK.blocks] at hx
        omega) (fun x g hg => by rw [look_empty] at hg; cases hg), hw05.trans (a2.mono (fun x hx => List.mem_cons_of_mem _ (List.mem_append_left _ hx))), a3⟩
    have hbb : (c.toNat : Int) = 32 ∨ (c.toNat : Int) = 9 := by
      unfold blB blI at hb
      simp at hb
      omega
    obtain ⟨B, hB⟩ : ∃ B, B = wc.heap.size := ⟨_, rfl⟩
    rw [← hB] at HEND ⊢
    clear hB
    go_upto_region 11 with fail
    go_cut [59] (fun u59 wd => u59 = .bool true ∧ w5 = wd)
    case first =>
      rcases hbb with t32 | t9
      · clear h hT hF hM hT1 hTb1 hS1 hR1 hT2 hSR hR2 hTb2 hS2 hRW hTbW hTW PK cT c2 f2 hR5 hT5 RL hsent hHM5 hTp5 hw05 hb hc
        rw [t32] at hcell
        go_wp2_with fail
        go_meet
        exact ⟨rfl, rfl⟩
      · clear h hT hF hM hT1 hTb1 hS1 hR1 hT2 hSR hR2 hTb2 hS2 hRW hTbW hTW PK cT c2 f2 hR5 hT5 RL hsent hHM5 hTp5 hw05 hb hc
        rw [t9] at hcell
        go_wp2_with fail
        go_meet
        exact ⟨rfl, rfl⟩
    case rest =>
      obtain ⟨rfl, rfl⟩ := hcut
      clear h hT hF hM hT1 hTb1 hS1 hR1 hT2 hSR hR2 hTb2 hS2 hRW hTbW hTW PK cT c2 f2 hR5 hT5 hsent hHM5 hTp5 hw05 hb hc HW hW hmm hcell hbb
      go_wp2_with fail
      go_at_call 84
      refine RL.mono ?_
      rintro e w6 ⟨s6, p6, n6, cap6, err, hR6, hT6, rfl, hor6⟩
      clear RL
      rcases hor6 with rfl | rfl | rfl
      · have HF := Lib.hid (fun t => HEND.out w6 s6 _ hR6 hT6 (.inr (.inr ⟨t, rfl⟩)))
        clear HEND hR6 hT6
        go_wp2_with fail
        go_ret2
        exact HF.out _
      · have HF := Lib.hid (HEND.out w6 s6 _ hR6 hT6 (.inl rfl))
        clear HEND hR6 hT6
        go_wp2_with fail
        go_ret2
        exact HF.out
      · have HF := Lib.hid (HEND.out w6 s6 _ hR6 hT6 (.inr (.inl rfl)))
        clear HEND hR6 hT6
        go_wp2_with fail
        go_ret2
        exact HF.out
end Go.Proofs.YthobojpbdeepoaaDoor

/- ReadMIMEHeader and impl.Fields at data that begins with a blank: some answer. -/
namespace Go.Proofs.YthobojpbdeepoaaDoor
open Go.RowKit Go.ChangeMaps Go.MapKept Go.WideShapes

/-- The sentinels that impl.Fields may meet. -/
structure EndsM (w : World) (K : Nat) (ae fe ue me : Addr) : Prop where
  e3 : Ends3 w K ae fe ue
  msg : Sent w K 3 me
  nea : me ≠ ae
  neu : me ≠ ue
theorem EndsM.keep {w w' : World} {K : Nat} {ae fe ue me : Addr} (h : EndsM w K ae fe ue me) (hb : Below K w w') : EndsM w' K ae fe ue me := ⟨h.e3.keep hb, h.msg.keep hb, h.nea, h.neu⟩
theorem str_code (a : Addr) (w : World) : (Instr.typeAssert (.iface 182 (.pointer (some a))) 74 131 true).run Tryd.prog w = .ok (.tuple #[.pointer none, .bool false]) w := by kernel_rfl
theorem str_proto (a : Addr) (w : World) : (Instr.typeAssert (.iface 182 (.pointer (some a))) 74 125 true).run Tryd.prog w = .ok (.tuple #[.string ⟨#[]⟩, .bool false]) w := by kernel_rfl
set_option maxRecDepth 100000 in
theorem kind_other {K : Nat} {ae fe ue me : Addr} (w : World) (h : EndsM w K ae fe ue me) : Calls Tryd.prog 50 #[errAt me] w fun e w' => (∃ n, e = .returned (.int .i64 n)) ∧ w = w' := by
  have q1 := err_other h.msg h.e3.e2.eof h.nea
  have q2 := err_other h.msg h.e3.cut h.neu
  have q4 : (binOp .eql 74 (errAt me) .nilIface).run Tryd.prog w = .ok (.bool false) w := by simp [go_sem]
  have i1 : (Instr.typeAssert (errAt me) 74 131 true).run Tryd.prog w = .ok (.tuple #[.pointer none, .bool false]) w := str_code me w
  have i2 : (Instr.typeAssert (errAt me) 74 125 true).run Tryd.prog w = .ok (.tuple #[.string ⟨#[]⟩, .bool false]) w := str_proto me w
  have c := h.e3.e2.eof.cell
  have c2 := h.e3.cut.cell
  clear h
  go_enter Tryd.func50, Tryd.ntmps50
  go_wp2_with fail
  go_ret
  exact ⟨⟨_, rfl⟩, rfl⟩

set_option maxRecDepth 100000 in
set_option maxHeartbeats 2000000 in
theorem readMIME_blank (k : RK) (s : RS) (w : World) (fe me : Addr) (T bT : Nat) (v : Value) (xs : List UInt8) (hfe : k.ae ≠ fe) (h : Rd w k s) (hT : Tb w k T bT v xs) (hF : Sent w k.K 6 fe) (hM : Sent w k.K 3 me)
    (c : UInt8) (hc : (k.d.drop s.pos)[0]? = some c) (hb : blB c = true) :
    Calls Tryd.prog 67 #[.pointer (some ⟨T, 0, none⟩)] w (RBPost k w T v me) := by
  have RH := readHdr_blank k s w fe me T bT v xs hfe h hT hF hM c hc hb
  clear h hT hF hM hc
  go_enter Tryd.func67, Tryd.ntmps67
  go_wp2_with fail
  go_at_call 87
  refine RH.mono ?_
  intro e w1 hp
  obtain ⟨s', err, b, base, n, D, L, rfl, h1⟩ := hp
  have HF : Hid (RBPost k w T v me (.returned (.tuple #[.map (some b), err])) w1) := ⟨s', err, b, base, n, D, L, rfl, h1⟩
  clear h1 RH
  go_wp2_with fail
  go_ret2
  exact HF.out

/-- What impl.Fields answers there. -/
def IBPost (w : World) (e : Ending) (w' : World) : Prop :=
  ∃ (lv : Value) (p : Option Addr) (n cap : Nat) (kd : Int), e = .returned (.tuple #[lv, .slice p n cap, .int .i64 kd]) ∧ Turned [] w w'

set_option maxRecDepth 100000 in
set_option maxHeartbeats 4000000 in
theorem implHdr_blank (p : Option Addr) (l : List UInt8) (cap : Nat) (ae fe ue me : Addr) (w : World) (h : DataAt w p l) (hl : l.length ≤ 1000000) (hE : EndsM w w.heap.size ae fe ue me) (c : UInt8) (hc : l[0]? = some c) (hb : blB c = true) :
    Calls Tryd.prog 40 #[.slice p l.length cap] w (IBPost w) := by
  have MR := mkReader_any p l cap ae w h (by omega) hE.e3.e2.eof
  go_enter Tryd.func40, Tryd.ntmps40
  go_wp2_with fail
  go_at_call 47
  refine MR.mono ?_
  rintro e w1 ⟨k, s, T, rfl, hT1, hkd, hkK, hka, hR1, hTp1, hpos, _, _, hbT⟩
  subst hkd
  subst hka
  have hb1 := hT1.below (Nat.le_refl _) (by simp)
  have hF1 : Sent w1 k.K 6 fe := by rw [hkK]; exact hE.e3.e2.full.keep hb1
  have hM1 : Sent w1 k.K 3 me := by rw [hkK]; exact hE.msg.keep hb1
  have hTb1 := tb_new hR1 hTp1 hbT
  have RM := readMIME_blank k s w1 fe me T _ _ _ hE.e3.e2.ne hR1 hTb1 hF1 hM1 c (by rw [hpos, List.drop_zero]; exact hc) hb
  go_wp2_with fail
  go_at_call 67
  refine RM.mono ?_
  rintro e w2 ⟨s', err, b, base, n, D, L, rfl, hR2, hTp2, hM2, hT2, herr⟩
  have hT12 := hT1.fresh hT2 (fun x hx => by
    rcases List.mem_cons.1 hx with rfl | hx
    · rw [← hkK]; exact hTp1.kt
    · rcases List.mem_append.1 hx with hx | hx
      · rw [← hkK]; exact hR1.blocks_new x hx
      · cases hx)
  have hp2 := hR2.pos_le
  have hi2 := hR2.il
  have IF := implFields_any w2 base b n D L [] hM2 Sorted.nil (by simp)
  have HK : Hid (Rd w2 k s' ∧ Tp w2 k T ∧ Turned [] w w2) := ⟨hR2, hTp2, hT12⟩
  have HER := Lib.hid herr
  have HE := Lib.hid hE
  have HKK := Lib.hid hkK
  clear h hl MR hT1 hR1 hTp1 hb1 hF1 hM1 RM hR2 hT2 hTp2 hT12 hTb1 hbT hM2 herr hp2 hi2 hE hpos hkK hc
  go_wp2_with fail
  go_at_call 68
  refine IF.mono ?_
  rintro e w3 ⟨lv, rfl, hT3, hO3⟩
  have RS := rest_any k s' w3 T (HK.out.1.keepNew hT3) (HK.out.2.1.keep HK.out.1 (hT3.mono (by simp)))
  have HO := Lib.hid hO3
  have HT3 := Lib.hid hT3
  clear IF hO3 hT3
  go_wp2_with fail
  go_at_call 49
  refine RS.mono ?_
  rintro e w4 ⟨v, rfl, hT4, hO4⟩
  obtain ⟨p4, cap4, rfl, hr4⟩ := own_slice hO4
  have hnew : ∀ x, x ∈ k.blocks → w.heap.size ≤ x := fun x hx => by rw [← HKK.out]; exact HK.out.1.blocks_new x hx
  have hT14 : Turned [] w w4 := (HK.out.2.2.trans HT3.out).fresh hT4 hnew
  have hE4 : EndsM w4 w.heap.size k.ae fe ue me := HE.out.keep (hT14.below (Nat.le_refl _) (by simp))
  have HP : Hid (∀ kd : Int, IBPost w (.returned (.tuple #[lv, .slice p4 (k.d.drop s'.pos).length cap4, .int .i64 kd])) w4) := fun kd => ⟨lv, p4, _, cap4, kd, rfl, hT14⟩
  have KD : Calls Tryd.prog 50 #[err] w4 fun e w' => (∃ n, e = .returned (.int .i64 n)) ∧ w4 = w' := by
    rcases HER.out with rfl | rfl | ⟨t, rfl⟩
    · exact (kind_eof w4 hE4.e3.e2.eof).mono fun e w' ⟨h1, h2⟩ => ⟨⟨1, h1⟩, h2⟩
    · exact kind_other w4 hE4
    · exact (kind_proto t w4 hE4.e3.endsC).mono fun e w' ⟨h1, h2⟩ => ⟨⟨4, h1⟩, h2⟩
  clear hO4 hT4 RS hr4 hT14 hE4 hnew HO HT3
  generalize (k.d.drop s'.pos).length = m at *
  go_wp2_with fail
  go_at_call 50
  refine KD.mono ?_
  rintro e w5 ⟨⟨kd, rfl⟩, rfl⟩
  have HF := Lib.hid (HP.out kd)
  clear KD HP
  go_wp2_with fail
  go_ret3
  exact HF.out
end Go.Proofs.YthobojpbdeepoaaDoor

/- Plain law of spec.Fields: what its rounds keep, told in groups. -/
namespace Go.Proofs.YthobojpbdeepoaaDoor
open Go.RowKit

theorem trimL_append (a b : List UInt8) : trimL blB (a ++ b) = if trimL blB a = [] then trimL blB b else trimL blB a ++ b := by
  unfold trimL
  rw [List.dropWhile_append]
  simp [List.isEmpty_iff]
theorem trimR_append (a b : List UInt8) : trimR blB (a ++ b) = if trimR blB b = [] then trimR blB a else a ++ trimR blB b := by
  unfold trimR
  rw [List.reverse_append, List.dropWhile_append]
  simp only [List.isEmpty_iff, List.reverse_eq_nil_iff]
  split
  · rfl
  · simp
theorem trimR_mem {l : List UInt8} {c : UInt8} (h : c ∈ trimR blB l) : c ∈ l := by
  unfold trimR at h
  rw [List.mem_reverse] at h
  exact List.mem_reverse.1 ((List.dropWhile_sublist blB).mem h)
theorem trimL_mem {l : List UInt8} {c : UInt8} (h : c ∈ trimL blB l) : c ∈ l := (List.dropWhile_sublist blB).mem h
theorem trimR_last {v l : List UInt8} {c : UInt8} (h : trimR blB v = l ++ [c]) : blB c = false := by
  unfold trimR at h
  have h1 := congrArg List.reverse h
  rw [List.reverse_reverse, List.reverse_append] at h1
  exact dropWhile_head h1
theorem trimR_fix {v : List UInt8} (h : ∀ l c, v = l ++ [c] → blB c = false) : trimR blB v = v := by
  by_cases h0 : v = []
  · subst h0; rfl
  · have h2 := List.dropLast_concat_getLast h0
    have h3 := h v.dropLast (v.getLast h0) h2.symm
    rw [← h2]
    exact trimR_stop h3
theorem trimR_idem (v : List UInt8) : trimR blB (trimR blB v) = trimR blB v := trimR_fix fun _ _ h => trimR_last h
theorem trimL_idem (v : List UInt8) : trimL blB (trimL blB v) = trimL blB v := by
  cases h : trimL blB v with
  | nil => rfl
  | cons b l => exact trimL_stop (dropWhile_head h)
theorem trim_comm : ∀ v : List UInt8, trimL blB (trimR blB v) = trimR blB (trimL blB v)
  | [] => rfl
  | b :: v => by
    have ih := trim_comm v
    have e : trimR blB (b :: v) = if trimR blB v = [] then trimR blB [b] else b :: trimR blB v := trimR_append [b] v
    cases hb : blB b with
    | false =>
      have e1 : trimR blB [b] = [b] := trimR_stop (l := []) hb
      rw [trimL_stop hb, e, e1]
      split
      · exact trimL_stop hb
      · exact trimL_stop hb
    | true =>
      have e1 : trimR blB [b] = [] := trimR_step (l := []) hb
      rw [trimL_step hb, e, e1, ← ih]
      split
      · rename_i h; rw [h]
      · exact trimL_step hb
/-- A suffix of what ends in no blank. -/
theorem trimR_tail {v : List UInt8} (h : trimR blB v = v) : trimR blB (trimL blB v) = trimL blB v := by rw [← trim_comm, h]

/-- From s0 on, with the fields ps, cur is left. -/
def Top (s0 : List UInt8) (ps : List Fd) (cur : List UInt8) : Prop := (∀ qs r, HG cur ps qs r → HG s0 [] qs r) ∧ (HB cur → HB s0)
/-- The fields of the parts. -/
def doneF (parts : List Fd) : List Fd := parts.map (fun p => (p.1, trimB p.2))
theorem doneF_snoc (ps : List Fd) (k v : List UInt8) : doneF (ps ++ [(k, v)]) = doneF ps ++ [(k, trimB v)] := by unfold doneF; rw [List.map_append]; rfl
def okB (c : UInt8) : Prop := (32 ≤ c.toNat ∧ c.toNat ≤ 126) ∨ c.toNat = 9
theorem okB_val {c : UInt8} (h : okB c) : valB (c.toNat : Int) = true := by
  unfold valB
  rcases h with h1 | h1
  · have h2 : (32 : Int) ≤ (c.toNat : Int) := by omega
    have h3 : ((c.toNat : Int) != 127) = true := by simp; omega
    rw [h3]
    simp [h2]
  · rw [h1]; rfl
/-- A group that is not closed yet. -/
structure Grp0 (s0 cur : List UInt8) (ps0 : List Fd) (kk pv vv : List UInt8) : Prop where
  val : ∀ c, c ∈ vv → okB c
  tl : trimL blB pv = trimL blB vv
  tr : trimR blB vv = vv
  go : ∀ t r' vv2, CMore (kk ++ 58 :: vv) cur t r' → t = kk ++ 58 :: vv2 → (∀ c, c ∈ vv2 → okB c) → Top s0 (doneF ps0 ++ [(canon kk, trimL blB vv2)]) r'
/-- What a round keeps. -/
def SFI (s0 : List UInt8) (n : Nat) (parts : List Fd) (cur : List UInt8) : Prop :=
  (n = 0 ∧ parts = [] ∧ cur = s0) ∨ (0 < n ∧ ∃ ps0 kk pv vv, parts = ps0 ++ [(canon kk, pv)] ∧ Grp0 s0 cur ps0 kk pv vv)
section
variable {s0 cur : List UInt8} {n j : Nat} {parts : List Fd}
theorem SFI.close (h : SFI s0 n parts cur) (hd : ∀ c, cur[0]? = some c → blB c = false) : Top s0 (doneF parts) cur := by
  rcases h with ⟨rfl, rfl, rfl⟩ | ⟨_, ps0, kk, pv, vv, rfl, hg⟩
  · exact ⟨fun _ _ h => h, id⟩
  · have h1 := hg.go _ _ vv (CMore.stop _ _ hd) rfl hg.val
    rw [doneF_snoc]
    have e : trimB pv = trimL blB vv := by unfold trimB; rw [hg.tl, trimR_tail hg.tr]
    rw [e]
    exact h1
theorem head_end (h10 : cur[j]? = some 10) (h0 : trimCR (cur.take j) = []) : ∀ c, cur[0]? = some c → blB c = false := by
  intro c hc
  have h1 := (List.getElem?_eq_some_iff.1 h10).1
  have hl : (cur.take j).length = j := by rw [List.length_take]; omega
  rcases Nat.eq_zero_or_pos j with h | h
  · subst h
    rw [h10] at hc
    obtain rfl := Option.some.inj hc
    decide
  · unfold trimCR at h0
    rw [hl] at h0
    split at h0
    · rename_i h13
      have h2 : (List.take (j - 1) (cur.take j)).length = 0 := by rw [h0]; rfl
      rw [List.length_take, hl] at h2
      have h3 : j = 1 := by omega
      subst h3
      rw [List.getElem?_take_of_lt (by omega), hc] at h13
      obtain rfl := Option.some.inj h13
      decide
    · rw [h0] at hl
      simp at hl
      omega
theorem head_line {d ls : List UInt8} (h : trimCR (d.take j) = ls) (h0 : 0 < ls.length) : d[0]? = ls[0]? := by
  unfold trimCR at h
  split at h
  · subst h
    rw [List.length_take] at h0
    have h1 : 0 < (d.take j).length - 1 := by omega
    have h2 : 0 < (d.take j).length := by omega
    rw [List.length_take] at h2
    rw [List.getElem?_take_of_lt h1, List.getElem?_take_of_lt (by omega)]
  · subst h
    rw [List.length_take] at h0
    rw [List.getElem?_take_of_lt (by omega)]
theorem SFI.good (h : SFI s0 n parts cur) (h10 : cur[j]? = some 10) (hno : NoNl cur 0 j) (h0 : trimCR (cur.take j) = []) : HG s0 [] (doneF parts) (cur.drop (j + 1)) :=
  (h.close (head_end h10 h0)).1 _ _ (HG.done _ _ j ⟨h10, hno⟩ h0)
theorem SFI.eof (h : SFI s0 n parts []) : HB s0 := (h.close (fun c hc => by simp at hc)).2 HB.eof
theorem SFI.bad (h : SFI s0 n parts cur) (h10 : cur[j]? = some 10) (hno : NoNl cur 0 j) (h0 : trimCR (cur.take j) ≠ []) (hc : (58 : UInt8) ∉ trimCR (cur.take j)) (hd : ∀ c, cur[0]? = some c → blB c = false) : HB s0 :=
  (h.close hd).2 (HB.bad _ j ⟨h10, hno⟩ h0 hc)
theorem SFI.cont (h : SFI s0 n parts cur) (hn : 0 < n) (h10 : cur[j]? = some 10) (hno : NoNl cur 0 j) (hb : ∃ c, cur[0]? = some c ∧ blB c = true) (hne : trimB (trimCR (cur.take j)) ≠ []) (hv : ∀ c, c ∈ trimCR (cur.take j) → okB c) :
    ∃ ps0 k pv, parts = ps0 ++ [(k, pv)] ∧ SFI s0 (n + 1) (ps0 ++ [(k, pv ++ 32 :: trimB (trimCR (cur.take j)))]) (cur.drop (j + 1)) := by
  rcases h with ⟨rfl, _, _⟩ | ⟨_, ps0, kk, pv, vv, rfl, hg⟩
  · omega
  refine ⟨ps0, _, pv, rfl, .inr ⟨by omega, ps0, kk, _, vv ++ 32 :: trimB (trimCR (cur.take j)), rfl, ⟨fun c hc => ?_, ?_, ?_, fun t r' vv2 hm ht hv2 => ?_⟩⟩⟩
  · rcases List.mem_append.1 hc with hc | hc
    · exact hg.val c hc
    · rcases List.mem_cons.1 hc with rfl | hc
      · exact .inl (by decide)
      · exact hv c (trimL_mem (trimR_mem hc))
  · rw [trimL_append, trimL_append, hg.tl]
  · refine trimR_fix fun l c he => ?_
    obtain ⟨l2, c2, h2⟩ : ∃ l2 c2, trimB (trimCR (cur.take j)) = l2 ++ [c2] := ⟨_, _, (List.dropLast_concat_getLast hne).symm⟩
    have h3 := trim_last h2
    rw [h2, show vv ++ 32 :: (l2 ++ [c2]) = (vv ++ 32 :: l2) ++ [c2] from by simp] at he
    have h4 := (List.append_inj' he rfl).2
    injection h4 with h4
    rw [← h4]; exact h3
  · refine hg.go t r' vv2 (CMore.more _ _ _ _ j h10 hno hb hne ?_) ht hv2
    rw [List.append_assoc]
    exact hm
theorem SFI.new (h : SFI s0 n parts cur) (h10 : cur[j]? = some 10) (hno : NoNl cur 0 j) (hd : ∀ c, cur[0]? = some c → blB c = false) {l kk rest : List UInt8} (hl : trimCR (cur.take j) = l) (he : l = kk ++ 58 :: rest) (hnc : (58 : UInt8) ∉ kk) (hk0 : kk ≠ []) (hk : isKey kk = true) (hv : ∀ c, c ∈ l → okB c) :
    SFI s0 (n + 1) (parts ++ [(canon kk, trimB rest)]) (cur.drop (j + 1)) := by
  have hT := h.close hd
  have hrest : ∀ c, c ∈ rest → okB c := fun c hc => hv c (by rw [he]; simp [hc])
  have hB : trimB l = kk ++ 58 :: trimR blB rest := by
    obtain ⟨b, k2, hb2, hbb⟩ : ∃ b k2, kk = b :: k2 ∧ blB b = false := by
      cases hkk : kk with
      | nil => exact absurd hkk hk0
      | cons b k2 => exact ⟨b, k2, rfl, (key_byte hk (by rw [hkk]; simp)).1⟩
    have e1 : trimL blB l = l := by rw [he, hb2, List.cons_append]; exact trimL_stop hbb
    unfold trimB
    rw [e1, he, show kk ++ 58 :: rest = (kk ++ [58]) ++ rest from by simp, trimR_append]
    split
    · rename_i h0
      rw [h0, trimR_stop (by decide)]
    · simp
  refine .inr ⟨by omega, parts, kk, _, trimR blB rest, rfl, ⟨fun c hc => hrest c (trimR_mem hc), ?_, trimR_idem _, fun t r' vv2 hm ht hv2 => ?_⟩⟩
  · unfold trimB
    rw [← trim_comm, trimL_idem]
  · have hg : Grp cur j t r' kk vv2 := by
      refine ⟨⟨h10, hno⟩, ?_, ?_, ?_, ht, hnc, hk0, hk, fun c hc => okB_val (hv2 c hc)⟩
      · rw [hl, he]; simp
      · rw [hl, he]; simp
      · rw [hl, hB]; exact hm
    exact ⟨fun qs r h1 => hT.1 qs r (HG.step _ _ _ _ _ j t kk vv2 hg h1), fun h1 => hT.2 (HB.step _ _ j t kk vv2 hg h1)⟩
end
end Go.Proofs.YthobojpbdeepoaaDoor

/- The contract of spec.Fields. -/
namespace Go.Proofs.YthobojpbdeepoaaDoor
open Go.RowKit

theorem part_row : (Tryd.prog.info? 111).map (fun i => (i.zero, i.size, i.bytes)) = some (some (.agg #[.string ⟨#[]⟩, .string ⟨#[]⟩]), 2, 32) := by kernel_rfl
theorem fstr_is {l : ByteArray} {x : List UInt8} (h : lst l = x) : (l.toList == x) = true := by
  have e : l.toList = lst l := ByteArray.toList_eq l
  rw [e, h]; simp
theorem fstr_not {l : ByteArray} {x : List UInt8} (h : lst l ≠ x) : (l.toList == x) = false := by
  have e : l.toList = lst l := ByteArray.toList_eq l
  rw [e]; simpa using h
theorem fsize_mk (l : List UInt8) : (⟨l.toArray⟩ : ByteArray).size = l.length := by show l.toArray.size = _; simp

theorem lst_cat (a b : ByteArray) : lst (a ++ b) = lst a ++ lst b := by unfold lst; rw [ByteArray.data_append, Array.toList_append]
theorem fc_put (ps0 : List Fd) (k pv x : List UInt8) : (fc (ps0 ++ [(k, pv)])).set (ps0.length * 2 + 1) (tv x) = fc (ps0 ++ [(k, x)]) := by
  rw [fc_append, fc_append, List.set_append_right _ _ (by rw [fc_length]; omega), fc_length, show ps0.length * 2 + 1 - ps0.length * 2 = 1 from by omega]
  rfl

/-- What spec.Fields answers. -/
def SFPost (s : ByteArray) (w : World) (e : Ending) (w' : World) : Prop :=
  ∃ fv r what, e = .returned (.tuple #[fv, .string r, .int .i64 what]) ∧ Turned [] w w' ∧
    ((what = 0 ∧ ∃ qs, w'.ownsRow w.heap.size 67 2 fv (allOf qs).length (fc (allOf qs)) ∧ HG (lst s) [] qs (lst r) ∧ qs.length ≤ s.size) ∨ (what = 1 ∧ HB (lst s)) ∨ what = 2) ∧
    ((∃ c, (lst s)[0]? = some c ∧ blB c = true) → what = 2)
/-- Where the loop over the lines stands. -/
structure SFR (s : ByteArray) (w : World) (g : Nat) (cur : ByteArray) (v5 : Value) (n : Nat) (parts : List Fd) (wr : World) : Prop where
  st : SFI (lst s) n parts (lst cur)
  hd : 0 < n → ∀ c, (lst s)[0]? = some c → blB c = false
  own : wr.ownsRow w.heap.size 111 2 v5 parts.length (fc parts)
  tu : Turned [] w wr
  sz : n + cur.size ≤ s.size
  le : parts.length ≤ n
  ps : ∀ p, p ∈ parts → p.1.length ≤ s.size ∧ p.2.length + cur.size ≤ s.size
  g : cur.size + 1 ≤ g

set_option maxRecDepth 100000 in
set_option maxHeartbeats 16000000 in
theorem specFields_any (s : ByteArray) (w : World) (hs : s.size ≤ 1000000) : Calls Tryd.prog 39 #[.string s] w (SFPost s w) := by
  have HS : Hid (s.size ≤ 1000000) := hs
  clear hs
  have HO : Hid (∀ w', Turned [] w w' → SFPost s w (.returned (.tuple #[.slice none 0 0, .string ⟨#[]⟩, .int .i64 2])) w') := fun w' ht => ⟨_, _, 2, rfl, ht, .inr (.inr rfl), fun _ => rfl⟩
  have H0 : Hid (SFR s w (s.size + 1) s (.slice none 0 0) 0 [] w) := ⟨.inl ⟨rfl, rfl, rfl⟩, (fun h => absurd h (Nat.lt_irrefl 0)), ⟨rfl, .inl ⟨rfl, rfl⟩⟩, Turned.refl _ _, by omega, Nat.le_refl _, (fun p hp => by simp at hp), Nat.le_refl _⟩
  go_enter Tryd.func39, Tryd.ntmps39
  go_wp2_with fail
  go_loopg [0, 2, 5, 6] (s.size + 1) (fun g v0 v2 v5 v6 wr => ∃ (cur : ByteArray) (n : Nat) (parts : List Fd), v0 = .string cur ∧ v2 = .slice none 0 0 ∧ v6 = .int .i64 (n : Int) ∧ SFR s w g cur v5 n parts wr)
  case atStart => exact ⟨s, 0, [], rfl, rfl, rfl, H0.out⟩
  case round =>
    clear H0
    obtain ⟨cur, n, parts, rfl, rfl, rfl, hr⟩ := hrel
    have HR := Lib.hid hr
    obtain ⟨pa, ca, rfl, -⟩ := ownsN_slice hr.own
    have hz2 := hr.sz
    have hz3 := HS.out
    have SL := specline_any cur wr (by omega)
    obtain ⟨G, hG⟩ : ∃ G, G = gk := ⟨_, rfl⟩
    have HGK : Hid (G = gk) := hG
    clear hr hG
    go_wp2_with fail
    go_at_call 62
    refine SL.mono ?_
    rintro e w1 ⟨⟨q1, rfl⟩, hor⟩
    clear SL
    rcases hor with ⟨j, h10, hno, rfl⟩ | ⟨hno, rfl⟩
    · obtain ⟨ls, hls⟩ : ∃ ls : ByteArray, ls = ⟨(trimCR ((lst cur).take j)).toArray⟩ := ⟨_, rfl⟩
      obtain ⟨aft, haft⟩ : ∃ aft : ByteArray, aft = ⟨((lst cur).drop (j + 1)).toArray⟩ := ⟨_, rfl⟩
      have hlst : lst ls = trimCR ((lst cur).take j) := by rw [hls]; exact lst_mk _
      have halst : lst aft = (lst cur).drop (j + 1) := by rw [haft]; exact lst_mk _
      have hjl : j < cur.size := by rw [← lst_length]; exact (List.getElem?_eq_some_iff.1 h10).1
      have hasz : aft.size = cur.size - (j + 1) := by rw [← lst_length, halst, List.length_drop, lst_length]
      have hlsz : ls.size ≤ j := by
        have h3 := trimCR_length ((lst cur).take j)
        rw [List.length_take, lst_length, ← hlst, lst_length] at h3
        omega
      rw [← hls, ← haft]
      have HLN : Hid ((lst cur)[j]? = some 10 ∧ NoNl (lst cur) 0 j ∧ trimCR ((lst cur).take j) = lst ls ∧ lst aft = (lst cur).drop (j + 1) ∧ j < cur.size ∧ aft.size = cur.size - (j + 1) ∧ ls.size ≤ j) := ⟨h10, hno, hlst.symm, halst, hjl, hasz, hlsz⟩
      clear hls haft hlst halst hasz h10 hno
      by_cases hl0 : lst ls = []
      · have t0 := fstr_is hl0
        have HGD : Hid (HG (lst s) [] (doneF parts) (lst aft) ∧ ∀ c, (lst s)[0]? = some c → blB c = false) := by
          have h1 := HLN.out
          have h2 : trimCR ((lst cur).take j) = [] := by rw [h1.2.2.1]; exact hl0
          have h3 := HR.out.st.good h1.1 h1.2.1 h2
          rw [← h1.2.2.2.1] at h3
          refine ⟨h3, ?_⟩
          rcases Nat.eq_zero_or_pos n with hn | hn
          · rcases HR.out.st with ⟨_, _, e⟩ | ⟨h4, _⟩
            · rw [← e]; exact head_end h1.1 h2
            · omega
          · exact HR.out.hd hn
        have HSR : Hid (∀ wx v2, Turned [] wr wx → wx.ownsRow w.heap.size 67 2 v2 (allOf (doneF parts)).length (fc (allOf (doneF parts))) → SFPost s w (.returned (.tuple #[v2, .string aft, .int .i64 0])) wx) := fun wx v2 ht ho =>
          ⟨v2, aft, 0, rfl, HR.out.tu.trans ht, .inl ⟨rfl, _, ho, HGD.out.1, by
            have h1 := HR.out.le
            have h2 := HR.out.sz
            unfold doneF
            rw [List.length_map]
            omega⟩, fun ⟨c, h1, h2⟩ => by rw [HGD.out.2 c h1] at h2; cases h2⟩
        clear hl0
        go_wp2_with fail
        go_loopg [2, 123] parts.length (fun g v2 v123 wx => ∃ m : Nat, v123 = .int .i64 (m : Int) ∧ m ≤ parts.length ∧ Turned [] wr wx ∧ wx.ownsRow w.heap.size 67 2 v2 (allOf (doneF (parts.take m))).length (fc (allOf (doneF (parts.take m)))) ∧ parts.length - m ≤ g)
        case atStart => exact ⟨0, rfl, Nat.zero_le _, (Turned.refl [] wr).drewN q1, ⟨rfl, .inl ⟨rfl, rfl⟩⟩, Nat.le_refl _⟩
        case round =>
          obtain ⟨m, rfl, hm, hTx, hox, hg⟩ := hrel
          by_cases hml : m < parts.length
          · obtain ⟨f, hf⟩ : ∃ f, parts[m]? = some f := ⟨_, List.getElem?_eq_getElem hml⟩
            obtain ⟨_, _, hfe, _, _, _, hps, hpcell⟩ := ownsN_slice (ownsN_keep HR.out.own hTx)
            injection hfe with e1 _ e3
            subst e1 e3
            obtain ⟨g0, rfl, hc0⟩ := hpcell _ _ (fc_at hf).1
            obtain ⟨g0', he, hc1⟩ := hpcell _ _ (fc_at hf).2
            injection he with he
            injection he with he
            subst he
            unfold tv at hc0 hc1
            have d0 : (m : Int) < (parts.length : Int) := by omega
            have d1 : (0 : Int) ≤ (m : Int) := by omega
            have HGI : Hid (parts.length - (m + 1) ≤ gk - 1 ∧ 0 < gk ∧ m + 1 ≤ parts.length) := ⟨by omega, by omega, hml⟩
            have e1 : IntKind.i64.wrap ((m : Int) + 1) = (m : Int) + 1 := IntWalk.i64_in _ (by have := HR.out.le; omega)
            have htk : doneF (parts.take (m + 1)) = doneF (parts.take m) ++ [(f.1, trimB f.2)] := by
              rw [List.take_add_one, hf]
              unfold doneF
              rw [List.map_append]
              rfl
            have hlen : (allOf (doneF (parts.take m))).length = m := by
              rw [allOf_length _ _ rfl]
              unfold doneF
              rw [List.length_map, List.length_take]
              omega
            obtain ⟨p2, c2, rfl, -⟩ := ownsN_slice hox
            have hTa : Turned [] wr (wr.alloc (.cells #[.string ⟨f.1.toArray⟩, .string ⟨f.2.toArray⟩] 111)).drew := ((Turned.refl [] wr).alloc _).drew
            have TR : Hid (∀ W, Calls Tryd.prog 43 #[.string ⟨f.2.toArray⟩] W fun e w' => e = .returned (.string ⟨(trimB f.2).toArray⟩) ∧ W = w') := fun W => specTrim_any ⟨f.2.toArray⟩ W (by rw [fsize_mk]; have := (HR.out.ps f (List.mem_of_getElem? hf)).2; omega)
            have INS := Lib.hid (insert_any p2 c2 w.heap.size _ ⟨f.1.toArray⟩ ⟨(trimB f.2).toArray⟩ _ (ownsN_keep hox hTa) (allOf_sorted _ _ rfl) (by rw [hlen]; have := HR.out.le; omega))
            have HST : Hid (∀ w' v', Turned [] (wr.alloc (.cells #[.string ⟨f.1.toArray⟩, .string ⟨f.2.toArray⟩] 111)).drew w' → w'.ownsRow (wr.alloc (.cells #[.string ⟨f.1.toArray⟩, .string ⟨f.2.toArray⟩] 111)).drew.heap.size 67 2 v' (insF (allOf (doneF (parts.take m))) (f.1, trimB f.2)).length (fc (insF (allOf (doneF (parts.take m))) (f.1, trimB f.2))) →
                Turned [] wr w' ∧ w'.ownsRow w.heap.size 67 2 v' (allOf (doneF (parts.take (m + 1)))).length (fc (allOf (doneF (parts.take (m + 1)))))) := by
              intro w' v' ht ho
              rw [htk, allOf_snoc]
              refine ⟨hTa.trans ht, ownsN_mono ho (Nat.le_trans HR.out.tu.size (Nat.le_trans hTx.size hTa.size))⟩
            have HTX := Lib.hid hTx
            clear hps hpcell hg hm hf htk hlen hox hTa hTx hml
            go_wp2_with fail
            go_region_law
              (first
                | (go_simp; go_at_call 43; (with_reducible refine (TR.out _).mono ?_); rintro e w' ⟨rfl, rfl⟩)
                | (go_simp; go_at_call 44; (with_reducible refine INS.out.mono ?_); rintro e w' ⟨v', rfl, hT', hO'⟩; have HN := Lib.hid (HST.out w' v' hT' hO'); clear hT' hO' HST))
            all_goals
              go_wp2_with fail
              go_roundg (gk - 1)
              case rel => exact ⟨m + 1, by go_num, HGI.out.2.2, HTX.out.trans HN.out.1, HN.out.2, HGI.out.1⟩
              case measure => have := HGI.out; omega
          · obtain rfl : m = parts.length := by omega
            have d0 : ¬ (parts.length : Int) < (parts.length : Int) := by omega
            rw [List.take_length] at hox
            have HF := Lib.hid (HSR.out _ _ hTx hox)
            clear hox hTx hg hm
            go_wp2_with fail
            go_ret3
            exact HF.out
      · have t0 := fstr_not hl0
        have HL0 := Lib.hid hl0
        have hlz : ls.size ≤ 1000000 := by omega
        have HOO := Lib.hid (HO.out (wr.drewN q1) (HR.out.tu.drewN q1))
        clear hl0
        go_wp2_with fail
        clear t0
        go_loopg [2, 35] ls.size (fun g u2 u wx => u2 = .slice none 0 0 ∧ ∃ x : Nat, u = .int .i64 (x : Int) ∧ x ≤ ls.size ∧ wr.drewN q1 = wx ∧ (∀ c, c ∈ (lst ls).take x → okB c) ∧ ls.size - x ≤ g)
        case atStart => exact ⟨rfl, 0, rfl, Nat.zero_le _, rfl, (fun c hc => by simp at hc), Nat.le_refl _⟩
        case round =>
          obtain ⟨rfl, x, rfl, hx, rfl, hval, hg⟩ := hrel
          have HVL := Lib.hid hval
          have HGI : Hid (ls.size - (x + 1) ≤ gk - 1 ∧ (x < ls.size → 0 < gk)) := ⟨by omega, fun _ => by omega⟩
          clear hg hval
          by_cases hxl : x < ls.size
          · have d3 : (x : Int) < (ls.size : Int) := by omega
            have d4 : (0 : Int) ≤ (x : Int) := by omega
            have e3 : IntKind.i64.wrap ((x : Int) + 1) = (x : Int) + 1 := IntWalk.i64_in _ (by omega)
            have HST : Hid (okB ls[x] → ∀ c, c ∈ (lst ls).take (x + 1) → okB c) := by
              intro hb c hc
              rw [take_snoc ls x hxl] at hc
              rcases List.mem_append.1 hc with hc | hc
              · exact HVL.out c hc
              · rw [List.mem_singleton.1 hc]; exact hb
            rcases (show (ls[x].toNat : Int) = 9 ∨ ((ls[x].toNat : Int) ≠ 9 ∧ (ls[x].toNat : Int) < 32) ∨ ((ls[x].toNat : Int) ≠ 9 ∧ 126 < (ls[x].toNat : Int)) ∨ (32 ≤ (ls[x].toNat : Int) ∧ (ls[x].toNat : Int) ≤ 126) from by omega) with h | ⟨h, h'⟩ | ⟨h, h'⟩ | ⟨h, h'⟩
            · have HB := Lib.hid (HST.out (.inr (by omega)))
              have t1 : (ls[x].toNat : Int) < 32 := by omega
              have t2 : ((ls[x].toNat : Int) == 9) = true := by simpa using h
              clear h HST
              go_wp2_with fail
              go_roundg (gk - 1)
              case rel => exact ⟨rfl, x + 1, rfl, hxl, rfl, HB.out, HGI.out.1⟩
              case measure => exact Nat.sub_lt (HGI.out.2 hxl) Nat.one_pos
            · have t2 : ((ls[x].toNat : Int) == 9) = false := by simpa using h
              clear h HST
              go_wp2_with fail
              go_ret3
              exact HOO.out
            · have t1 : ¬ (ls[x].toNat : Int) < 32 := by omega
              have t2 : ((ls[x].toNat : Int) == 9) = false := by simpa using h
              clear h HST
              go_wp2_with fail
              go_ret3
              exact HOO.out
            · have HB := Lib.hid (HST.out (.inl (by omega)))
              have t1 : ¬ (ls[x].toNat : Int) < 32 := by omega
              have t3 : ¬ 126 < (ls[x].toNat : Int) := by omega
              clear h h' HST
              go_wp2_with fail
              go_roundg (gk - 1)
              case rel => exact ⟨rfl, x + 1, rfl, hxl, rfl, HB.out, HGI.out.1⟩
              case measure => exact Nat.sub_lt (HGI.out.2 hxl) Nat.one_pos
          · obtain rfl : x = ls.size := by omega
            have HVA : Hid (∀ c, c ∈ lst ls → okB c) := by
              have h1 := HVL.out
              rwa [List.take_of_length_le (by rw [lst_length]; exact Nat.le_refl _)] at h1
            clear HVL HGI hx hxl
            have hp0 : 0 < ls.size := by
              rw [← lst_length]
              exact List.length_pos_iff.2 HL0.out
            have TE : ∀ W, Calls Tryd.prog 43 #[.string ls] W fun e w' => e = .returned (.string ⟨(trimB (lst ls)).toArray⟩) ∧ W = w' := fun W => specTrim_any ls W (by omega)
            have IB := fun c W => isBlank_any c W
            cases htr : trimB (lst ls) with
            | nil =>
              rw [htr] at TE
              clear htr
              go_wp2_with (first
                | (go_at_call 43; (with_reducible refine (TE _).mono ?_); rintro e w' ⟨rfl, rfl⟩)
                | (go_at_call 65; (with_reducible refine (IB _ _).mono ?_); rintro e w' ⟨rfl, rfl⟩)
                | go_in)
              go_ret3
              exact HOO.out
            | cons tb tt =>
              have HTR := Lib.hid htr
              rw [htr] at TE
              clear htr
              cases hbl : blI ((ls[0].toNat : Nat) : Int) with
              | true =>
                rcases Nat.eq_zero_or_pos n with hn | hn
                · subst hn
                  go_wp2_with (first
                    | (go_at_call 43; (with_reducible refine (TE _).mono ?_); rintro e w' ⟨rfl, rfl⟩)
                    | (go_at_call 65; (with_reducible refine (IB _ _).mono ?_); rintro e w' ⟨rfl, rfl⟩)
                    | go_in)
                  go_ret3
                  exact HOO.out
                · have b0 : ((n : Int) == 0) = false := beq_eq_false_iff_ne.2 (by omega)
                  obtain ⟨tr, htr0⟩ : ∃ tr, tr = trimB (lst ls) := ⟨_, rfl⟩
                  have hc0 := HR.out.st.cont hn HLN.out.1 HLN.out.2.1 (by
                    refine ⟨ls[0], ?_, hbl⟩
                    rw [head_line HLN.out.2.2.1 (by rw [lst_length]; exact hp0), List.getElem?_eq_getElem (by rw [lst_length]; exact hp0)]
                    rfl) (by rw [HLN.out.2.2.1, HTR.out]; exact List.cons_ne_nil _ _) (by rw [HLN.out.2.2.1]; exact HVA.out)
                  rw [HLN.out.2.2.1, ← HLN.out.2.2.2.1, ← htr0] at hc0
                  rw [← HTR.out, ← htr0] at TE
                  have htz : tr.length ≤ ls.size := by rw [htr0, ← lst_length]; exact trimB_length _
                  obtain ⟨ps0, k, pv, hps, hnx⟩ := hc0
                  subst hps
                  have hpz := HR.out.ps (k, pv) (by simp)
                  have hown := HR.out.own
                  have hl1 : (ps0 ++ [(k, pv)]).length = ps0.length + 1 := by rw [List.length_append]; rfl
                  rw [hl1] at hown
                  obtain ⟨_, _, hfe, _, _, _, _, hpc⟩ := ownsN_slice hown
                  injection hfe with q2 _ q3
                  subst q2 q3
                  obtain ⟨g3, rfl, hc1⟩ := hpc _ _ (fc_at (l := ps0 ++ [(k, pv)]) (i := ps0.length) (f := (k, pv)) (by simp)).2
                  rw [hl1]
                  have c0 : (wr.drewN (q1 + 1)).cell? ⟨g3, ps0.length * 2 + 1, none⟩ = some (.string ⟨pv.toArray⟩) := hc1
                  have c1 : (wr.drewN (q1 + 1)).frozen? ⟨g3, ps0.length * 2 + 1, none⟩ = false := hown.frozenAt _
                  have HST := Lib.hid (hown.stored (ps0.length * 2 + 1) (tv (pv ++ 32 :: tr)))
                  have HNX := Lib.hid hnx
                  have HTZ := Lib.hid htz
                  have HPZ := Lib.hid hpz
                  obtain ⟨L, hL⟩ : ∃ L, L = ps0.length := ⟨_, rfl⟩
                  have hLn : L + 1 ≤ n := by have := HR.out.le; rw [hl1] at this; omega
                  rw [← hL] at c0 c1 ⊢
                  have HLL := Lib.hid hL
                  have t57 : tr.isEmpty = false := by rw [htr0, HTR.out]; rfl
                  clear hpc hc1 hown hnx htz hpz hl1 hL htr0
                  have e9 : IntKind.i64.wrap (L : Int) = (L : Int) := IntWalk.i64_in _ (by omega)
                  have d8 : (L : Int) < (L : Int) + 1 := by omega
                  have d9 : (0 : Int) ≤ (L : Int) := by omega
                  have z1 : tr.length ≤ 1000000 := by have := HTZ.out; omega
                  have z2 : pv.length ≤ 1000000 := by have := HPZ.out.2; dsimp only at this; omega
                  have z3 : ¬ 9223372036854775807 < 1 + tr.length := by omega
                  have z4 : ¬ 9223372036854775807 < pv.length + (1 + tr.length) := by omega
                  have HFN : Hid (SFR s w (G - 1) aft (.slice (some ⟨g3, 0, none⟩) (L + 1) ca) (n + 1) (ps0 ++ [(k, pv ++ 32 :: tr)]) ((wr.drewN (q1 + 1)).setCell ⟨g3, L * 2 + 1, none⟩ (.string (⟨pv.toArray⟩ ++ (⟨#[32]⟩ ++ ⟨tr.toArray⟩))))) := by
                    have e1 : (.string (⟨pv.toArray⟩ ++ (⟨#[32]⟩ ++ ⟨tr.toArray⟩)) : Value) = tv (pv ++ 32 :: tr) := by
                      rw [← tv_of, lst_cat, lst_cat, lst_mk, lst_mk]
                      rfl
                    have h2 := HLN.out
                    have h3 := HR.out
                    have h4 := HGK.out
                    have h5 := h3.sz
                    have h6 := h3.g
                    have h7 := h3.le
                    have h8 := HPZ.out
                    have h9 := HTZ.out
                    have hb := (h3.own.lt g3 rfl).1
                    rw [e1, HLL.out]
                    refine ⟨HNX.out, fun _ => h3.hd hn, ?_, h3.tu.trans' (((Turned.refl [g3] wr).drewN _).setCell (.inl (by simp)) _) (fun x hx => by rw [List.mem_singleton.1 hx]; exact hb), by omega, ?_, ?_, by omega⟩
                    · have h1 := HST.out.1
                      rw [fc_put] at h1
                      rw [List.length_append]
                      exact h1
                    · rw [List.length_append] at h7 ⊢
                      show _ + 1 ≤ _
                      have : ps0.length + 1 ≤ n := h7
                      omega
                    · intro p hp
                      rcases List.mem_append.1 hp with hp | hp
                      · have h10 := h3.ps p (List.mem_append_left _ hp)
                        exact ⟨h10.1, by omega⟩
                      · rw [List.mem_singleton.1 hp]
                        refine ⟨h8.1, ?_⟩
                        show (pv ++ 32 :: tr).length + aft.size ≤ s.size
                        have h11 : pv.length + cur.size ≤ s.size := h8.2
                        rw [List.length_append, List.length_cons]
                        omega
                  go_wp2_with (first
                    | (go_at_call 43; (with_reducible refine (TE _).mono ?_); rintro e w' ⟨rfl, rfl⟩)
                    | (go_at_call 65; (with_reducible refine (IB _ _).mono ?_); rintro e w' ⟨rfl, rfl⟩)
                    | go_in)
                  go_region_law
                    (first
                      | (go_simp; go_at_call 43; (with_reducible refine (TE _).mono ?_); rintro e w' ⟨rfl, rfl⟩))
                  all_goals
                    go_wp2_with fail
                    go_roundg (G - 1)
                    case rel => exact ⟨aft, n + 1, _, rfl, rfl, by go_num, HFN.out⟩
                    case measure => have := HGK.out; have := HR.out.g; omega
              | false =>
                have HDN : Hid (∀ c, (lst cur)[0]? = some c → blB c = false) := by
                  intro c hc
                  rw [head_line HLN.out.2.2.1 (by rw [lst_length]; exact hp0), List.getElem?_eq_getElem (by rw [lst_length]; exact hp0)] at hc
                  have e := Option.some.inj hc
                  rw [← e]
                  exact hbl
                go_upto_region 17 with fail
                go_cut [66] (fun u66 wd => u66 = .bool false ∧ wr.drewN q1 = wd)
                case first =>
                  rcases Nat.eq_zero_or_pos n with hn | hn
                  · subst hn
                    go_wp2_with (first
                      | (go_at_call 43; (with_reducible refine (TE _).mono ?_); rintro e w' ⟨rfl, rfl⟩)
                      | (go_at_call 65; (with_reducible refine (IB _ _).mono ?_); rintro e w' ⟨rfl, rfl⟩)
                      | go_in)
                    go_meet
                    exact ⟨rfl, rfl⟩
                  · have b0 : ((n : Int) == 0) = false := beq_eq_false_iff_ne.2 (by omega)
                    go_wp2_with (first
                      | (go_at_call 43; (with_reducible refine (TE _).mono ?_); rintro e w' ⟨rfl, rfl⟩)
                      | go_in)
                    go_meet
                    exact ⟨rfl, rfl⟩
                case rest =>
                obtain ⟨rfl, rfl⟩ := hcut
                go_wp2_with (first
                  | (go_at_call 65; (with_reducible refine (IB _ _).mono ?_); rintro e w' ⟨rfl, rfl⟩)
                  | go_in)
                clear TE IB hbl
                go_loopg [11] ls.size (fun g u wx => ∃ x : Nat, u = .int .i64 (x : Int) ∧ x ≤ ls.size ∧ wr.drewN q1 = wx ∧ NoC (lst ls) 58 x ∧ ls.size - x ≤ g)
                case atStart => exact ⟨0, rfl, Nat.zero_le _, rfl, (fun i hi => absurd hi (Nat.not_lt_zero i)), Nat.le_refl _⟩
                case round =>
                  obtain ⟨x, rfl, hx, rfl, hnc, hg⟩ := hrel
                  have HNC := Lib.hid hnc
                  have HGI : Hid (ls.size - (x + 1) ≤ gk - 1 ∧ (x < ls.size → 0 < gk)) := ⟨by omega, fun _ => by omega⟩
                  clear hg hnc
                  by_cases hxl : x < ls.size
                  · have d3 : (x : Int) < (ls.size : Int) := by omega
                    have d4 : (0 : Int) ≤ (x : Int) := by omega
                    have e3 : IntKind.i64.wrap ((x : Int) + 1) = (x : Int) + 1 := IntWalk.i64_in _ (by omega)
                    by_cases h58 : ls[x] = 58
                    · have t58 : ((ls[x].toNat : Int) == 58) = true := by rw [h58]; rfl
                      have HH : Hid (lst ls = (lst ls).take x ++ 58 :: (lst ls).drop (x + 1) ∧ (58 : UInt8) ∉ (lst ls).take x) := by
                        refine ⟨?_, fun hm => ?_⟩
                        · have h2 : (lst ls).drop x = 58 :: (lst ls).drop (x + 1) := by
                            rw [List.drop_eq_getElem_cons (by rw [lst_length]; exact hxl)]
                            exact congrArg (· :: _) h58
                          rw [← h2, List.take_append_drop]
                        · obtain ⟨i, hi, he⟩ := List.getElem_of_mem hm
                          rw [List.length_take] at hi
                          rw [List.getElem_take] at he
                          exact HNC.out i (by omega) (by rw [List.getElem?_eq_getElem (by omega), he])
                      have n0 : ¬ (x : Int) = (ls.size : Int) := by omega
                      have d5 : (x : Int) ≤ (ls.size : Int) := by omega
                      clear h58
                      have hkl : lst (ls.extract 0 x) = (lst ls).take x := by rw [lst_extract, List.drop_zero, Nat.sub_zero]
                      have hks : (ls.extract 0 x).size = x := by rw [← lst_length, hkl, List.length_take, lst_length]; omega
                      have IK := fun W => isKey_any (ls.extract 0 x) W (by rw [hks]; omega)
                      rw [hkl] at IK
                      rcases Nat.eq_zero_or_pos x with hx0 | hx0
                      · subst hx0
                        clear IK hkl hks
                        go_wp2_with fail
                        go_ret3
                        exact HOO.out
                      · have x0 : ¬ (x : Int) = 0 := by omega
                        have x0' : ((x : Int) == 0) = false := beq_eq_false_iff_ne.2 x0
                        cases hik : isKey ((lst ls).take x) with
                        | false =>
                          rw [hik] at IK
                          clear hkl hks
                          go_wp2_with (first
                            | (go_at_call 42; (with_reducible refine (IK _).mono ?_); rintro e w' ⟨rfl, rfl⟩)
                            | go_in)
                          go_ret3
                          exact HOO.out
                        | true =>
                          rw [hik] at IK
                          have hvl : lst (ls.extract (x + 1) ls.size) = (lst ls).drop (x + 1) := by
                            rw [lst_extract, List.take_of_length_le (by rw [List.length_drop, lst_length]; exact Nat.le_refl _)]
                          have CN := fun W => specCanon_any (ls.extract 0 x) W (by rw [hks]; omega)
                          rw [hkl] at CN
                          have TV : ∀ W, Calls Tryd.prog 43 #[.string (ls.extract (x + 1) ls.size)] W fun e w' => e = .returned (.string ⟨(trimB ((lst ls).drop (x + 1))).toArray⟩) ∧ W = w' := by
                            intro W
                            have h1 := specTrim_any (ls.extract (x + 1) ls.size) W (by rw [← lst_length, hvl, List.length_drop, lst_length]; omega)
                            rw [hvl] at h1
                            exact h1
                          obtain ⟨kk, hkk⟩ : ∃ kk, kk = (lst ls).take x := ⟨_, rfl⟩
                          obtain ⟨vr, hvr⟩ : ∃ vr, vr = (lst ls).drop (x + 1) := ⟨_, rfl⟩
                          rw [← hkk] at CN
                          rw [← hvr] at TV
                          obtain ⟨i0, hi, hz0, hz1, hz2⟩ := info_parts part_row
                          have HOWN : Hid (∀ w2 o, Turned [] wr w2 → (w2.alloc o).ownsRow w.heap.size 111 2 (.slice pa parts.length ca) parts.length (fc parts)) := fun w2 o ht => ownsN_keep HR.out.own (ht.alloc o)
                          have HTU : Hid (∀ w2, Below (wr.drewN (q1 + 1)).heap.size (wr.drewN (q1 + 1)) w2 → Turned [] wr w2) := fun w2 hb => ((Turned.refl [] wr).drewN _).trans (Turned.of_below hb)
                          have HTD : Hid (Turned [] wr (wr.drewN (q1 + 1))) := (Turned.refl [] wr).drewN _
                          have HLN2 : Hid (parts.length + 1 ≤ maxLen ∧ (parts.length + 1) * 32 ≤ 140737488355328) := by
                            have h1 := HR.out.le
                            have h2 := HR.out.sz
                            have h3 := HS.out
                            exact ⟨by unfold maxLen; omega, by omega⟩
                          have HNEW : Hid (∀ (w2 : World) (a b : Value) j u, [a, b][j]? = some u → (w2.alloc (.cells #[a, b] 111)).cell? ((⟨w2.heap.size, 0, none⟩ : Addr).add j) = some u) := by
                            intro w2 a b j u hj
                            rw [Addr.add_lit, Nat.zero_add, Blk.cell (Blk.new w2 _ _)]
                            simpa using hj
                          have HBS : Hid (∀ w2 o, Turned [] wr w2 → w.heap.size ≤ (w2.alloc o).heap.size) := fun w2 o ht => Nat.le_trans HR.out.tu.size (ht.alloc o).size
                          have HX : Hid (∀ w2 o v3 w3, Turned [] wr w2 → w3.ownsRow w.heap.size 111 2 v3 (parts.length + 1) (fc parts ++ [.string ⟨(canon kk).toArray⟩, .string ⟨(trimB vr).toArray⟩]) → (w2.alloc o).grownBy w3 (Value.ownBlock (.slice pa parts.length ca)) →
                              SFR s w (G - 1) aft v3 (n + 1) (parts ++ [(canon kk, trimB vr)]) w3) := by
                            intro w2 o v3 w3 ht ho hg
                            have h2 := HLN.out
                            have h3 := HR.out
                            have h4 := h3.sz
                            have h5 := h3.g
                            have h6 := h3.le
                            have h7 := trimB_length vr
                            have h13 := HGK.out
                            have h8 : vr.length = ls.size - (x + 1) := by rw [hvr, List.length_drop, lst_length]
                            have h9 : kk.length = x := by rw [hkk, List.length_take, lst_length]; omega
                            have h10 := h3.st.new h2.1 h2.2.1 HDN.out h2.2.2.1 HH.out.1 HH.out.2 (by intro e; rw [← hkk] at e; rw [e] at h9; simp at h9; omega) hik HVA.out
                            rw [← hkk, ← hvr, ← h2.2.2.2.1] at h10
                            refine ⟨h10, fun _ => ?_, ?_, ((h3.tu.trans ht).alloc o).grown hg (fun k hk => .inr (h3.own.lt k hk).1), by omega, ?_, ?_, by omega⟩
                            · rcases Nat.eq_zero_or_pos n with hn | hn
                              · rcases h3.st with ⟨_, _, e⟩ | ⟨h11, _⟩
                                · rw [← e]; exact HDN.out
                                · omega
                              · exact h3.hd hn
                            · rw [List.length_append, fc_append]
                              exact ho
                            · rw [List.length_append]
                              show _ + 1 ≤ _
                              omega
                            · intro p hp
                              rcases List.mem_append.1 hp with hp | hp
                              · have h12 := h3.ps p hp
                                exact ⟨h12.1, by omega⟩
                              · rw [List.mem_singleton.1 hp]
                                refine ⟨?_, ?_⟩
                                · show (canon kk).length ≤ _
                                  rw [canon_len]; omega
                                · show (trimB vr).length + aft.size ≤ s.size
                                  omega
                          clear hkl hks hvl hkk hvr hik
                          go_wp2_with (first
                            | (go_at_call 42; (with_reducible refine (IK _).mono ?_); rintro e w' ⟨rfl, rfl⟩)
                            | go_in)
                          have e4 : IntKind.i64.wrap ((x : Int) + 1) = (x : Int) + 1 := e3
                          have d6 : (x : Int) + 1 ≤ (ls.size : Int) := by omega
                          have d7 : (0 : Int) ≤ (x : Int) + 1 := by omega
                          have e5 : ((x : Int) + 1).toNat = x + 1 := by omega
                          go_region_law
                            (first
                              | (go_simp; go_at_call 45; (with_reducible refine (CN _).mono ?_); rintro e w2 ⟨rfl, hb2⟩; have HC2 := HTU.out w2 hb2; clear hb2)
                              | (go_simp; go_at_call 43; (with_reducible refine (TV _).mono ?_); rintro e w' ⟨rfl, rfl⟩)
                              | (refine step_append_at _ rfl (.tmp 108) (.tmp 119) 109 rfl w.heap.size 111 i0 (.agg #[.string ⟨#[]⟩, .string ⟨#[]⟩]) 2 32 Tryd.underlying109 hi hz0 hz1 hz2 rfl (by decide) _ parts.length (fc parts) (by simp [Act.eval]) (HOWN.out _ _ HC2) ⟨w2.heap.size, 0, none⟩ 1 1 [.string ⟨(canon kk).toArray⟩, .string ⟨(trimB vr).toArray⟩] (by simp [Act.eval]) rfl (HNEW.out w2 _ _) (by simp [Value.oneCell']) HLN2.out.1 HLN2.out.2 (HBS.out _ _ HC2) ?_; intro v3 w3 hown hgrow hat; have HXX := Lib.hid (HX.out _ _ _ _ HC2 hown hgrow); clear hown hgrow hat))
                          all_goals
                            go_wp2_with fail
                            go_roundg (G - 1)
                            case rel => exact ⟨aft, n + 1, _, rfl, rfl, by go_num, HXX.out⟩
                            case measure => have := HGK.out; have := HR.out.g; omega
                    · have t58 : ((ls[x].toNat : Int) == 58) = false := by
                        have h1 : ls[x].toNat ≠ 58 := fun e => h58 (UInt8.toNat_inj.1 e)
                        simp
                        omega
                      have HN2 : Hid (NoC (lst ls) 58 (x + 1)) := HNC.out.succ (by
                        intro e
                        rw [List.getElem?_eq_getElem (by rw [lst_length]; exact hxl)] at e
                        exact h58 (Option.some.inj e))
                      clear h58
                      go_wp2_with fail
                      go_roundg (gk - 1)
                      case rel => exact ⟨x + 1, rfl, hxl, rfl, HN2.out, HGI.out.1⟩
                      case measure => exact Nat.sub_lt (HGI.out.2 hxl) Nat.one_pos
                  · obtain rfl : x = ls.size := by omega
                    have d3 : ¬ (ls.size : Int) < (ls.size : Int) := by omega
                    have hbad : HB (lst s) := HR.out.st.bad HLN.out.1 HLN.out.2.1 (by rw [HLN.out.2.2.1]; exact HL0.out) (by
                      rw [HLN.out.2.2.1]
                      intro hm
                      obtain ⟨i, hi, he⟩ := List.getElem_of_mem hm
                      exact HNC.out i (by rw [lst_length] at hi; exact hi) (by rw [List.getElem?_eq_getElem hi, he])) HDN.out
                    have HF : Hid (SFPost s w (.returned (.tuple #[.slice none 0 0, .string ⟨#[]⟩, .int .i64 1])) (wr.drewN q1)) := by
                      refine ⟨_, _, 1, rfl, HR.out.tu.drewN q1, .inr (.inl ⟨rfl, hbad⟩), fun ⟨c, h1, h2⟩ => ?_⟩
                      rcases Nat.eq_zero_or_pos n with hn | hn
                      · rcases HR.out.st with ⟨_, _, e⟩ | ⟨h4, _⟩
                        · rw [← e] at h1; rw [HDN.out c h1] at h2; cases h2
                        · omega
                      · rw [HR.out.hd hn c h1] at h2; cases h2
                    clear hbad
                    go_wp2_with fail
                    go_ret3
                    exact HF.out
    · have HOO := Lib.hid (HO.out (wr.drewN q1) (HR.out.tu.drewN q1))
      rcases Nat.eq_zero_or_pos n with hn | hn
      · subst hn
        go_wp2_with fail
        go_ret3
        exact HOO.out
      · have b0 : (0 : Int) < (n : Int) := by omega
        by_cases hc0 : lst cur = []
        · have t0 := fstr_is hc0
          have HF : Hid (SFPost s w (.returned (.tuple #[.slice none 0 0, .string ⟨#[]⟩, .int .i64 1])) (wr.drewN q1)) := ⟨_, _, 1, rfl, HR.out.tu.drewN q1, .inr (.inl ⟨rfl, by
            have := HR.out.st
            rw [hc0] at this
            exact this.eof⟩), fun ⟨c, h1, h2⟩ => by rw [HR.out.hd hn c h1] at h2; cases h2⟩
          clear hc0
          go_wp2_with fail
          go_ret3
          exact HF.out
        · have t0 := fstr_not hc0
          clear hc0
          go_wp2_with fail
          go_ret3
          exact HOO.out
end Go.Proofs.YthobojpbdeepoaaDoor

/- The walk of laws.FnFields. -/
namespace Go.Proofs.YthobojpbdeepoaaDoor
open Go.RowKit

theorem Sent.raise {w : World} {K K' g : Nat} {a : Addr} (h : Sent w K g a) (hK : K ≤ K') : Sent w K' g a := ⟨Nat.lt_of_lt_of_le h.glob hK, Nat.lt_of_lt_of_le h.below hK, h.cell, h.row⟩
theorem Ends3.upF {w w' : World} {ae fe ue : Addr} (h : Ends3 w w.heap.size ae fe ue) (hT : Turned [] w w') : Ends3 w' w'.heap.size ae fe ue := by
  have h1 := h.keep (hT.below (Nat.le_refl _) (by simp))
  exact ⟨⟨h1.e2.eof.raise hT.size, h1.e2.full.raise hT.size, h1.e2.ne⟩, h1.cut.raise hT.size, h1.neu⟩
theorem EndsM.up {w w' : World} {ae fe ue me : Addr} (h : EndsM w w.heap.size ae fe ue me) (hT : Turned [] w w') : EndsM w' w'.heap.size ae fe ue me :=
  ⟨h.e3.upF hT, (h.msg.keep (hT.below (Nat.le_refl _) (by simp))).raise hT.size, h.nea, h.neu⟩

set_option maxRecDepth 100000 in
set_option maxHeartbeats 4000000 in
theorem fnFields_any (p : Option Addr) (l : List UInt8) (cap : Nat) (ae fe ue me : Addr) (w : World) (h : DataAt w p l) (hE : EndsM w w.heap.size ae fe ue me) :
    Calls Tryd.prog 15 #[.slice p l.length cap] w fun e w' => e = .returned (.bool true) ∧ Turned [] w w' := by
  by_cases hbig : 65536 < l.length
  · have b0 : (65536 : Int) < (l.length : Int) := by omega
    by_cases hb2 : 2147483647 < l.length
    · have b1 : (2147483647 : Int) < (l.length : Int) := by omega
      go_enter Tryd.func15, Tryd.ntmps15
      go_wp2_with fail
      go_ret
      exact ⟨rfl, Turned.refl _ _⟩
    · have b1 : ¬ (2147483647 : Int) < (l.length : Int) := by omega
      go_enter Tryd.func15, Tryd.ntmps15
      go_wp2_with fail
      go_ret
      exact ⟨rfl, Turned.refl _ _⟩
  · have b0 : ¬ (65536 : Int) < (l.length : Int) := by omega
    have b1 : ¬ (2147483647 : Int) < (l.length : Int) := by omega
    have hs := string_of_rowP h.rowP cap
    have SL := specFields_any ⟨l.toArray⟩ w (by rw [fsize_mk]; omega)
    have HL : Hid (l.length ≤ 65536) := by show _ ≤ _; omega
    have HD := Lib.hid h
    have HE := Lib.hid hE
    clear h hE
    go_enter Tryd.func15, Tryd.ntmps15
    go_wp2_with fail
    go_at_call 39
    refine SL.mono ?_
    rintro e w1 ⟨fv, r, what, rfl, hT1, hor, hbl⟩
    rw [lst_mk] at hor hbl
    rw [fsize_mk] at hor
    have HT1 := Lib.hid hT1
    clear SL hs hT1
    by_cases hhead : ∃ c, l[0]? = some c ∧ blB c = true
    · obtain rfl := hbl hhead
      obtain ⟨c, hc, hb⟩ := hhead
      have IB := implHdr_blank p l cap ae fe ue me w1 (HD.out.keep HT1.out) (by have := HL.out; omega) (HE.out.up HT1.out) c hc hb
      clear hor hbl hc hb
      go_wp2_with fail
      go_at_call 40
      (with_reducible refine IB.mono ?_)
      rintro e w3 ⟨lv, p3, n3, cap3, kd, rfl, hT3⟩
      have HF : Hid (Turned [] w w3) := HT1.out.trans hT3
      clear IB hT3
      go_wp2_with fail
      go_ret
      exact ⟨rfl, HF.out⟩
    · have IH := implHdr_any p l cap ae fe ue w1 (HD.out.keep HT1.out) (by have := HL.out; omega) (HE.out.up HT1.out).e3 (fun c hc => by
        cases hb : blB c with
        | false => rfl
        | true => exact absurd ⟨c, hc, hb⟩ hhead)
      clear hbl hhead
      rcases hor with ⟨rfl, qs, ho, hg, hq⟩ | ⟨rfl, hb⟩ | rfl
      · obtain ⟨rl, rfl⟩ : ∃ x : List UInt8, r = ⟨x.toArray⟩ := ⟨lst r, (mk_lst r).symm⟩
        rw [lst_mk] at hg
        have HG1 := Lib.hid hg
        have HO1 := Lib.hid ho
        have HQ1 := Lib.hid hq
        clear hg ho hq
        go_wp2_with fail
        go_at_call 40
        (with_reducible refine IH.mono ?_)
        rintro e w4 ⟨all, lv, p2, nn, c2, bb, kd, rfl, hT4, hr4, hnn, hO4, hall4, hG, _⟩
        obtain ⟨rfl, rfl, hdr⟩ := hG _ _ HG1.out
        have HT4 : Hid (Turned [] w w4) := HT1.out.trans hT4
        have LF := lawFields_any lv fv bb w.heap.size _ w4 hO4 (ownsN_keep HO1.out hT4) (by have := HL.out; omega)
        rw [← hdr] at hr4 ⊢
        have cv1 := fun q => string_of_rowP (w := w4.drewN q) (rowP_new hr4 ((Turned.refl [] w4).drewN q)) c2
        clear IH hT4 hr4 hnn hO4 hall4 hG hdr
        go_wp2_with fail
        go_at_call 41
        (with_reducible refine LF.mono ?_)
        rintro e w5 ⟨rfl, q5, rfl⟩
        have HT5 : Hid (Turned [] w (w4.drewN q5)) := HT4.out.drewN q5
        clear LF
        go_wp2_with fail
        go_ret
        exact ⟨ret_bool (by simp), HT5.out⟩
      · go_wp2_with fail
        go_at_call 40
        (with_reducible refine IH.mono ?_)
        rintro e w4 ⟨all, lv, p2, nn, c2, bb, kd, rfl, hT4, hr4, hnn, hO4, hall4, _, hB⟩
        have hkd := hB hb
        have HK := Lib.hid hkd
        have HT4 : Hid (Turned [] w w4) := HT1.out.trans hT4
        clear IH hT4 hr4 hnn hO4 hall4 hB hb hkd
        go_wp2_with fail
        go_ret
        exact ⟨ret_bool (by simp; exact HK.out), HT4.out⟩
      · go_wp2_with fail
        go_at_call 40
        (with_reducible refine IH.mono ?_)
        rintro e w4 ⟨all, lv, p2, nn, c2, bb, kd, rfl, hT4, hr4, hnn, hO4, hall4, _, _⟩
        have HT4 : Hid (Turned [] w w4) := HT1.out.trans hT4
        clear IH hT4 hr4 hnn hO4 hall4
        go_wp2_with fail
        go_ret
        exact ⟨rfl, HT4.out⟩
end Go.Proofs.YthobojpbdeepoaaDoor
