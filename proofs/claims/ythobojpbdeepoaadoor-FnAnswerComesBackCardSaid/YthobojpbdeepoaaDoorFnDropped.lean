/-
  The walks of impl.DotsThen and of laws.FnRestOfBlockIsDropped.
-/
import Derived.Test.YthobojpbdeepoaaDoorDotOpen
import Derived.Test.YthobojpbdeepoaaDoorSpecDots
import Derived.Test.YthobojpbdeepoaaDoorFnLineWalk
namespace Go.Proofs.YthobojpbdeepoaaDoor
open Go.RowKit

/-- What is known of the three sentinels. -/
structure Ends3 (w : World) (K : Nat) (ae fe ue : Addr) : Prop where
  e2 : Ends w K ae fe
  cut : Sent w K 1 ue
  neu : ae ≠ ue
theorem Sent.keepK {w w' : World} {K g : Nat} {a : Addr} (h : Sent w K g a) (hb : Below K w w') : Sent w' K g a := h.keep hb

/-- Sixteen zero bytes. -/
def zero16 : List Value := List.replicate 16 (.int .u8 0)
theorem make16 (w : World) : (Instr.makeSlice 22 (.int .i64 16) (.int .i64 16)).run Tryd.prog w = .ok (.slice (some ⟨w.heap.size, 0, none⟩) 16 16) (w.alloc (.cells zero16.toArray 5)) := by kernel_rfl

/-- What a round of DotsThen's loop keeps. -/
structure DTR (k : RK) (w : World) (T D : Nat) (st1 : Nat) (s1 : RS) (op : Bool) (wr : World) : Prop where
  rd : Rd wr k s1
  tu : Turned (tdBlocks k T D) w wr
  dt : Dt wr k T D st1 op
  eq : (dec k.d 0).2 = (dec (k.d.drop s1.pos) st1).2
  s5 : st1 ≤ 5
  fin : op = false → After k 0 0 s1.pos

theorem DTR.next {k : RK} {s1 : RS} {w wr w2 : World} {T D G st1 : Nat} {ue : Addr} {n : Nat} {cur : List Value} (hG : w.heap.size ≤ G) (h : DTR k w T D st1 s1 true wr) {w1 : World} (hw : Turned [] wr w1) {e : Ending}
    (h2 : DotPost k s1 w1 T D st1 true G 0 n cur ue e w2) :
    ∃ out st2 s2 op2 er, e = .returned (.tuple #[.int .i64 ((out : List UInt8).length : Int), er]) ∧ DTR k w T D st2 s2 op2 w2 ∧ ((er = .nilIface ∧ op2 = true) ∨ (∃ a, er = errAt a ∧ op2 = false)) := by
  obtain ⟨out, st2, s2, op2, er, rfl, hr, hor⟩ := h2
  have heq : (dec (k.d.drop s1.pos) st1).2 = (dec (k.d.drop s2.pos) st2).2 := by rw [hr.eq]
  refine ⟨out, st2, s2, op2, er, rfl, ⟨hr.rd, (h.tu.trans (hw.mono (by simp))).noG hG hr.tu, hr.dt, h.eq.trans heq, hr.s5, ?_⟩, ?_⟩
  · intro ho
    rcases hor with ⟨_, _, _, h1⟩ | ⟨_, rfl, _⟩ | ⟨_, h1, h5, _⟩
    · rw [h1] at ho; cases ho
    · left
      show (dec (k.d.drop 0) 0).2 = _
      rw [List.drop_zero, h.eq, heq, dec5]
    · right
      refine ⟨?_, h1⟩
      show (dec (k.d.drop 0) 0).2 = _
      rw [List.drop_zero, h.eq, heq, h1, List.drop_length, dec_nil, if_neg h5]
  · rcases hor with ⟨h1, _, _, h2⟩ | ⟨h1, _, h2⟩ | ⟨h1, _, _, h2⟩
    · exact .inl ⟨h1, h2⟩
    · exact .inr ⟨_, h1, h2⟩
    · exact .inr ⟨_, h1, h2⟩

/-- What impl.DotsThen answers: of a line behind place p, where the block has been left. -/
def DTPost (l : List UInt8) (w : World) (e : Ending) (w' : World) : Prop :=
  ∃ (txt : List UInt8) (kd : Int) (p : Nat), e = .returned (.tuple #[.string ⟨txt.toArray⟩, .int .i64 kd]) ∧ Turned [] w w' ∧ ((dec l 0).2 = some (l.drop p) ∨ (dec l 0).2 = none) ∧
    ((∃ j, (l.drop p)[j]? = some 10 ∧ NoNl (l.drop p) 0 j ∧ txt = trimCR ((l.drop p).take j) ∧ kd = 0) ∨ (NoNl (l.drop p) 0 (l.drop p).length ∧ (l.drop p = [] → kd = 1)))
theorem noNl_drop {d : List UInt8} {p n : Nat} (h : NoNl d p n) : NoNl (d.drop p) 0 n := fun j hj => by
  rw [List.getElem?_drop, Nat.zero_add]; exact h j hj
theorem dt_post {k : RK} {s : RS} {w w1 w2 : World} {e : Ending} (hA : After k 0 0 s.pos) (hT : Turned [] w w1) (hK : w.heap.size ≤ k.K) (hR : Rd w1 k s) (h : TLPost k s w1 e w2) :
    ∃ txt er, e = .returned (.tuple #[.string ⟨(txt : List UInt8).toArray⟩, er]) ∧ Turned [] w w2 ∧ ((er = errAt k.ae ∧ DTPost k.d w (.returned (.tuple #[.string ⟨txt.toArray⟩, .int .i64 1])) w2) ∨ (er = .nilIface ∧ DTPost k.d w (.returned (.tuple #[.string ⟨txt.toArray⟩, .int .i64 0])) w2)) := by
  have hA' : (dec k.d 0).2 = some (k.d.drop s.pos) ∨ (dec k.d 0).2 = none := by
    rcases hA with h | ⟨h, _⟩
    · exact .inl (by simpa using h)
    · exact .inr (by simpa using h)
  obtain ⟨s', hR', hT', hor⟩ := h
  have hTT := hT.fresh hT' (fun x hx => Nat.le_trans hK (hR.blocks_new x hx))
  have hld : (k.d.drop s.pos).length = k.d.length - s.pos := List.length_drop
  rcases hor with ⟨rfl, h1, h2, h3⟩ | ⟨l, rfl, hl, hor⟩
  · exact ⟨[], _, rfl, hTT, .inl ⟨rfl, [], 1, s.pos, rfl, hTT, hA', .inr ⟨by rw [hld]; exact noNl_drop h2, fun _ => rfl⟩⟩⟩
  · refine ⟨l, _, rfl, hTT, .inr ⟨rfl, l, 0, s.pos, rfl, hTT, hA', ?_⟩⟩
    rcases hor with ⟨j, h1, h2, h3, h4⟩ | ⟨h1, h2, h3, h4⟩
    · exact .inl ⟨j, by rw [List.getElem?_drop]; exact h1, noNl_drop h2, h3, rfl⟩
    · exact .inr ⟨by rw [hld]; exact noNl_drop h3, fun h0 => absurd (by rw [h2, h0]) h1⟩

set_option maxRecDepth 100000 in
set_option maxHeartbeats 4000000 in
theorem dotsThen_any (p : Option Addr) (l : List UInt8) (cap : Nat) (n : Int) (ae fe ue : Addr) (w : World) (h : DataAt w p l) (hl : l.length ≤ 4294967296) (hn0 : 0 ≤ n) (hn : n ≤ 65536) (hE : Ends3 w w.heap.size ae fe ue) :
    Calls Tryd.prog 33 #[.slice p l.length cap, .int .i64 n] w (DTPost l w) := by
  have MR := mkReader_any p l cap ae w h hl hE.e2.eof
  go_enter Tryd.func33, Tryd.ntmps33
  go_wp2_with fail
  go_at_call 47
  refine MR.mono ?_
  rintro e w1 ⟨k, s, T, rfl, hT1, hkd, hkK, hka, hR1, hTp1, hpos, _, _⟩
  subst hkd
  subst hka
  have DR := dotReader_any k s w1 T hR1 hTp1
  go_wp2_with fail
  go_at_call 59
  refine DR.mono ?_
  rintro e w2 ⟨D, rfl, hT2, hR2, hD2⟩
  have hT12 : Turned [] w w2 := hT1.fresh hT2 (fun x hx => by
    simp at hx
    subst hx
    rw [← hkK]
    exact hTp1.kt)
  have HB : Hid (∀ wr, Turned (tdBlocks k T D) w2 wr → Turned [] w wr) := fun wr hx => hT12.fresh hx (fun x hx => by
    have h1 := hR2.kb
    have h2 := hR2.kc
    have h3 := hR2.ky
    have h4 := hD2.kt
    have h5 := hD2.kd
    simp [tdBlocks, RK.blocks] at hx
    omega)
  have HK : Hid (w.heap.size ≤ k.K) := by show _ ≤ _; omega
  have HE : Hid (∀ wr, Turned [] w wr → Ends3 wr k.K k.ae fe ue) := fun wr hx => by
    have hb := hx.below (Nat.le_refl _) (by simp)
    rw [hkK]
    exact ⟨⟨hE.e2.eof.keep hb, hE.e2.full.keep hb, hE.e2.ne⟩, hE.cut.keep hb, hE.neu⟩
  have H0 : Hid (DTR k w2 T D 0 s true w2) := ⟨hR2, Turned.refl _ _, hD2, by rw [hpos, List.drop_zero], by decide, (fun h => by cases h)⟩
  clear h hl hE MR hT1 hR1 hTp1 hpos DR hT2 hR2 hD2 hT12 hkK
  go_wp2_with fail
  go_loopg [8, 9] n.toNat (fun g er i wr => ∃ st1 s1 op, ∃ j : Nat, DTR k w2 T D st1 s1 op wr ∧ i = .int .i64 (j : Int) ∧ (j : Int) ≤ n ∧ n.toNat - j ≤ g ∧ ((er = .nilIface ∧ op = true) ∨ (∃ a, er = errAt a ∧ op = false)))
  case atStart => exact ⟨0, s, true, 0, H0.out, rfl, hn0, Nat.le_refl _, .inl ⟨rfl, rfl⟩⟩
  case round =>
    obtain ⟨st1, s1, op, j, hr, rfl, hjn, hg, hor⟩ := hrel
    have hTr := HB.out _ hr.tu
    have hEr := HE.out _ hTr
    by_cases hgo : op = true ∧ (j : Int) < n
    · obtain ⟨rfl, hj⟩ := hgo
      obtain rfl : u8 = .nilIface := by
        rcases hor with ⟨h1, _⟩ | ⟨_, _, h1⟩
        · exact h1
        · cases h1
      have mk := make16
      have ma := dot_ahead ⟨D, 0, none⟩
      have mm := dot_method ⟨D, 0, none⟩
      have hTa : Turned [] wr ((wr.alloc (.cells zero16.toArray 5)).drew) := ((Turned.refl _ _).alloc _).drew
      have RD := Lib.hid (dotRead_any k s1 _ T D st1 true wr.heap.size 0 16 16 zero16 ue (hr.rd.keepNew hTa) (hr.dt.keep hTa (by simp) (by simp)) (bf_new (cap := 16) hr.rd (Nat.le_refl _) ((Blk.new wr _ _).drew) rfl 0 (by decide)) hr.s5 (by decide) (hEr.cut.keep (hTa.below (by have h1 := hr.rd.kb; have h2 := hr.rd.bb.lt; omega) (by simp))))
      have HN := Lib.hid (fun e w3 => DTR.next (e := e) (w2 := w3) (ue := ue) (n := 16) (G := wr.heap.size) (cur := zero16) hr.tu.size hr hTa)
      have e1 : IntKind.i64.wrap ((j : Int) + 1) = (j : Int) + 1 := IntWalk.i64_in _ (by omega)
      have HJ : Hid (n.toNat - (j + 1) ≤ gk - 1 ∧ 1 ≤ gk) := ⟨by omega, by omega⟩
      clear hr hTr hEr hTa hor hg
      go_wp2_with fail
      go_region_held3 (fun w' => True) (trivial) (first | (go_at_call 94; (with_reducible refine RD.out.mono ?_); intro e w3 hP; obtain ⟨out, st2, s2, op2, er, rfl, hr2, hor2⟩ := HN.out _ _ hP; clear hP))
      all_goals
        have H2 := Lib.hid hr2
        have HO := Lib.hid hor2
        clear hr2 hor2 RD HN
        go_wp2_with fail
        go_roundg (gk - 1)
        case rel => exact ⟨st2, s2, op2, j + 1, H2.out, by go_num, by omega, HJ.out.1, HO.out⟩
        case measure => have := HJ.out.2; omega
    · have CD : Hid (Calls Tryd.prog 82 #[.pointer (some ⟨T, 0, none⟩)] wr fun e w1 => e = .returned (.tuple #[]) ∧ ∃ s, Hid (After k 0 0 s.pos ∧ Turned [] w w1) ∧ Rd w1 k s ∧ Tp w1 k T ∧ Sent w1 k.K 6 fe) := by
        cases op
        · refine (closeDot_nil k T wr hr.dt.tp).mono ?_
          rintro e w1 ⟨rfl, rfl⟩
          exact ⟨rfl, s1, ⟨hr.fin rfl, hTr⟩, hr.rd, hr.dt.tp, hEr.e2.full⟩
        · refine (closeDot_open k s1 wr T D st1 ue hr.rd hr.dt hr.s5 hEr.cut).mono ?_
          rintro e w1 ⟨rfl, s', st', hR, hT, hD, hA⟩
          have hT3 := HB.out _ (hr.tu.trans hT)
          refine ⟨rfl, s', ⟨?_, hT3⟩, hR, hD.tp, (HE.out _ hT3).e2.full⟩
          unfold After at hA ⊢
          rw [List.drop_zero, hr.eq]
          exact hA
      have TL := Lib.hid (tpLine_gen k wr fe T (fun w1 s => After k 0 0 s.pos ∧ Turned [] w w1) hEr.e2.ne CD.out)
      have hcond : ((j : Int) < n ∧ ∃ a, u8 = errAt a) ∨ (¬ (j : Int) < n ∧ (u8 = .nilIface ∨ ∃ a, u8 = errAt a)) := by
        by_cases hj : (j : Int) < n
        · rcases hor with ⟨_, h1⟩ | ⟨a, h1, _⟩
          · exact absurd ⟨h1, hj⟩ hgo
          · exact .inl ⟨hj, a, h1⟩
        · rcases hor with ⟨h1, _⟩ | ⟨a, h1, _⟩
          · exact .inr ⟨hj, .inl h1⟩
          · exact .inr ⟨hj, .inr ⟨a, h1⟩⟩
      clear hr hTr hEr hor hgo CD hg
      have fin : ∀ {P : Prop}, P → P := fun h => h
      rcases hcond with ⟨hj, a, rfl⟩ | ⟨hj, rfl | ⟨a, rfl⟩⟩
      all_goals
        go_wp2_with fail
        go_at_call 63
        refine TL.out.mono ?_
        rintro e w3 ⟨w1, s2, ⟨hA, hT1⟩, hR, hT, hP⟩
        obtain ⟨txt, er, rfl, hTT, hor⟩ := dt_post hA hT1 HK.out hR hP
        have hE3 := HE.out _ hTT
        clear hA hT1 hR hT hP TL hTT
        rcases hor with ⟨rfl, hF⟩ | ⟨rfl, hF⟩
        · have HF := Lib.hid hF
          have KD := kind_eof w3 hE3.e2.eof
          clear hF hE3
          go_wp2_with (go_at_call 50; (with_reducible refine KD.mono ?_); rintro e w4 ⟨rfl, rfl⟩)
          go_ret2
          exact HF.out
        · have HF := Lib.hid hF
          have KD := kind_nil w3
          clear hF hE3
          go_wp2_with (go_at_call 50; (with_reducible refine KD.mono ?_); rintro e w4 ⟨rfl, rfl⟩)
          go_ret2
          exact HF.out

theorem DataAt.drewN {w : World} {p : Option Addr} {l : List UInt8} (h : DataAt w p l) (n : Nat) : DataAt (w.drewN n) p l := by
  rcases h with h | ⟨b, off, h1, h2, h3⟩
  · exact .inl h
  · exact .inr ⟨b, off, h1, h2, h3.of_block rfl⟩
theorem DataAt.rowP {w : World} {p : Option Addr} {l : List UInt8} (h : DataAt w p l) : RowP w p l := by
  rcases h with rfl | ⟨b, off, rfl, _, hr⟩
  · exact .inl rfl
  · exact .inr ⟨b, off, rfl, hr⟩
theorem Sent.drewN {w : World} {K g : Nat} {a : Addr} (h : Sent w K g a) (n : Nat) : Sent (w.drewN n) K g a := ⟨h.glob, h.below, h.cell, h.row⟩
theorem Ends3.drewN {w : World} {K : Nat} {ae fe ue : Addr} (h : Ends3 w K ae fe ue) (n : Nat) : Ends3 (w.drewN n) K ae fe ue := ⟨⟨h.e2.eof.drewN n, h.e2.full.drewN n, h.e2.ne⟩, h.cut.drewN n, h.neu⟩

/-- A good block: what is left behind it. -/
theorem sd_after {s : List UInt8} {ls : List (List UInt8)} {rest : List UInt8} (h : Lns ls) (hs : s = crlfs ls ++ 46 :: 13 :: 10 :: rest) : dec s 0 = (lfs (ls.map unstuff), some rest) := by
  rw [hs, dec_lines _ ls h, dec_end]; simp

set_option maxRecDepth 100000 in
set_option maxHeartbeats 4000000 in
theorem fnRestOfBlockIsDropped_any (p : Option Addr) (l : List UInt8) (cap : Nat) (n : Int) (ae fe ue : Addr) (w : World) (h : DataAt w p l) (hE : Ends3 w w.heap.size ae fe ue) :
    Calls Tryd.prog 10 #[.slice p l.length cap, .int .i64 n] w fun e w' => e = .returned (.bool true) ∧ Turned [] w w' := by
  by_cases hbig : 65536 < l.length ∨ n < 0 ∨ 65536 < n
  · by_cases hb2 : 2147483647 < l.length
    · have b1 : (2147483647 : Int) < (l.length : Int) := by omega
      go_enter Tryd.func10, Tryd.ntmps10
      go_wp2_with fail
      go_ret
      exact ⟨rfl, Turned.refl _ _⟩
    · have b1 : ¬ (2147483647 : Int) < (l.length : Int) := by omega
      by_cases hb : 65536 < l.length
      · have b0 : (65536 : Int) < (l.length : Int) := by omega
        go_enter Tryd.func10, Tryd.ntmps10
        go_wp2_with fail
        go_ret
        exact ⟨rfl, Turned.refl _ _⟩
      · have b0 : ¬ (65536 : Int) < (l.length : Int) := by omega
        by_cases hn : n < 0
        · go_enter Tryd.func10, Tryd.ntmps10
          go_wp2_with fail
          go_ret
          exact ⟨rfl, Turned.refl _ _⟩
        · have hn2 : 65536 < n := by omega
          go_enter Tryd.func10, Tryd.ntmps10
          go_wp2_with fail
          go_ret
          exact ⟨rfl, Turned.refl _ _⟩
  · have b0 : ¬ (65536 : Int) < (l.length : Int) := by omega
    have b1 : ¬ (2147483647 : Int) < (l.length : Int) := by omega
    have b2 : ¬ n < 0 := by omega
    have b3 : ¬ 65536 < n := by omega
    have hs := string_of_rowP h.rowP cap
    have SD := specDots_any ⟨l.toArray⟩ w (by show l.toArray.size ≤ _; simp; omega)
    have DT := Lib.hid (fun q => dotsThen_any p l cap n ae fe ue (w.drewN q) (h.drewN q) (by omega) (by omega) (by omega) (hE.drewN q))
    clear h hE hbig
    go_enter Tryd.func10, Tryd.ntmps10
    go_wp2_with fail
    go_at_call 28
    refine SD.mono ?_
    rintro e w1 ⟨⟨q, rfl⟩, text, rest, what, rfl, hts, hor⟩
    by_cases h0 : what = 0
    · subst h0
      have hd : (dec l 0).2 = some (lst rest) := by
        rcases hor with ⟨_, ls, h1, h2, _⟩ | ⟨h1, _⟩ | h1
        · have h3 := sd_after h1 h2
          rw [lst_mk] at h3
          rw [h3]
        · cases h1
        · cases h1
      have HD : Hid (∀ p, ((dec l 0).2 = some (l.drop p) ∨ (dec l 0).2 = none) → l.drop p = lst rest) := fun p h => by
        rw [hd] at h
        rcases h with h | h
        · exact (Option.some.inj h).symm
        · cases h
      have SL := Lib.hid (fun n => specLine_any rest (w.drewN n) (by
        rcases hor with ⟨_, ls, h1, h2, _⟩ | ⟨h1, _⟩ | h1
        · have h3 := congrArg List.length h2
          simp [lst_length] at h3
          have h4 : (⟨l.toArray⟩ : ByteArray).size = l.length := by show l.toArray.size = _; simp
          omega
        · cases h1
        · cases h1))
      clear hor hd SD hts
      go_wp2_with fail
      go_at_call 31
      refine (SL.out _).mono ?_
      rintro e w1 ⟨⟨q, rfl⟩, hor⟩
      rcases hor with ⟨j, h1, h2, rfl⟩ | ⟨h0, h2, rfl⟩ | ⟨h0, rfl⟩
      · have HJ : Hid (∀ j', (lst rest)[j']? = some 10 → NoNl (lst rest) 0 j' → j' = j) := fun j' g1 g2 => by
          rcases Nat.lt_trichotomy j' j with h | h | h
          · exact absurd (by simpa using g1) (h2 j' h)
          · exact h
          · exact absurd (by simpa using h1) (g2 j h)
        have HB : Hid (¬ NoNl (lst rest) 0 (lst rest).length) := fun h => h j (List.getElem?_eq_some_iff.1 h1).1 (by simpa using h1)
        clear h1 h2 SL
        go_wp2_with fail
        go_at_call 33
        refine (DT.out _).mono ?_
        rintro e w3 ⟨txt, kd, p', rfl, hT3, hA, hor⟩
        have HF : Hid (Turned [] w w3) := ((Turned.refl [] w).drewN _).trans hT3
        rw [HD.out p' hA] at hor
        rcases hor with ⟨j', g1, g2, rfl, rfl⟩ | ⟨g1, _⟩
        · obtain rfl := HJ.out j' g1 g2
          clear hT3 DT HJ HB g1 g2 hA HD
          go_wp2_with fail
          go_ret
          exact ⟨ret_bool (by simp), HF.out⟩
        · exact absurd g1 HB.out
      · clear SL h2 HD
        go_wp2_with fail
        go_at_call 33
        refine (DT.out _).mono ?_
        rintro e w3 ⟨txt, kd, p', rfl, hT3, hA, hor⟩
        have HF : Hid (Turned [] w w3) := ((Turned.refl [] w).drewN _).trans hT3
        clear hT3 DT hA hor
        go_wp2_with fail
        go_ret
        exact ⟨rfl, HF.out⟩
      · have hr0 : lst rest = [] := List.eq_nil_of_length_eq_zero (by rw [lst_length, h0])
        clear SL h0
        go_wp2_with fail
        go_at_call 33
        refine (DT.out _).mono ?_
        rintro e w3 ⟨txt, kd, p', rfl, hT3, hA, hor⟩
        have HF : Hid (Turned [] w w3) := ((Turned.refl [] w).drewN _).trans hT3
        rw [HD.out p' hA, hr0] at hor
        rcases hor with ⟨j', g1, _⟩ | ⟨_, g1⟩
        · simp at g1
        · obtain rfl := g1 rfl
          clear hT3 DT g1 hA HD hr0
          go_wp2_with fail
          go_ret
          exact ⟨rfl, HF.out⟩
    · have t0 : (what != 0) = true := by simpa using h0
      clear hor SD
      go_wp2_with fail
      go_ret
      exact ⟨rfl, (Turned.refl _ _).drewN _⟩
end Go.Proofs.YthobojpbdeepoaaDoor
