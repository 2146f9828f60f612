/-
  The contract of (*textproto.Reader).ReadResponse.
-/
import Derived.Test.YthobojpbdeepoaaDoorRespLaw
namespace Go.Proofs.YthobojpbdeepoaaDoor
open Go.RowKit

/-- What a round keeps. -/
structure RRR (k : RK) (w1 : World) (n : Int) (b : Bool) (P0 : Res → Prop) (more : Bool) (msg : List UInt8) (s2 : RS) (wr : World) : Prop where
  rd : Rd wr k s2
  tu : Turned k.blocks w1 wr
  sb : Sb wr w1.heap.size w1.heap.size msg
  j : ∀ r, P0 r → r = .left ∨ SResp n more (k.d.drop s2.pos) msg r
  mb : more = true → b = true
  len : msg.length ≤ 2 * s2.pos
section
variable {k : RK} {w1 wr w2 w3 : World} {n : Int} {b more : Bool} {P0 : Res → Prop} {msg : List UInt8} {s1 s2 s3 : RS}
/-- Behind a write to the builder. -/
theorem bu_behind (hR1 : Rd w1 k s1) (hR : Rd wr k s2) (hT : Turned k.blocks w1 wr) (hB : Below w1.heap.size wr w2) : Rd w2 k s2 ∧ Turned k.blocks w1 w2 :=
  ⟨hR.grown hR1 hB.size (fun x hx => hB.block x hx), hT.belowB hB⟩
/-- Behind a read. -/
theorem bu_read (hR1 : Rd w1 k s1) (hS : Sb wr w1.heap.size w1.heap.size msg) (hT : Turned k.blocks wr w2) : Sb w2 w1.heap.size w1.heap.size msg := by
  refine hS.keep hT (fun x hx => ?_)
  have b1 := hR1.bb.lt
  have b2 := hR1.cb.lt
  have b3 := hR1.yb.lt
  simp [RK.blocks] at hx
  omega
end
theorem buNl_any (B b : Nat) (l : List UInt8) (w : World) (h : Sb w B b l) (hlen : l.length + 1 ≤ 4294967296) (hBw : B ≤ w.heap.size) :
    Calls Tryd.prog 77 #[.pointer (some ⟨b, 0, none⟩), .int .u8 10] w fun e w' => e = .returned .nilIface ∧ Sb w' B b (l ++ [10]) ∧ Below B w w' := buWriteByte_any B b l 10 w h hlen hBw
theorem fits_zero (n : Int) : fitsB n 0 = true := rfl

set_option maxRecDepth 100000 in
set_option maxHeartbeats 16000000 in
theorem readResponse_any (k : RK) (s : RS) (x : Int) (w : World) (T : Nat) (fe ue se : Addr) (h : Rd w k s) (hT : Tp w k T) (hx : x < 1000) (hd : k.d.length ≤ 1048576) (hE : EndsS w k.K k.ae fe ue se) :
    Calls Tryd.prog 51 #[.pointer (some ⟨T, 0, none⟩), .int .i64 x] w (RRPost k s x w) := by
  have RC := Lib.hid (readCode_any k s x w T fe ue se h hT hx hE)
  have HK : Hid (k.K ≤ w.heap.size) := by have := h.kb; have := h.bb.lt; show _ ≤ _; omega
  have HE := Lib.hid (fun w' (ht : Turned k.blocks w w') => hE.keep (h.below ht))
  have HTp := Lib.hid (fun w' (ht : Turned k.blocks w w') => hT.keep h ht)
  have HD : Hid (k.d.length ≤ 1048576) := hd
  have HNE := Lib.hid hE.e3.e2.ne
  clear h hT hE hd
  go_enter Tryd.func51, Tryd.ntmps51
  go_wp2_with fail
  go_at_call 73
  (with_reducible refine RC.out.mono ?_)
  rintro e w1 ⟨s1, n, b, t, er, rfl, hR, hTu, ho⟩
  obtain ⟨q, P0, hq, htl, hP0, h100, hOK, hEOF⟩ := rr_cases hTu ho
  have HQ := Lib.hid hq
  have HR1 := Lib.hid hR
  have HT1 := Lib.hid hTu
  have H100 := Lib.hid h100
  have HOK := Lib.hid hOK
  have HEOF := Lib.hid hEOF
  have hpl := hR.pos_le
  have hil := hR.il
  have hts : t.size ≤ 2097152 := by have := HD.out; rw [lst_length] at htl; omega
  have WS := Lib.hid (buWriteString_any w1.heap.size w1.heap.size [] t (w1.alloc (.cells #[.pointer none, .slice none 0 0] 134)) (Sb.fresh w1) (by simp; omega) (by simp))
  have HI : Hid (∀ w2, Sb w2 w1.heap.size w1.heap.size ([] ++ lst t) → Below w1.heap.size (w1.alloc (.cells #[.pointer none, .slice none 0 0] 134)) w2 → RRR k w1 n b P0 b (lst t) s1 w2) := fun w2 hS hB => by
    have hT2 : Turned [] w1 w2 := ((Turned.refl [] w1).alloc _).belowB hB
    exact ⟨HR1.out.keepNew hT2, hT2.mono (by simp), by simpa using hS, fun r hr => .inr (hP0 r hr), id, htl⟩
  have HP : Hid (s1.pos ≤ k.d.length) := by show _ ≤ _; omega
  clear hR hTu ho hOK hEOF h100 htl hpl hil RC hP0 hq
  go_wp2_with fail
  go_at_call 75
  (with_reducible refine WS.out.mono ?_)
  rintro e w2 ⟨rfl, hS2, hB2⟩
  have HI2 := Lib.hid (HI.out w2 hS2 hB2)
  clear hS2 hB2 WS HI hts
  go_wp2_with fail
  go_loopg [4, 6, 7] k.d.length (fun g vn ver vm wr => ∃ more msg s2, vn = .int .i64 n ∧ ver = er ∧ vm = .bool more ∧ RRR k w1 n b P0 more msg s2 wr ∧ k.d.length - s2.pos ≤ g)
  case atStart => exact ⟨b, lst t, s1, rfl, rfl, rfl, HI2.out, Nat.sub_le _ _⟩
  case round =>
    clear HI2
    obtain ⟨more, msg, s2, rfl, rfl, rfl, hr, hg⟩ := hrel
    have HR := Lib.hid hr
    have HG := Lib.hid hg
    have hBw := hr.tu.size
    clear hr hg
    cases more with
    | false =>
      have ST := Lib.hid (buString_any w1.heap.size w1.heap.size msg wr HR.out.sb hBw)
      obtain ⟨M, hM, hMl⟩ : ∃ M : ByteArray, M = ⟨msg.toArray⟩ ∧ lst M = msg := ⟨_, rfl, rfl⟩
      rw [← hM] at ST
      have HF : Hid (∀ w4 er', Below w1.heap.size wr w4 → (er' = u6 ∨ (q = true ∧ b = true ∧ ∃ N, er' = .iface 131 (.pointer (some ⟨N, 0, none⟩)))) → RRPost k s x w (.returned (.tuple #[.int .i64 n, .string M, er'])) w4) := fun w4 er' hB he => by
        obtain ⟨g1, g2⟩ := bu_behind HR1.out HR.out.rd HR.out.tu hB
        rw [hM]
        exact HOK.out w4 s2 msg er' g1 g2 (j_done HR.out.j) he
      clear HOK HEOF hM
      go_wp2_with fail
      go_at_call 79
      (with_reducible refine ST.out.mono ?_)
      rintro e w4 ⟨rfl, hB4⟩
      have HFk := Lib.hid (fun er' he => HF.out w4 er' hB4 he)
      have HFa : Hid (∀ o er', (er' = u6 ∨ (q = true ∧ b = true ∧ ∃ N, er' = .iface 131 (.pointer (some ⟨N, 0, none⟩)))) → RRPost k s x w (.returned (.tuple #[.int .i64 n, .string M, er'])) (w4.alloc o)) := fun o er' he => HF.out _ er' (hB4.alloc (Nat.le_trans hBw hB4.size) o) he
      clear hB4 HF ST hMl
      rcases HQ.out with ⟨rfl, rfl⟩ | ⟨u, v, rfl, rfl⟩
      · go_wp2_with fail
        go_ret3
        exact HFk.out _ (.inl rfl)
      · cases b with
        | false =>
          go_wp2_with fail
          go_ret3
          exact HFk.out _ (.inl rfl)
        | true =>
          by_cases h0 : lst M = []
          · have t0 := str_is h0
            clear h0
            go_wp2_with fail
            go_ret3
            exact HFk.out _ (.inl rfl)
          · have t0 := str_not h0
            clear h0
            go_wp2_with fail
            go_ret3
            exact HFa.out _ _ (.inr (by simp))
    | true =>
      have hT0 := HT1.out.trans HR.out.tu
      have TL := Lib.hid (tpLine_any k s2 wr fe T HR.out.rd (HE.out wr hT0).e3.e2.full HNE.out (HTp.out wr hT0))
      clear hT0
      go_wp2_with fail
      go_at_call 63
      (with_reducible refine TL.out.mono ?_)
      rintro e w3 ⟨s3, hR3, hT3, hor⟩
      have hT13 := HR.out.tu.trans hT3
      rcases hor with ⟨rfl, _, hn, _⟩ | ⟨l, rfl, hll, hl⟩
      · have HF := Lib.hid (HEOF.out w3 s3 (HR.out.mb rfl) hR3 hT13 (j_eof HR.out.j hn))
        have hq3 := neq_some 182 (.pointer (some k.ae)) w3
        clear hR3 hT3 hT13 hn TL HOK HEOF
        go_wp2_with fail
        go_ret3
        exact HF.out
      · have hla : LineAt k s2 s3 l := hl
        have HL := Lib.hid hla
        have HN10 := Lib.hid (lineAt_no10 hla)
        obtain ⟨hp1, hp2⟩ := lineAt_pos hla
        have hpl3 := hR3.pos_le
        have hil3 := hR3.il
        have HM : Hid (k.d.length - s3.pos ≤ gk - 1 ∧ 0 < gk) := by have := HG.out; exact ⟨by omega, by omega⟩
        have HLen := Lib.hid HR.out.len
        have hmsg : msg.length ≤ 2097152 := by have := HR.out.len; have := HD.out; omega
        have hll2 : l.length ≤ 1048576 := by have := HD.out; omega
        have HMs : Hid (msg.length ≤ 2097152 ∧ l.length ≤ 1048576 ∧ s2.pos < s3.pos ∧ l.length + s2.pos ≤ s3.pos) := ⟨hmsg, hll2, hp1, hp2⟩
        have HS3 := Lib.hid (bu_read HR1.out HR.out.sb hT3)
        have HR3 := Lib.hid hR3
        have HT13 := Lib.hid hT13
        have hBw3 : w1.heap.size ≤ w3.heap.size := hT13.size
        have PC := Lib.hid (parseCode_any ⟨l.toArray⟩ 0 k.K se w3 (by rw [size_mk]; omega) (by decide) (HE.out w3 (HT1.out.trans hT13)).syn (Nat.le_trans HK.out (HT1.out.trans hT13).size))
        clear hR3 hT3 hT13 hl hla hll hp1 hp2 hpl3 hil3 TL hmsg hll2
        go_wp2_with fail
        go_at_call 76
        (with_reducible refine PC.out.mono ?_)
        intro e w4 hP
        rw [lst_mk] at hP
        obtain ⟨n2, b2, t2, er2, rfl, hT4, hpo⟩ := pc_out hP
        have hB4 : Below w1.heap.size w3 w4 := hT4.below hBw3 (by simp)
        obtain ⟨hR4, hT14⟩ := bu_behind HR1.out HR3.out HT13.out hB4
        have hS4 : Sb w4 w1.heap.size w1.heap.size msg := HS3.out.keep hT4 (by simp)
        have hBw4 : w1.heap.size ≤ w4.heap.size := Nat.le_trans hBw3 hT4.size
        have WB := Lib.hid (buNl_any w1.heap.size w1.heap.size msg w4 hS4 (by have := HMs.out.1; omega) hBw4)
        have HR4 := Lib.hid hR4
        have HT14 := Lib.hid hT14
        have hq4 := neq_nil w4
        have hq5 := fun v => neq_some 125 v w4
        clear hP hT4 hB4 hR4 hT14 hS4 PC
        rcases hpo with ⟨m2, c1, _, rfl, ⟨_, rfl⟩ | ⟨c3, _⟩⟩ | ⟨c1, _, z, rfl⟩
        · by_cases hn : n2 = n
          · subst hn
            have tn : (n2 != n2) = false := by simp
            have HJ := Lib.hid (j_same HR.out.j HL.out c1)
            have hm2 : m2.length ≤ l.length := by
              obtain ⟨a, b', c, sg, rfl, _⟩ := code3_some c1
              simp only [List.length_cons]; omega
            have HM2 := Lib.hid hm2
            clear c1 hm2 hq5
            go_wp2_with fail
            go_at_call 77
            (with_reducible refine WB.out.mono ?_)
            rintro e w5 ⟨rfl, hS5, hB5⟩
            have WS := Lib.hid (buWriteString_any w1.heap.size w1.heap.size (msg ++ [10]) ⟨m2.toArray⟩ w5 hS5 (by rw [size_mk, List.length_append]; have := HMs.out; have := HM2.out; simp; omega) (Nat.le_trans hBw4 hB5.size))
            have HB5 := Lib.hid hB5
            clear hS5 hB5 WB
            go_wp2_with fail
            go_at_call 75
            (with_reducible refine WS.out.mono ?_)
            rintro e w6 ⟨rfl, hS6, hB6⟩
            have HF : Hid (RRR k w1 n2 b P0 b2 (msg ++ 10 :: m2) s3 w6) := by
              obtain ⟨g1, g2⟩ := bu_behind HR1.out HR4.out HT14.out (HB5.out.trans hB6)
              refine ⟨g1, g2, ?_, HJ.out, fun _ => HR.out.mb rfl, ?_⟩
              · rw [lst_mk, List.append_assoc] at hS6
                exact hS6
              · rw [List.length_append, List.length_cons]
                have := HMs.out; have := HM2.out; have := HLen.out; omega
            clear hS6 hB6 WS
            go_wp2_with fail
            go_roundg (gk - 1)
            case rel => exact ⟨b2, _, s3, rfl, rfl, rfl, HF.out, HM.out.1⟩
            case measure => have := HM.out; omega
          · have tn : (n2 != n) = true := by simpa using hn
            have hno : ∀ r, P0 r → ∀ x m, code3 l ≠ some (n, x, m) := fun _ _ x m h => by
              rw [c1] at h
              injection h with h
              injection h with h
              exact hn h
            have HNO := Lib.hid hno
            clear c1 hn hno hq5
            go_wp2_with fail
            go_at_call 77
            (with_reducible refine WB.out.mono ?_)
            rintro e w5 ⟨rfl, hS5, hB5⟩
            have TR := Lib.hid (trimRight_any ⟨l.toArray⟩ w5 (by rw [size_mk]; have := HMs.out; omega))
            have HB5 := Lib.hid hB5
            have HS5 := Lib.hid hS5
            clear hS5 hB5 WB
            go_wp2_with fail
            go_at_call 78
            (with_reducible refine TR.out.mono ?_)
            rintro e w6 ⟨m, rfl, hm, hmc, q6, rfl⟩
            obtain ⟨z2, hz2⟩ : ∃ z2 : ByteArray, z2 = (⟨l.toArray⟩ : ByteArray).extract 0 m := ⟨_, rfl⟩
            rw [size_mk] at hm
            have hz2l : z2.size ≤ l.length := by rw [hz2, ByteArray.size_extract, size_mk]; omega
            have hz13 : 13 ∉ l → lst z2 = l := fun h13 => by
              rw [hz2, lst_extract, lst_mk, List.drop_zero, Nat.sub_zero, hmc (fun c hc => ⟨fun e => h13 (e ▸ hc), fun e => HN10.out (e ▸ hc)⟩), size_mk, List.take_length]
            have HJ := Lib.hid (j_other HR.out.j HL.out HNO.out hz13)
            rw [← hz2]
            have HZ2 := Lib.hid hz2l
            have WS := Lib.hid (buWriteString_any w1.heap.size w1.heap.size (msg ++ [10]) z2 (w5.drewN q6) (HS5.out.keep ((Turned.refl [] _).drewN q6) (by simp)) (by rw [List.length_append]; have := HMs.out; simp; omega) (Nat.le_trans hBw4 HB5.out.size))
            clear hm hmc hz2 hz13 TR hz2l
            go_wp2_with fail
            go_at_call 75
            (with_reducible refine WS.out.mono ?_)
            rintro e w7 ⟨rfl, hS7, hB7⟩
            have HF : Hid (RRR k w1 n b P0 true (msg ++ 10 :: lst z2) s3 w7) := by
              obtain ⟨g1, g2⟩ := bu_behind HR1.out HR4.out HT14.out ((below_drewN HB5.out q6).trans hB7)
              refine ⟨g1, g2, ?_, HJ.out, fun _ => HR.out.mb rfl, ?_⟩
              · rw [List.append_assoc] at hS7
                exact hS7
              · rw [List.length_append, List.length_cons, lst_length]
                have := HMs.out; have := HZ2.out; have := HLen.out; omega
            clear hS7 hB7 WS
            go_wp2_with fail
            go_roundg (gk - 1)
            case rel => exact ⟨true, _, s3, rfl, rfl, rfl, HF.out, HM.out.1⟩
            case measure => have := HM.out; omega
        · rw [fits_zero] at c3
          cases c3
        · have hno : ∀ r, P0 r → ∀ x m, code3 l ≠ some (n, x, m) := fun r hr x m h => by
            have h1 := c1 _ _ _ h
            have h2 := H100.out r hr
            omega
          have HNO := Lib.hid hno
          clear c1 hno hq4
          go_wp2_with fail
          go_at_call 77
          (with_reducible refine WB.out.mono ?_)
          rintro e w5 ⟨rfl, hS5, hB5⟩
          have TR := Lib.hid (trimRight_any ⟨l.toArray⟩ w5 (by rw [size_mk]; have := HMs.out; omega))
          have HB5 := Lib.hid hB5
          have HS5 := Lib.hid hS5
          clear hS5 hB5 WB
          go_wp2_with fail
          go_at_call 78
          (with_reducible refine TR.out.mono ?_)
          rintro e w6 ⟨m, rfl, hm, hmc, q6, rfl⟩
          obtain ⟨z2, hz2⟩ : ∃ z2 : ByteArray, z2 = (⟨l.toArray⟩ : ByteArray).extract 0 m := ⟨_, rfl⟩
          rw [size_mk] at hm
          have hz2l : z2.size ≤ l.length := by rw [hz2, ByteArray.size_extract, size_mk]; omega
          have hz13 : 13 ∉ l → lst z2 = l := fun h13 => by
            rw [hz2, lst_extract, lst_mk, List.drop_zero, Nat.sub_zero, hmc (fun c hc => ⟨fun e => h13 (e ▸ hc), fun e => HN10.out (e ▸ hc)⟩), size_mk, List.take_length]
          have HJ := Lib.hid (j_other HR.out.j HL.out HNO.out hz13)
          rw [← hz2]
          have HZ2 := Lib.hid hz2l
          have WS := Lib.hid (buWriteString_any w1.heap.size w1.heap.size (msg ++ [10]) z2 (w5.drewN q6) (HS5.out.keep ((Turned.refl [] _).drewN q6) (by simp)) (by rw [List.length_append]; have := HMs.out; simp; omega) (Nat.le_trans hBw4 HB5.out.size))
          clear hm hmc hz2 hz13 TR hz2l
          go_wp2_with fail
          go_at_call 75
          (with_reducible refine WS.out.mono ?_)
          rintro e w7 ⟨rfl, hS7, hB7⟩
          have HF : Hid (RRR k w1 n b P0 true (msg ++ 10 :: lst z2) s3 w7) := by
            obtain ⟨g1, g2⟩ := bu_behind HR1.out HR4.out HT14.out ((below_drewN HB5.out q6).trans hB7)
            refine ⟨g1, g2, ?_, HJ.out, fun _ => HR.out.mb rfl, ?_⟩
            · rw [List.append_assoc] at hS7
              exact hS7
            · rw [List.length_append, List.length_cons, lst_length]
              have := HMs.out; have := HZ2.out; have := HLen.out; omega
          clear hS7 hB7 WS
          go_wp2_with fail
          go_roundg (gk - 1)
          case rel => exact ⟨true, _, s3, rfl, rfl, rfl, HF.out, HM.out.1⟩
          case measure => have := HM.out; omega
end Go.Proofs.YthobojpbdeepoaaDoor
