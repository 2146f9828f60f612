/-
  The walk of (*textproto.dotReader).Read.
-/
import Derived.Test.YthobojpbdeepoaaDoorDotRead
import Derived.LaidEqlPtr
import Derived.Test.YthobojpbdeepoaaDoorSpecLine
namespace Go.Proofs.YthobojpbdeepoaaDoor
open Go.RowKit

theorem run_eql_nil_ptr {P : Program} (w : World) {tp te : TypeId} (a : Addr) (hp : P.underlying tp = some (.pointer te)) : (binOp .eql tp (.pointer none) (.pointer (some a))).run P w = .ok (.bool false) w := by
  have h : ∀ d : Nat, (Op.equalIn (d + 1) tp (.pointer none) (.pointer (some a))).run P w = .ok false w := fun d => by simp [Op.equalIn, run_underlying hp]
  simp only [binOp]
  simp [Op.equal, Op.maxDepth, h 9999]
theorem dot_same (w : World) (a : Addr) : (binOp .eql 127 (.pointer (some a)) (.pointer (some a))).run Tryd.prog w = .ok (.bool true) w := by
  have h2 : (Tryd.prog.info? 153).map (·.size) = some 2 := by kernel_rfl
  obtain ⟨j, hj, _⟩ := Option.map_eq_some_iff.1 h2
  exact run_eql_ptr_same w a Tryd.underlying127 hj
theorem Rd.below_any {w w' : World} {k : RK} {s : RS} {T D st : Nat} {op : Bool} {G o n : Nat} {cur : List Value} (h : Rd w k s) (ht : Turned (dotBlocks k T D G) w w') (hB : Bf w k G o n cur) (hD : Dt w k T D st op) : Below k.K w w' := by
  refine ht.below (by have := h.kb; have := h.bb.lt; omega) (fun x hx => ?_)
  have h1 := h.kb
  have h2 := h.kc
  have h3 := h.ky
  have h4 := hD.kt
  have h5 := hD.kd
  have h6 := hB.kg
  simp [dotBlocks, RK.blocks] at hx
  omega
/-- What Read leaves. -/
def DotPost (k : RK) (s : RS) (w : World) (T D st : Nat) (op : Bool) (G o n : Nat) (cur : List Value) (ue : Addr) (e : Ending) (w' : World) : Prop :=
  ∃ out st' s' op' er, e = .returned (.tuple #[.int .i64 ((out : List UInt8).length : Int), er]) ∧ DR k s w T D st op' G o n cur (2 * k.d.length + 1) out st' s' w' ∧
    ((er = .nilIface ∧ out.length = n ∧ st' ≠ 5 ∧ op' = op) ∨ (er = errAt k.ae ∧ st' = 5 ∧ op' = false) ∨ (er = errAt ue ∧ s'.pos = k.d.length ∧ st' ≠ 5 ∧ op' = false))

set_option maxRecDepth 100000 in
set_option maxHeartbeats 4000000 in
theorem dotRead_any (k : RK) (s : RS) (w : World) (T D st : Nat) (op : Bool) (G o n cap : Nat) (cur : List Value) (ue : Addr) (h : Rd w k s) (hD : Dt w k T D st op) (hB : Bf w k G o n cur) (h5 : st ≤ 5) (hn : n ≤ 9223372036854775807)
    (hU : Sent w k.K 1 ue) :
    Calls Tryd.prog 94 #[.pointer (some ⟨D, 0, none⟩), .slice (some ⟨G, o, none⟩) n cap] w (DotPost k s w T D st op G o n cur ue) := by
  obtain ⟨cT0, cT1, cD0, cD1⟩ := hD.cells
  go_enter Tryd.func94, Tryd.ntmps94
  go_wp2_with fail
  clear cT0 cT1 cD0 cD1
  go_loopg [4, 5] (2 * k.d.length + 1) (fun g v er wr => ∃ e st1 s1, DR k s w T D st op G o n cur g e st1 s1 wr ∧ v = .int .i64 (e.length : Int) ∧ er = .nilIface)
  case atStart => exact ⟨[], st, s, ⟨h, Turned.refl _ _, hD, by rw [show by8 [] = [] from rfl, splice_nil]; exact hB.blk, Nat.zero_le _, by simp, by have := h.pos_le; have := h.il; split <;> omega, h5⟩, rfl, rfl⟩
  case round =>
    obtain ⟨e, st1, s1, hr, rfl, rfl⟩ := hrel
    obtain ⟨cT0, cT1, cD0, cD1⟩ := hr.dt.cells
    have h1n := hr.len
    have h15 := hr.s5
    have hdt := hr.dt
    have cE := hr.rd.eof.cell
    obtain ⟨fT1, fD1⟩ := hdt.froz
    have hne := hdt.ne
    by_cases hst : st1 = 5
    · subst hst
      have HS := Lib.hid (fun q => (hr.drewN q).shut hB)
      have HN := Lib.hid (fun q => (hr.drewN q).fin)
      by_cases hen : (e.length : Int) < (n : Int)
      all_goals
        cases op
        · have HF : Hid (∀ q, DotPost k s w T D st false G o n cur ue (.returned (.tuple #[.int .i64 (e.length : Int), errAt k.ae])) (wr.drewN q)) := fun q => ⟨e, 5, s1, false, _, rfl, HN.out q, .inr (.inl ⟨rfl, rfl, rfl⟩)⟩
          clear hr hB hdt h hD hU h1n h15 HS HN h5
          have p1 := dot_same wr ⟨D, 0, none⟩
          have p2 := run_eql_nil_ptr (P := Tryd.prog) wr (tp := 127) ⟨D, 0, none⟩ Tryd.underlying127
          go_wp2_with fail
          go_ret2
          exact HF.out 0
        · have HF : Hid (∀ q, DotPost k s w T D st true G o n cur ue (.returned (.tuple #[.int .i64 (e.length : Int), errAt k.ae])) ((wr.drewN q).setCell ⟨T, 1, none⟩ (.pointer none))) := fun q => ⟨e, 5, s1, false, _, rfl, HS.out q, .inr (.inl ⟨rfl, rfl, rfl⟩)⟩
          clear hr hB hdt h hD hU h1n h15 HS HN h5
          have p1 := dot_same wr ⟨D, 0, none⟩
          have p2 := run_eql_nil_ptr (P := Tryd.prog) wr (tp := 127) ⟨D, 0, none⟩ Tryd.underlying127
          go_wp2_with fail
          go_ret2
          exact HF.out 0
    · by_cases hen : e.length = n
      · have b0 : ¬ (e.length : Int) < (n : Int) := by omega
        have b1 : ((st1 : Int) == 5) = false := by simp; omega
        have HF : Hid (DotPost k s w T D st op G o n cur ue (.returned (.tuple #[.int .i64 (e.length : Int), .nilIface])) wr) := ⟨e, st1, s1, op, _, rfl, hr.fin, .inl ⟨rfl, hen, hst, rfl⟩⟩
        clear hr hB hdt h hD hU h1n h15 h5 hen hst
        go_wp2_with fail
        go_ret2
        exact HF.out
      · have b0n : e.length < n := by omega
        have b0 : (e.length : Int) < (n : Int) := by omega
        have b1 : ((st1 : Int) == 5) = false := by simp; omega
        have b2 : ((st1 : Int) != 5) = true := by simp; omega
        have hpl := hr.rd.pos_le
        have hil := hr.rd.il
        by_cases hd : s1.pos = k.d.length
        · have RB := readByte_eof k s1 wr hr.rd hd
          go_wp2_with fail
          go_at_call 74
          refine RB.mono ?_
          rintro e1 w2 ⟨rfl, hT2, s2, hR2, hp2⟩
          have hr2 := hr.still hB hR2 hT2 (hp2.trans hd.symm)
          have hdt2 := hr2.dt
          clear cT0 cT1 cD0 cD1 b2 fT1 fD1 cE RB
          obtain ⟨cT0, cT1, cD0, cD1⟩ := hdt2.cells
          obtain ⟨fT1, fD1⟩ := hdt2.froz
          have cE := hr2.rd.eof.cell
          have cU := (hU.keep (h.below_any hr2.tu hB hD)).cell
          have q2 := err_same w2 k.ae
          have HS := Lib.hid (fun q => (hr2.drewN q).shut hB)
          have HN := Lib.hid (fun q => (hr2.drewN q).fin)
          have HP := Lib.hid hp2
          have H5 := Lib.hid hst
          cases op
          · have HF : Hid (∀ q, DotPost k s w T D st false G o n cur ue (.returned (.tuple #[.int .i64 (e.length : Int), errAt ue])) (w2.drewN q)) := fun q => ⟨e, st1, s2, false, _, rfl, HN.out q, .inr (.inr ⟨rfl, HP.out, H5.out, rfl⟩)⟩
            have p1 := dot_same w2 ⟨D, 0, none⟩
            have p2 := run_eql_nil_ptr (P := Tryd.prog) w2 (tp := 127) ⟨D, 0, none⟩ Tryd.underlying127
            clear hr hB hdt hdt2 h hD hU h1n h15 HS HN h5 hr2 hT2 hR2 hp2 hd hen hst b0n hpl hil
            go_wp2_with fail
            go_ret2
            exact HF.out 0
          · have HF : Hid (∀ q, DotPost k s w T D st true G o n cur ue (.returned (.tuple #[.int .i64 (e.length : Int), errAt ue])) ((w2.drewN q).setCell ⟨T, 1, none⟩ (.pointer none))) := fun q => ⟨e, st1, s2, false, _, rfl, HS.out q, .inr (.inr ⟨rfl, HP.out, H5.out, rfl⟩)⟩
            have p1 := dot_same w2 ⟨D, 0, none⟩
            have p2 := run_eql_nil_ptr (P := Tryd.prog) w2 (tp := 127) ⟨D, 0, none⟩ Tryd.underlying127
            clear hr hB hdt hdt2 h hD hU h1n h15 HS HN h5 hr2 hT2 hR2 hp2 hd hen hst b0n hpl hil
            go_wp2_with fail
            go_ret2
            exact HF.out 0
        · have hlt : s1.pos < k.d.length := by omega
          obtain ⟨c, hc⟩ : ∃ c, k.d[s1.pos]? = some c := ⟨_, List.getElem?_eq_getElem (by omega)⟩
          have RB := readByte_some k s1 wr hr.rd c hc
          go_wp2_with fail
          go_at_call 74
          refine RB.mono ?_
          rintro e1 w2 ⟨rfl, hT2, s2, hR2, hp2, hl2, hr2⟩
          have hD2 := hdt.keep hT2 (hdt.nt hr.rd) (hdt.nd hr.rd)
          clear cT0 cT1 cD0 cD1 b1 b2 fT1 fD1 cE RB
          obtain ⟨cT0, cT1, cD0, cD1⟩ := hD2.cells
          obtain ⟨fT1, fD1⟩ := hD2.froz
          obtain ⟨n1, n2, n3⟩ := hr.ng hB
          have n4 : D ≠ G := fun e => n3 e.symm
          obtain ⟨⟨x0, hcG⟩, _⟩ := hr.room hB b0n
          have cG : w2.cell? ⟨G, o + e.length, none⟩ = some x0 := (World.cell?_of_block (w := wr) (hT2.block G hr.gb.lt n1)).trans hcG
          have fG : w2.frozen? ⟨G, o + e.length, none⟩ = false := (hT2.blk hr.gb n1).frozen _
          have hst1 : st1 = 0 ∨ st1 = 1 ∨ st1 = 2 ∨ st1 = 3 ∨ st1 = 4 := by omega
          rcases hst1 with rfl | rfl | rfl | rfl | rfl
          · by_cases h46 : c = 46
            · subst h46
              have HF := Lib.hid (hr.hush hB hc hR2 hT2 hp2 1 (by decide) (fun t => by rw [dec0, if_pos rfl]))
              clear hr hB hc hR2 hT2 hp2 hl2 hr2 hD2 hdt hcG hpl hil hd h hD hU hlt h15 h1n hst hen
              go_wp2_with fail
              go_roundg (gk - 1)
              case rel => exact ⟨_, _, _, HF.out.1, rfl, rfl⟩
              case measure => have := HF.out.2; omega
            · have t46 : ((c.toNat : Int) == 46) = false := u8_not (c := 46) h46
              by_cases h13 : c = 13
              · subst h13
                clear h46
                have HF := Lib.hid (hr.hush hB hc hR2 hT2 hp2 3 (by decide) (fun t => by rw [dec0, if_neg (by decide), if_pos rfl]))
                clear hr hB hc hR2 hT2 hp2 hl2 hr2 hD2 hdt hcG hpl hil hd h hD hU hlt h15 h1n hst hen
                go_wp2_with fail
                go_roundg (gk - 1)
                case rel => exact ⟨_, _, _, HF.out.1, rfl, rfl⟩
                case measure => have := HF.out.2; omega
              · have t13 : ((c.toNat : Int) == 13) = false := u8_not (c := 13) h13
                have hTD : Turned [D, G] w2 (w2.setCell ⟨D, 1, none⟩ (.int .i64 ((4 : Nat) : Int))) := (Turned.refl _ _).setCell (.inl (by simp)) _
                have HF := Lib.hid (hr.say hB hlt b0n c (hr.rd_on hB hR2 hTD) (DR.tu_on hT2 hTD) (hD2.to 4) ((hT2.blk hr.gb n1).far (by simpa using n3) _) (by decide) (by rw [hr.drop hc, hp2, dec0, if_neg h46, if_neg h13]) (.inl hp2))
                clear hr hB hc hR2 hT2 hp2 hl2 hr2 hD2 hdt hcG hpl hil hd h hD hU hlt h15 h1n hst hen hTD
                go_wp2_with fail
                go_roundg (gk - 1)
                case rel => exact ⟨_, _, _, HF.out.1, by simp, rfl⟩
                case measure => have := HF.out.2; omega
          · by_cases h13 : c = 13
            · subst h13
              have HF := Lib.hid (hr.hush hB hc hR2 hT2 hp2 2 (by decide) (fun t => by rw [dec1, if_pos rfl]))
              clear hr hB hc hR2 hT2 hp2 hl2 hr2 hD2 hdt hcG hpl hil hd h hD hU hlt h15 h1n hst hen
              go_wp2_with fail
              go_roundg (gk - 1)
              case rel => exact ⟨_, _, _, HF.out.1, rfl, rfl⟩
              case measure => have := HF.out.2; omega
            · have t13 : ((c.toNat : Int) == 13) = false := u8_not (c := 13) h13
              by_cases h10 : c = 10
              · subst h10
                clear h13
                have HF := Lib.hid (hr.hush hB hc hR2 hT2 hp2 5 (by decide) (fun t => by rw [dec1, if_neg (by decide), if_pos rfl, dec5]))
                clear hr hB hc hR2 hT2 hp2 hl2 hr2 hD2 hdt hcG hpl hil hd h hD hU hlt h15 h1n hst hen
                go_wp2_with fail
                go_roundg (gk - 1)
                case rel => exact ⟨_, _, _, HF.out.1, rfl, rfl⟩
                case measure => have := HF.out.2; omega
              · have t10 : ((c.toNat : Int) == 10) = false := u8_not (c := 10) h10
                have hTD : Turned [D, G] w2 (w2.setCell ⟨D, 1, none⟩ (.int .i64 ((4 : Nat) : Int))) := (Turned.refl _ _).setCell (.inl (by simp)) _
                have HF := Lib.hid (hr.say hB hlt b0n c (hr.rd_on hB hR2 hTD) (DR.tu_on hT2 hTD) (hD2.to 4) ((hT2.blk hr.gb n1).far (by simpa using n3) _) (by decide) (by rw [hr.drop hc, hp2, dec1, if_neg h13, if_neg h10]) (.inl hp2))
                clear hr hB hc hR2 hT2 hp2 hl2 hr2 hD2 hdt hcG hpl hil hd h hD hU hlt h15 h1n hst hen hTD
                go_wp2_with fail
                go_roundg (gk - 1)
                case rel => exact ⟨_, _, _, HF.out.1, by simp, rfl⟩
                case measure => have := HF.out.2; omega
          · by_cases h10 : c = 10
            · subst h10
              have HF := Lib.hid (hr.hush hB hc hR2 hT2 hp2 5 (by decide) (fun t => by rw [dec2_lf, dec5]))
              clear hr hB hc hR2 hT2 hp2 hl2 hr2 hD2 hdt hcG hpl hil hd h hD hU hlt h15 h1n hst hen
              go_wp2_with fail
              go_roundg (gk - 1)
              case rel => exact ⟨_, _, _, HF.out.1, rfl, rfl⟩
              case measure => have := HF.out.2; omega
            · have t10 : ((c.toNat : Int) == 10) = false := u8_not (c := 10) h10
              have UB := unreadByte_any k s2 w2 hR2 c hl2 hr2 (by omega) (by rw [hp2, Nat.add_sub_cancel]; exact hc)
              have H10 := Lib.hid h10
              clear h10
              go_wp2_with fail
              go_at_call 114
              refine UB.mono ?_
              rintro e3 w3 ⟨rfl, hT3, s3, hR3, hp3⟩
              clear cT0 cT1 cD0 cD1 fT1 fD1
              have hT23 := hT2.trans hT3
              have hD3 := hdt.keep hT23 (hdt.nt hr.rd) (hdt.nd hr.rd)
              have hp31 : s3.pos = s1.pos := by omega
              obtain ⟨⟨x, cG⟩, fG⟩ := (hr.still hB hR3 hT23 hp31).room hB b0n
              obtain ⟨cT0, cT1, cD0, cD1⟩ := hD3.cells
              obtain ⟨fT1, fD1⟩ := hD3.froz
              have hTD : Turned [D, G] w3 (w3.setCell ⟨D, 1, none⟩ (.int .i64 ((4 : Nat) : Int))) := (Turned.refl _ _).setCell (.inl (by simp)) _
              have HF := Lib.hid (hr.say hB hlt b0n 13 (hr.rd_on hB hR3 hTD) (DR.tu_on hT23 hTD) (hD3.to 4) ((hT23.blk hr.gb n1).far (by simpa using n3) _) (by decide) (by rw [hp31, hr.drop hc, dec2_other c _ H10.out]) (.inr ⟨hp31, rfl, by decide⟩))
              clear UB hTD hT23 hD3 hR3 hT3 hp3 hp31 hr hB hc hR2 hT2 hp2 hl2 hr2 hD2 hdt hcG hpl hil hd h hD hU hlt h15 h1n hst hen
              go_wp2_with fail
              go_roundg (gk - 1)
              case rel => exact ⟨_, _, _, HF.out.1, by simp, rfl⟩
              case measure => have := HF.out.2; omega
          · by_cases h10 : c = 10
            · subst h10
              have hTD : Turned [D, G] w2 (w2.setCell ⟨D, 1, none⟩ (.int .i64 ((0 : Nat) : Int))) := (Turned.refl _ _).setCell (.inl (by simp)) _
              have HF := Lib.hid (hr.say hB hlt b0n 10 (hr.rd_on hB hR2 hTD) (DR.tu_on hT2 hTD) (hD2.to 0) ((hT2.blk hr.gb n1).far (by simpa using n3) _) (by decide) (by rw [hr.drop hc, hp2, dec3_lf]) (.inl hp2))
              clear hr hB hc hR2 hT2 hp2 hl2 hr2 hD2 hdt hcG hpl hil hd h hD hU hlt h15 h1n hst hen hTD
              go_wp2_with fail
              go_roundg (gk - 1)
              case rel => exact ⟨_, _, _, HF.out.1, by simp, rfl⟩
              case measure => have := HF.out.2; omega
            · have t10 : ((c.toNat : Int) == 10) = false := u8_not (c := 10) h10
              have UB := unreadByte_any k s2 w2 hR2 c hl2 hr2 (by omega) (by rw [hp2, Nat.add_sub_cancel]; exact hc)
              have H10 := Lib.hid h10
              clear h10
              go_wp2_with fail
              go_at_call 114
              refine UB.mono ?_
              rintro e3 w3 ⟨rfl, hT3, s3, hR3, hp3⟩
              clear cT0 cT1 cD0 cD1 fT1 fD1
              have hT23 := hT2.trans hT3
              have hD3 := hdt.keep hT23 (hdt.nt hr.rd) (hdt.nd hr.rd)
              have hp31 : s3.pos = s1.pos := by omega
              obtain ⟨⟨x, cG⟩, fG⟩ := (hr.still hB hR3 hT23 hp31).room hB b0n
              obtain ⟨cT0, cT1, cD0, cD1⟩ := hD3.cells
              obtain ⟨fT1, fD1⟩ := hD3.froz
              have hTD : Turned [D, G] w3 (w3.setCell ⟨D, 1, none⟩ (.int .i64 ((4 : Nat) : Int))) := (Turned.refl _ _).setCell (.inl (by simp)) _
              have HF := Lib.hid (hr.say hB hlt b0n 13 (hr.rd_on hB hR3 hTD) (DR.tu_on hT23 hTD) (hD3.to 4) ((hT23.blk hr.gb n1).far (by simpa using n3) _) (by decide) (by rw [hp31, hr.drop hc, dec3_other c _ H10.out]) (.inr ⟨hp31, rfl, by decide⟩))
              clear UB hTD hT23 hD3 hR3 hT3 hp3 hp31 hr hB hc hR2 hT2 hp2 hl2 hr2 hD2 hdt hcG hpl hil hd h hD hU hlt h15 h1n hst hen
              go_wp2_with fail
              go_roundg (gk - 1)
              case rel => exact ⟨_, _, _, HF.out.1, by simp, rfl⟩
              case measure => have := HF.out.2; omega
          · by_cases h13 : c = 13
            · subst h13
              have HF := Lib.hid (hr.hush hB hc hR2 hT2 hp2 3 (by decide) (fun t => by rw [dec4, if_pos rfl]))
              clear hr hB hc hR2 hT2 hp2 hl2 hr2 hD2 hdt hcG hpl hil hd h hD hU hlt h15 h1n hst hen
              go_wp2_with fail
              go_roundg (gk - 1)
              case rel => exact ⟨_, _, _, HF.out.1, rfl, rfl⟩
              case measure => have := HF.out.2; omega
            · have t13 : ((c.toNat : Int) == 13) = false := u8_not (c := 13) h13
              by_cases h10 : c = 10
              · subst h10
                clear h13
                have hTD : Turned [D, G] w2 (w2.setCell ⟨D, 1, none⟩ (.int .i64 ((0 : Nat) : Int))) := (Turned.refl _ _).setCell (.inl (by simp)) _
                have HF := Lib.hid (hr.say hB hlt b0n 10 (hr.rd_on hB hR2 hTD) (DR.tu_on hT2 hTD) (hD2.to 0) ((hT2.blk hr.gb n1).far (by simpa using n3) _) (by decide) (by rw [hr.drop hc, hp2, dec4, if_neg (by decide), if_pos rfl]) (.inl hp2))
                clear hr hB hc hR2 hT2 hp2 hl2 hr2 hD2 hdt hcG hpl hil hd h hD hU hlt h15 h1n hst hen hTD
                go_wp2_with fail
                go_roundg (gk - 1)
                case rel => exact ⟨_, _, _, HF.out.1, by simp, rfl⟩
                case measure => have := HF.out.2; omega
              · have t10 : ((c.toNat : Int) == 10) = false := u8_not (c := 10) h10
                have HF := Lib.hid (hr.say hB hlt b0n c hR2 (hT2.mono (fun x hx => by simp [dotBlocks] at hx ⊢; omega)) hD2 (hT2.blk hr.gb n1) (by decide) (by rw [hr.drop hc, hp2, dec4, if_neg h13, if_neg h10]) (.inl hp2))
                clear hr hB hc hR2 hT2 hp2 hl2 hr2 hD2 hdt hcG hpl hil hd h hD hU hlt h15 h1n hst hen
                go_wp2_with fail
                go_roundg (gk - 1)
                case rel => exact ⟨_, _, _, HF.out.1, by simp, rfl⟩
                case measure => have := HF.out.2; omega
end Go.Proofs.YthobojpbdeepoaaDoor
