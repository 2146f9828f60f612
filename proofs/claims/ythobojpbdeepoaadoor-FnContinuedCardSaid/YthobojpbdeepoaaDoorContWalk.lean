/-
  The contracts of textproto's ReadContinuedLine and impl.Continued; the walk of laws.FnContinued.
-/
import Derived.Test.YthobojpbdeepoaaDoorCont
import Derived.Test.YthobojpbdeepoaaDoorSpecCont
namespace Go.Proofs.YthobojpbdeepoaaDoor
open Go.RowKit

theorem tb_new {w : World} {k : RK} {s : RS} {T : Nat} (h : Rd w k s) (hT : Tp w k T) (hb : Blk w T 129 #[.pointer (some ⟨k.B, 0, none⟩), .pointer none, .slice none 0 0]) : Tb w k T w.heap.size (.slice none 0 0) [] :=
  ⟨hT.kt, hT.off, hb.lt, h.bb.lt, h.cb.lt, h.yb.lt, fun _ hx => h.offNew hx, Nat.le_refl _, hb, ⟨rfl, .inl ⟨rfl, rfl⟩⟩⟩
theorem Place.rowP {k : RK} {w w' : World} {s' : RS} {v' : Value} {p : Option Addr} {cap : Nat} {t : List UInt8} (h : Place k w s' w' v' p cap t) : RowP w' p t := by
  rcases h with h | ⟨b, off, h1, h2, _⟩
  · exact .inl h
  · exact .inr ⟨b, off, h1, h2⟩

/-- No first line is refused. -/
abbrev erNil : List UInt8 → Value := fun _ => .nilIface

/-- What ReadContinuedLine leaves. -/
def RTPost (k : RK) (s : RS) (w : World) (T : Nat) (v : Value) (e : Ending) (w' : World) : Prop :=
  ∃ s' res txt err, Rd w' k s' ∧ Tp w' k T ∧ Turned (contBlocks k T v) w w' ∧ e = .returned (.tuple #[.string ⟨txt.toArray⟩, err]) ∧ CSpec erNil (k.d.drop s.pos) res ∧
    ((res = .eof ∧ txt = [] ∧ err = errAt k.ae) ∨ (res = .line txt (k.d.drop s'.pos) ∧ err = .nilIface))

theorem call_noVal (args : Array Value) (W : World) : (callFunc 86 args).run Tryd.prog W = .ok (.enter 86 args) W := by kernel_rfl

set_option maxRecDepth 100000 in
set_option maxHeartbeats 2000000 in
theorem readContLine_any (k : RK) (s : RS) (w : World) (fe : Addr) (T base : Nat) (v : Value) (xs : List UInt8) (hfe : k.ae ≠ fe) (h : Rd w k s) (hT : Tb w k T base v xs) (hF : Sent w k.K 6 fe) :
    Calls Tryd.prog 66 #[.pointer (some ⟨T, 0, none⟩)] w (RTPost k s w T v) := by
  have RC := readCont_gen k s w fe T base v xs (-1) (.inl rfl) hfe h hT hF 86 erNil (fun _ => .inl rfl) call_noVal (fun b off cap l W _ => noValidation_any (some ⟨b, off, none⟩) l.length cap W)
  clear h hT hF
  go_enter Tryd.func66, Tryd.ntmps66
  go_wp2_with fail
  go_at_call 85
  refine RC.mono ?_
  rintro e w1 ⟨s', v', xs', res, hR, hTb, hTu, _, hC, hor⟩
  clear RC
  rcases hor with ⟨he, rfl⟩ | ⟨l, _, hl, _⟩ | ⟨t, p, cap, he, rfl, _, _, hp, _⟩
  · have hs : (convert 22 9 (.slice none 0 0)).run Tryd.prog w1 = .ok (.string ⟨#[]⟩) w1 := string_of_rowP (w := w1) (p := none) (l := []) (.inl rfl) 0
    have HF : Hid (RTPost k s w T v (.returned (.tuple #[.string ⟨#[]⟩, errAt k.ae])) w1) := ⟨s', res, [], _, hR, hTb.tp, hTu, rfl, hC, .inl ⟨he, rfl, rfl⟩⟩
    clear hR hTb hTu hC he
    go_wp2_with fail
    go_ret2
    exact HF.out
  · exact absurd rfl hl
  · have hs := string_of_rowP hp.rowP cap
    have HF : Hid (RTPost k s w T v (.returned (.tuple #[.string ⟨t.toArray⟩, .nilIface])) w1) := ⟨s', res, t, _, hR, hTb.tp, hTu, rfl, hC, .inr ⟨he, rfl⟩⟩
    clear hR hTb hTu hC he hp
    go_wp2_with fail
    go_ret2
    exact HF.out

/-- What impl.Continued answers. -/
def ICPost (l : List UInt8) (w : World) (e : Ending) (w' : World) : Prop :=
  ∃ (txt : List UInt8) (p : Option Addr) (n cap : Nat) (kd : Int) (res : CRes), e = .returned (.tuple #[.string ⟨txt.toArray⟩, .slice p (l.drop n).length cap, .int .i64 kd]) ∧ Turned [] w w' ∧ RowP w' p (l.drop n) ∧ n ≤ l.length ∧ CSpec erNil l res ∧
    ((res = .eof ∧ kd = 1) ∨ (res = .line txt (l.drop n) ∧ kd = 0))

set_option maxRecDepth 100000 in
set_option maxHeartbeats 2000000 in
theorem implCont_any (p : Option Addr) (l : List UInt8) (cap : Nat) (ae fe : Addr) (w : World) (h : DataAt w p l) (hl : l.length ≤ 4294967296) (hE : Ends w w.heap.size ae fe) :
    Calls Tryd.prog 38 #[.slice p l.length cap] w (ICPost l w) := by
  have MR := mkReader_any p l cap ae w h hl hE.eof
  go_enter Tryd.func38, Tryd.ntmps38
  go_wp2_with fail
  go_at_call 47
  refine MR.mono ?_
  rintro e w1 ⟨k, s, T, rfl, hT1, hkd, hkK, hka, hR1, hTp1, hpos, _, _, hbT⟩
  subst hkd
  subst hka
  have hb1 := hT1.below (Nat.le_refl _) (by simp)
  have hF1 : Sent w1 k.K 6 fe := by rw [hkK]; exact hE.full.keep hb1
  have hTb1 := tb_new hR1 hTp1 hbT
  have TL := readContLine_any k s w1 fe T _ _ _ hE.ne hR1 hTb1 hF1
  go_wp2_with fail
  go_at_call 66
  refine TL.mono ?_
  rintro e w2 ⟨s', res, txt, err, hR2, hTp2, hT2, rfl, hC, hor⟩
  have RS := rest_any k s' w2 T hR2 hTp2
  have hT12 := hT1.fresh hT2 (fun x hx => by
    rcases List.mem_cons.1 hx with rfl | hx
    · rw [← hkK]; exact hTp1.kt
    · rcases List.mem_append.1 hx with hx | hx
      · rw [← hkK]; exact hR1.blocks_new x hx
      · cases hx)
  have hb2 := hT12.below (Nat.le_refl _) (by simp)
  have hp2 := hR2.pos_le
  have hi2 := hR2.il
  rw [hpos, List.drop_zero] at hC
  have hfin : ∀ w3 v, Turned k.blocks w2 w3 → w3.ownsRow w2.heap.size 5 1 v (k.d.drop s'.pos).length (by8 (k.d.drop s'.pos)) → Turned [] w w3 ∧ ∃ p cap, v = .slice p (k.d.drop s'.pos).length cap ∧ RowP w3 p (k.d.drop s'.pos) := fun w3 v h1 h2 =>
    ⟨hT12.fresh h1 (fun x hx => by rw [← hkK]; exact hR2.blocks_new x hx), own_slice h2⟩
  have HP := Lib.hid hfin
  rcases hor with ⟨rfl, rfl, rfl⟩ | ⟨rfl, rfl⟩
  · have HX : Hid (CSpec erNil k.d .eof ∧ s'.pos ≤ k.d.length) := ⟨hC, by omega⟩
    clear h hl MR hT1 hR1 hTp1 hb1 hF1 TL hR2 hT2 hTp2 hT12 hb2 hfin hTb1 hbT hC
    go_wp2_with fail
    go_at_call 49
    refine RS.mono ?_
    rintro e w3 ⟨v, rfl, hT3, hO⟩
    obtain ⟨g1, p3, cap3, rfl, hr3⟩ := HP.out w3 v hT3 hO
    have KD := kind_eof w3 (hE.eof.keep (g1.below (Nat.le_refl _) (by simp)))
    have HF : Hid (ICPost k.d w (.returned (.tuple #[.string ⟨#[]⟩, .slice p3 (k.d.drop s'.pos).length cap3, .int .i64 1])) w3) := ⟨[], p3, s'.pos, cap3, 1, .eof, rfl, g1, hr3, HX.out.2, HX.out.1, .inl ⟨rfl, rfl⟩⟩
    clear hO hT3 RS HP HX g1 hr3 hE hp2 hi2 hpos hkK
    generalize (k.d.drop s'.pos).length = m at *
    go_wp2_with (go_at_call 50; (with_reducible refine KD.mono ?_); rintro e w4 ⟨rfl, rfl⟩)
    go_ret3
    exact HF.out
  · have HG : Hid (∀ w3 p3 cap3, Turned [] w w3 → RowP w3 p3 (k.d.drop s'.pos) → ICPost k.d w (.returned (.tuple #[.string ⟨txt.toArray⟩, .slice p3 (k.d.drop s'.pos).length cap3, .int .i64 0])) w3) :=
      fun w3 p3 cap3 g1 hr3 => ⟨txt, p3, s'.pos, cap3, 0, _, rfl, g1, hr3, by omega, hC, .inr ⟨rfl, rfl⟩⟩
    have KD := fun w => kind_nil w
    clear h hl MR hT1 hR1 hTp1 hb1 hF1 TL hR2 hT2 hTp2 hT12 hb2 hfin hTb1 hbT hC
    go_wp2_with fail
    go_at_call 49
    refine RS.mono ?_
    rintro e w3 ⟨v, rfl, hT3, hO⟩
    obtain ⟨g1, p3, cap3, rfl, hr3⟩ := HP.out w3 v hT3 hO
    have HF := Lib.hid (HG.out w3 p3 cap3 g1 hr3)
    clear hO hT3 RS HP HG g1 hr3 hE hp2 hi2 hpos hkK
    generalize (k.d.drop s'.pos).length = m at *
    go_wp2_with (go_at_call 50; (with_reducible refine (KD _).mono ?_); rintro e w4 ⟨rfl, rfl⟩)
    go_ret3
    exact HF.out

set_option maxRecDepth 100000 in
set_option maxHeartbeats 2000000 in
theorem fnContinued_any (p : Option Addr) (l : List UInt8) (cap : Nat) (ae fe : Addr) (w : World) (h : DataAt w p l) (hE : Ends w w.heap.size ae fe) :
    Calls Tryd.prog 14 #[.slice p l.length cap] w fun e w' => e = .returned (.bool true) ∧ Turned [] w w' := by
  by_cases hbig : 65536 < l.length
  · have b0 : (65536 : Int) < (l.length : Int) := by omega
    by_cases hb2 : 2147483647 < l.length
    · have b1 : (2147483647 : Int) < (l.length : Int) := by omega
      go_enter Tryd.func14, Tryd.ntmps14
      go_wp2_with fail
      go_ret
      exact ⟨rfl, Turned.refl _ _⟩
    · have b1 : ¬ (2147483647 : Int) < (l.length : Int) := by omega
      go_enter Tryd.func14, Tryd.ntmps14
      go_wp2_with fail
      go_ret
      exact ⟨rfl, Turned.refl _ _⟩
  · have b0 : ¬ (65536 : Int) < (l.length : Int) := by omega
    have b1 : ¬ (2147483647 : Int) < (l.length : Int) := by omega
    have hrow : RowP w p l := by
      rcases h with rfl | ⟨b, off, rfl, _, hr⟩
      · exact .inl rfl
      · exact .inr ⟨b, off, rfl, hr⟩
    have hs := string_of_rowP hrow cap
    have SL := specCont_any ⟨l.toArray⟩ w (by show l.toArray.size ≤ _; simp; omega)
    have IL := fun n => implCont_any p l cap ae fe (w.drewN n) (by
      rcases h with h | ⟨b, off, h1, h2, h3⟩
      · exact .inl h
      · exact .inr ⟨b, off, h1, h2, h3.of_block rfl⟩) (by omega) ⟨⟨hE.eof.glob, hE.eof.below, hE.eof.cell, hE.eof.row⟩, ⟨hE.full.glob, hE.full.below, hE.full.cell, hE.full.row⟩, hE.ne⟩
    have IL := Lib.hid IL
    clear h hE hrow
    go_enter Tryd.func14, Tryd.ntmps14
    go_wp2_with fail
    go_at_call 37
    refine SL.mono ?_
    rintro e w1 ⟨⟨q, rfl⟩, t, r, what, rfl, hor⟩
    clear SL
    rcases hor with ⟨rfl, hg⟩ | ⟨rfl, h0⟩ | rfl
    · obtain ⟨tl, rfl⟩ : ∃ x : List UInt8, t = ⟨x.toArray⟩ := ⟨lst t, (mk_lst t).symm⟩
      obtain ⟨rl, rfl⟩ : ∃ x : List UInt8, r = ⟨x.toArray⟩ := ⟨lst r, (mk_lst r).symm⟩
      have HG : Hid (CGood l tl rl) := hg
      clear hg
      go_wp2_with fail
      go_at_call 38
      refine (IL.out _).mono ?_
      rintro e w3 ⟨txt, p3, n3, cap3, kd, res, rfl, hT3, hr3, hn3, hC, hor⟩
      have HF : Hid (Turned [] w w3) := ((Turned.refl [] w).drewN _).trans hT3
      have hres := cgood_spec (fun _ => rfl) HG.out hC
      subst hres
      rcases hor with ⟨h1, _⟩ | ⟨h1, rfl⟩
      · cases h1
      · injection h1 with h1 h2
        subst h1
        have hs3 := string_of_rowP hr3 cap3
        rw [← h2] at hs3 ⊢
        clear hr3 hT3 IL HG hC hn3 h2
        go_wp2_with fail
        go_ret
        exact ⟨ret_bool (by simp), HF.out⟩
    · have hl0 : l = [] := List.eq_nil_of_length_eq_zero (by have : l.toArray.size = 0 := h0; simpa using this)
      subst hl0
      clear h0
      go_wp2_with fail
      go_at_call 38
      refine (IL.out _).mono ?_
      rintro e w3 ⟨txt, p3, n3, cap3, kd, res, rfl, hT3, hr3, hn3, hC, hor⟩
      have HF : Hid (Turned [] w w3) := ((Turned.refl [] w).drewN _).trans hT3
      have hres := hC.1 rfl
      subst hres
      rcases hor with ⟨_, rfl⟩ | ⟨h1, _⟩
      · clear hr3 hT3 IL hC hn3
        go_wp2_with fail
        go_ret
        exact ⟨rfl, HF.out⟩
      · cases h1
    · go_wp2_with fail
      go_at_call 38
      refine (IL.out _).mono ?_
      rintro e w3 ⟨txt, p3, n3, cap3, kd, res, rfl, hT3, hr3, hn3, hC, hor⟩
      have HF : Hid (Turned [] w w3) := ((Turned.refl [] w).drewN _).trans hT3
      clear hr3 hT3 IL hor hn3 hC
      go_wp2_with fail
      go_ret
      exact ⟨rfl, HF.out⟩
end Go.Proofs.YthobojpbdeepoaaDoor
