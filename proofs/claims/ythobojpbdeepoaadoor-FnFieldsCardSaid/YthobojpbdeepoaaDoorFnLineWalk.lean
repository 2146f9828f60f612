/-
  The walk of laws.FnLine.
-/
import Derived.Test.YthobojpbdeepoaaDoorSpecLine
namespace Go.Proofs.YthobojpbdeepoaaDoor
open Go.RowKit

theorem Turned.fresh {S : List Nat} {w w1 w2 : World} (h : Turned [] w w1) (k : Turned S w1 w2) (hS : ∀ x, x ∈ S → w.heap.size ≤ x) : Turned [] w w2 :=
  ⟨k.os.trans h.os, k.tape.trans h.tape, k.output.trans h.output, Nat.le_trans h.size k.size, fun i hi _ => (k.block i (Nat.lt_of_lt_of_le hi h.size) (fun hx => by have := hS i hx; omega)).trans (h.block i hi (by simp))⟩
theorem Rd.blocks_new {w : World} {k : RK} {s : RS} (h : Rd w k s) : ∀ x, x ∈ k.blocks → k.K ≤ x := by
  have h1 := h.kb
  have h2 := h.kc
  have h3 := h.ky
  intro x hx
  simp [RK.blocks] at hx
  omega
/-- What a value that owns bytes looks like. -/
theorem own_slice {w : World} {base : Nat} {e : TypeId} {v : Value} {m : List UInt8} (h : w.ownsRow base e 1 v m.length (by8 m)) : ∃ p cap, v = .slice p m.length cap ∧ RowP w p m := by
  rcases Nat.eq_zero_or_pos m.length with h0 | h0
  · have h1 : m = [] := List.eq_nil_of_length_eq_zero h0
    subst h1
    rcases h.2 with ⟨rfl, _⟩ | ⟨g, cap, cur, rfl, _⟩
    · exact ⟨none, 0, rfl, .inl rfl⟩
    · exact ⟨_, cap, rfl, .inl rfl⟩
  · exact rowP_own h h0

/-- What impl.Line answers. -/
def ILPost (l : List UInt8) (w : World) (e : Ending) (w' : World) : Prop :=
  ∃ (txt : List UInt8) (p : Option Addr) (n cap : Nat) (kd : Int), e = .returned (.tuple #[.string ⟨txt.toArray⟩, .slice p (l.drop n).length cap, .int .i64 kd]) ∧ Turned [] w w' ∧ RowP w' p (l.drop n) ∧ n ≤ l.length ∧
    ((∃ j, l[j]? = some 10 ∧ NoNl l 0 j ∧ txt = trimCR (l.take j) ∧ n = j + 1 ∧ kd = 0) ∨ (NoNl l 0 l.length ∧ (l = [] → kd = 1)))

set_option maxRecDepth 100000 in
set_option maxHeartbeats 2000000 in
theorem implLine_any (p : Option Addr) (l : List UInt8) (cap : Nat) (ae fe : Addr) (w : World) (h : DataAt w p l) (hl : l.length ≤ 4294967296) (hE : Ends w w.heap.size ae fe) :
    Calls Tryd.prog 32 #[.slice p l.length cap] w (ILPost l w) := by
  have MR := mkReader_any p l cap ae w h hl hE.eof
  go_enter Tryd.func32, Tryd.ntmps32
  go_wp2_with fail
  go_at_call 47
  refine MR.mono ?_
  rintro e w1 ⟨k, s, T, rfl, hT1, hkd, hkK, hka, hR1, hTp1, hpos, _, _⟩
  subst hkd
  subst hka
  have hb1 := hT1.below (Nat.le_refl _) (by simp)
  have hF1 : Sent w1 k.K 6 fe := by rw [hkK]; exact hE.full.keep hb1
  have TL := tpLine_any k s w1 fe T hR1 hF1 hE.ne hTp1
  go_wp2_with fail
  go_at_call 63
  refine TL.mono ?_
  rintro e w2 ⟨s', hR2, hT2, hor⟩
  have hTp2 := hTp1.keep hR1 hT2
  have RS := rest_any k s' w2 T hR2 hTp2
  have hT12 := hT1.fresh hT2 (fun x hx => by rw [← hkK]; exact hR1.blocks_new x hx)
  have hb2 := hT12.below (Nat.le_refl _) (by simp)
  have hE2 : Sent w2 w.heap.size 0 k.ae := hE.eof.keep hb2
  have hp2 := hR2.pos_le
  have hi2 := hR2.il
  rw [hpos] at hor
  have hfin : ∀ w3 v, Turned k.blocks w2 w3 → w3.ownsRow w2.heap.size 5 1 v (k.d.drop s'.pos).length (by8 (k.d.drop s'.pos)) → Turned [] w w3 ∧ ∃ p cap, v = .slice p (k.d.drop s'.pos).length cap ∧ RowP w3 p (k.d.drop s'.pos) := fun w3 v h1 h2 =>
    ⟨hT12.fresh h1 (fun x hx => by rw [← hkK]; exact hR2.blocks_new x hx), own_slice h2⟩
  rcases hor with ⟨rfl, h1, h2, h3⟩ | ⟨txt, rfl, hlen, hor⟩
  · have HP := Lib.hid hfin
    have HX : Hid (NoNl k.d 0 k.d.length ∧ s'.pos ≤ k.d.length) := ⟨by simpa using h2, by omega⟩
    clear h hl MR hT1 hR1 hTp1 hb1 hF1 TL hR2 hT2 hTp2 hT12 hb2 hfin h1 h2 h3 hE2
    go_wp2_with fail
    go_at_call 49
    refine RS.mono ?_
    rintro e w3 ⟨v, rfl, hT3, hO⟩
    obtain ⟨g1, p3, cap3, rfl, hr3⟩ := HP.out w3 v hT3 hO
    have KD := kind_eof w3 (hE.eof.keep (g1.below (Nat.le_refl _) (by simp)))
    have HF : Hid (ILPost k.d w (.returned (.tuple #[.string ⟨#[]⟩, .slice p3 (k.d.drop s'.pos).length cap3, .int .i64 1])) w3) := ⟨[], p3, s'.pos, cap3, 1, rfl, g1, hr3, HX.out.2, .inr ⟨HX.out.1, fun _ => rfl⟩⟩
    clear hO hT3 RS HP HX g1 hr3 hE hp2 hi2 hpos hkK
    generalize (k.d.drop s'.pos).length = m at *
    go_wp2_with (go_at_call 50; (with_reducible refine KD.mono ?_); rintro e w4 ⟨rfl, rfl⟩)
    go_ret3
    exact HF.out
  · have HP := Lib.hid hfin
    have HG : Hid (∀ w3 p3 cap3, Turned [] w w3 → RowP w3 p3 (k.d.drop s'.pos) → ILPost k.d w (.returned (.tuple #[.string ⟨txt.toArray⟩, .slice p3 (k.d.drop s'.pos).length cap3, .int .i64 0])) w3) := by
      intro w3 p3 cap3 g1 hr3
      refine ⟨txt, p3, s'.pos, cap3, 0, rfl, g1, hr3, by omega, ?_⟩
      rcases hor with ⟨j, h1, h2, h3, h4⟩ | ⟨h1, h2, h3, h4⟩
      · exact .inl ⟨j, by simpa using h1, h2, by simpa using h3, by omega, rfl⟩
      · exact .inr ⟨by simpa using h3, fun h0 => absurd (by rw [h2, h0]; rfl) h1⟩
    have KD := fun w => kind_nil w
    clear h hl MR hT1 hR1 hTp1 hb1 hF1 TL hR2 hT2 hTp2 hT12 hb2 hfin hE2 hor hlen
    go_wp2_with fail
    go_at_call 49
    refine RS.mono ?_
    rintro e w3 ⟨v, rfl, hT3, hO⟩
    obtain ⟨g1, p3, cap3, rfl, hr3⟩ := HP.out w3 v hT3 hO
    have HF := Lib.hid (HG.out w3 p3 cap3 g1 hr3)
    clear hO hT3 RS HP HG g1 hr3 hE hp2 hi2 hpos hkK
    generalize (k.d.drop s'.pos).length = m at *
    go_wp2_with (go_at_call 50; (with_reducible refine (KD _).mono ?_); rintro e w4 ⟨rfl, rfl⟩)
    go_ret3
    exact HF.out

set_option maxRecDepth 100000 in
set_option maxHeartbeats 2000000 in
theorem fnLine_any (p : Option Addr) (l : List UInt8) (cap : Nat) (ae fe : Addr) (w : World) (h : DataAt w p l) (hE : Ends w w.heap.size ae fe) :
    Calls Tryd.prog 9 #[.slice p l.length cap] w fun e w' => e = .returned (.bool true) ∧ Turned [] w w' := by
  by_cases hbig : 65536 < l.length
  · have b0 : (65536 : Int) < (l.length : Int) := by omega
    by_cases hb2 : 2147483647 < l.length
    · have b1 : (2147483647 : Int) < (l.length : Int) := by omega
      go_enter Tryd.func9, Tryd.ntmps9
      go_wp2_with fail
      go_ret
      exact ⟨rfl, Turned.refl _ _⟩
    · have b1 : ¬ (2147483647 : Int) < (l.length : Int) := by omega
      go_enter Tryd.func9, Tryd.ntmps9
      go_wp2_with fail
      go_ret
      exact ⟨rfl, Turned.refl _ _⟩
  · have b0 : ¬ (65536 : Int) < (l.length : Int) := by omega
    have b1 : ¬ (2147483647 : Int) < (l.length : Int) := by omega
    have hrow : RowP w p l := by
      rcases h with rfl | ⟨b, off, rfl, _, hr⟩
      · exact .inl rfl
      · exact .inr ⟨b, off, rfl, hr⟩
    have hs := string_of_rowP hrow cap
    have SL := specLine_any ⟨l.toArray⟩ w (by show l.toArray.size ≤ _; simp; omega)
    have IL := fun n => implLine_any p l cap ae fe (w.drewN n) (by
      rcases h with h | ⟨b, off, h1, h2, h3⟩
      · exact .inl h
      · exact .inr ⟨b, off, h1, h2, h3.of_block rfl⟩) (by omega) ⟨⟨hE.eof.glob, hE.eof.below, hE.eof.cell, hE.eof.row⟩, ⟨hE.full.glob, hE.full.below, hE.full.cell, hE.full.row⟩, hE.ne⟩
    have IL := Lib.hid IL
    clear h hE hrow
    go_enter Tryd.func9, Tryd.ntmps9
    go_wp2_with fail
    go_at_call 31
    refine SL.mono ?_
    rintro e w1 ⟨⟨n, rfl⟩, hor⟩
    simp only [lst_mk] at hor
    rcases hor with ⟨j, h1, h2, rfl⟩ | ⟨h0, h2, rfl⟩ | ⟨h0, rfl⟩
    · have h1' : l[j]? = some 10 := h1
      have h2' : NoNl l 0 j := h2
      have HJ : Hid (∀ j', l[j']? = some 10 → NoNl l 0 j' → j' = j) := fun j' g1 g2 => by
        rcases Nat.lt_trichotomy j' j with h | h | h
        · exact absurd (by simpa using g1) (h2' j' h)
        · exact h
        · exact absurd (by simpa using h1') (g2 j h)
      have HB : Hid (¬ NoNl l 0 l.length) := fun h => h j (List.getElem?_eq_some_iff.1 h1').1 (by simpa using h1')
      clear h1 h2 h1' h2' SL
      go_wp2_with fail
      go_at_call 32
      refine (IL.out _).mono ?_
      rintro e w3 ⟨txt, p3, n3, cap3, kd, rfl, hT3, hr3, hn3, hor⟩
      have HF : Hid (Turned [] w w3) := ((Turned.refl [] w).drewN _).trans hT3
      rcases hor with ⟨j', g1, g2, rfl, rfl, rfl⟩ | ⟨g1, _⟩
      · obtain rfl := HJ.out j' g1 g2
        have hs3 := string_of_rowP hr3 cap3
        rw [List.length_drop] at hs3
        clear hr3 hT3 IL HJ HB g1 g2 hn3
        go_wp2_with fail
        go_ret
        exact ⟨ret_bool (by simp), HF.out⟩
      · exact absurd g1 HB.out
    · clear SL h2
      go_wp2_with fail
      go_at_call 32
      refine (IL.out _).mono ?_
      rintro e w3 ⟨txt, p3, n3, cap3, kd, rfl, hT3, hr3, hn3, hor⟩
      have HF : Hid (Turned [] w w3) := ((Turned.refl [] w).drewN _).trans hT3
      clear hr3 hT3 IL hor hn3
      go_wp2_with fail
      go_ret
      exact ⟨rfl, HF.out⟩
    · have hl0 : l = [] := List.eq_nil_of_length_eq_zero (by have : l.toArray.size = 0 := h0; simpa using this)
      subst hl0
      clear SL h0
      go_wp2_with fail
      go_at_call 32
      refine (IL.out _).mono ?_
      rintro e w3 ⟨txt, p3, n3, cap3, kd, rfl, hT3, hr3, hn3, hor⟩
      have HF : Hid (Turned [] w w3) := ((Turned.refl [] w).drewN _).trans hT3
      rcases hor with ⟨j', g1, _⟩ | ⟨_, g1⟩
      · simp at g1
      · obtain rfl := g1 rfl
        clear hr3 hT3 IL g1 hn3
        go_wp2_with fail
        go_ret
        exact ⟨rfl, HF.out⟩
end Go.Proofs.YthobojpbdeepoaaDoor
