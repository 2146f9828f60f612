/-
  The walks of ParseCodeLine, impl.ParseCode and laws.FnParseCode.
-/
import Derived.Test.YtdhdcgliefjonaaDoorPKind
namespace Go.Proofs.YtdhdcgliefjonaaDoor
open Go.RowKit

/-- The sentinels that impl.ParseCode may read. -/
structure EndsP (w : World) (K : Nat) (ae ue se : Addr) : Prop where
  c : EndsC w K ae ue
  syn : Sent w K 2 se
theorem EndsP.drewN {w : World} {K : Nat} {ae ue se : Addr} (h : EndsP w K ae ue se) (q : Nat) : EndsP (w.drewN q) K ae ue se := ⟨h.c.drewN q, ⟨h.syn.glob, h.syn.below, h.syn.cell, h.syn.row⟩⟩

set_option maxRecDepth 100000 in
set_option maxHeartbeats 2000000 in
theorem parseLine_any (s : ByteArray) (x : Int) (K : Nat) (se : Addr) (w : World) (hs : s.size ≤ 4294967296) (hx : x < 1000) (hE : Sent w K 2 se) (hK : K ≤ w.heap.size) :
    Calls Tryd.prog 7 #[.string s, .int .i64 x] w fun e w' => ∃ n b t er, e = .returned (.tuple #[.int .i64 n, .bool b, .string t, er]) ∧ Turned [] w w' ∧ PCOut (lst s) x n b t er := by
  have PC := Lib.hid (parseCode_any s x K se w hs hx hE hK)
  clear hE
  go_enter Tryd.func7, Tryd.ntmps7
  go_wp2_with fail
  go_at_call 9
  (with_reducible refine PC.out.mono ?_)
  intro e w1 hP
  obtain ⟨n, b, t, er, rfl, hT, ho⟩ := pc_out hP
  have HF : Hid (Turned [] w w1 ∧ PCOut (lst s) x n b t er) := ⟨hT, ho⟩
  clear hP hT ho
  go_wp2_with fail
  (try simp only [Exit.inBlock, Exit.then]); refine bodyPost_ret (results_tmp4 rfl _ _ _) rfl ?_
  exact ⟨n, b, t, er, rfl, HF.out⟩

/-- What impl.ParseCode answers. -/
def IPPost (l : List UInt8) (x : Int) (w : World) (e : Ending) (w' : World) : Prop :=
  ∃ n b t kd, e = .returned (.tuple #[.int .i64 n, .bool b, .string t, .int .i64 kd]) ∧ Turned [] w w' ∧
    ((∃ m, code3 l = some (n, b, m) ∧ 100 ≤ n ∧ t = ⟨m.toArray⟩ ∧ ((fitsB n x = true ∧ kd = 0) ∨ (fitsB n x = false ∧ kd = 3))) ∨ ((∀ n b m, code3 l = some (n, b, m) → n < 100) ∧ kd ≠ 0))
set_option maxRecDepth 100000 in
set_option maxHeartbeats 2000000 in
theorem implParse_any (s : ByteArray) (x : Int) (ae ue se : Addr) (w : World) (hs : s.size ≤ 4294967296) (hx : x < 1000) (hE : EndsP w w.heap.size ae ue se) :
    Calls Tryd.prog 5 #[.string s, .int .i64 x] w (IPPost (lst s) x w) := by
  have PC := Lib.hid (parseLine_any s x w.heap.size se w hs hx hE.syn (Nat.le_refl _))
  have HE := Lib.hid (fun w' (ht : Turned [] w w') => hE.c.keep (ht.below (Nat.le_refl _) (by simp)))
  clear hE
  go_enter Tryd.func5, Tryd.ntmps5
  go_wp2_with fail
  go_at_call 7
  (with_reducible refine PC.out.mono ?_)
  rintro e w1 ⟨n, b, t, er, rfl, hT, ho⟩
  obtain ⟨kd, hk, hf⟩ : ∃ kd, ErrK ae ue er kd ∧ IPPost (lst s) x w (.returned (.tuple #[.int .i64 n, .bool b, .string t, .int .i64 kd])) w1 := by
    rcases ho with ⟨m, h1, h2, rfl, ⟨h3, rfl⟩ | ⟨h3, N, rfl⟩⟩ | ⟨h1, rfl, z, rfl⟩
    · exact ⟨0, .inl ⟨rfl, rfl⟩, n, b, _, 0, rfl, hT, .inl ⟨m, h1, h2, rfl, .inl ⟨h3, rfl⟩⟩⟩
    · exact ⟨3, .inr (.inr (.inr (.inl ⟨N, rfl, rfl⟩))), n, b, _, 3, rfl, hT, .inl ⟨m, h1, h2, rfl, .inr ⟨h3, rfl⟩⟩⟩
    · exact ⟨4, .inr (.inr (.inr (.inr ⟨z, rfl, rfl⟩))), n, b, _, 4, rfl, hT, .inr ⟨h1, by decide⟩⟩
  have KD := Lib.hid (kind_any er kd w1 (HE.out w1 hT) hk)
  have HF := Lib.hid hf
  clear hT ho hk hf PC
  go_wp2_with (go_at_call 8; (with_reducible refine KD.out.mono ?_); rintro e w4 ⟨rfl, rfl⟩)
  (try simp only [Exit.inBlock, Exit.then]); refine bodyPost_ret (results_tmp4 rfl _ _ _) rfl ?_
  exact HF.out

set_option maxRecDepth 100000 in
set_option maxHeartbeats 4000000 in
theorem fnParseCode_any (s : ByteArray) (x : Int) (ae ue se : Addr) (w : World) (hE : EndsP w w.heap.size ae ue se) :
    Calls Tryd.prog 3 #[.string s, .int .i64 x] w fun e w' => e = .returned (.bool true) ∧ Turned [] w w' := by
  by_cases hb : 2147483647 < s.size
  · have b1 : (2147483647 : Int) < (s.size : Int) := by omega
    go_enter Tryd.func3, Tryd.ntmps3
    go_wp2_with fail
    go_ret
    exact ⟨rfl, Turned.refl _ _⟩
  have b1 : ¬ (2147483647 : Int) < (s.size : Int) := by omega
  by_cases hx : 1000 ≤ x
  · go_enter Tryd.func3, Tryd.ntmps3
    go_wp2_with fail
    go_ret
    exact ⟨rfl, Turned.refl _ _⟩
  have SC := Lib.hid (specCode_any s w (by omega))
  have IC := Lib.hid (fun q => implParse_any s x ae ue se (w.drewN q) (by omega) (by omega) (hE.drewN q))
  clear hE hb
  go_enter Tryd.func3, Tryd.ntmps3
  go_wp2_with fail
  go_at_call 4
  (with_reducible refine SC.out.mono ?_)
  rintro e w1 ⟨⟨q, rfl⟩, hor⟩
  have HO := Lib.hid hor
  have IQ := Lib.hid (IC.out q)
  obtain ⟨n, b, t, what, he, hw⟩ : ∃ n b t what, e = .returned (.tuple #[.int .i64 n, .bool b, .string t, .int .i64 what]) ∧ ((what = 0 ∧ ∃ m, code3 (lst s) = some (n, b, m) ∧ 100 ≤ n ∧ t = ⟨m.toArray⟩) ∨ what = 2 ∨ (what = 1 ∧ code3 (lst s) = none)) := by
    rcases hor with ⟨n, b, m, h1, h2, rfl⟩ | ⟨n, b, m, _, _, rfl⟩ | ⟨h1, rfl⟩
    · exact ⟨n, b, _, 0, rfl, .inl ⟨rfl, m, h1, h2, rfl⟩⟩
    · exact ⟨0, false, _, 2, rfl, .inr (.inl rfl)⟩
    · exact ⟨0, false, _, 1, rfl, .inr (.inr ⟨rfl, h1⟩)⟩
  subst he
  have HW := Lib.hid hw
  clear hor hw HO SC IC
  go_wp2_with fail
  go_at_call 5
  (with_reducible refine IQ.out.mono ?_)
  rintro e w2 ⟨n', b', t', kd, rfl, hT, hor⟩
  have HT : Hid (Turned [] w w2) := ((Turned.refl [] w).drewN q).trans hT
  rcases HW.out with ⟨rfl, m, h1, h2, rfl⟩ | rfl | ⟨rfl, h1⟩
  · rcases hor with ⟨m', g1, _, rfl, g2⟩ | ⟨g1, _⟩
    · rw [h1] at g1
      injection g1 with g1
      injection g1 with g1 g3
      injection g3 with g3 g4
      subst g1 g3 g4
      obtain ⟨n0, n1⟩ := code3_n h1
      have FT := Lib.hid (fun W => fits_any2 n x W n0 n1)
      rcases g2 with ⟨g2, rfl⟩ | ⟨g2, rfl⟩
      · rw [g2] at FT
        clear hT h1 IQ
        go_wp2_with (go_at_call 6; (with_reducible refine (FT.out _).mono ?_); rintro e w6 ⟨rfl, rfl⟩)
        go_ret
        exact ⟨ret_bool (by simp), HT.out⟩
      · rw [g2] at FT
        clear hT h1 IQ
        go_wp2_with (go_at_call 6; (with_reducible refine (FT.out _).mono ?_); rintro e w6 ⟨rfl, rfl⟩)
        go_ret
        exact ⟨ret_bool (by simp), HT.out⟩
    · have := g1 _ _ _ h1
      omega
  · clear hT hor IQ
    go_wp2_with fail
    go_ret
    exact ⟨rfl, HT.out⟩
  · have hk : kd ≠ 0 := by
      rcases hor with ⟨m', g1, _⟩ | ⟨_, g1⟩
      · rw [h1] at g1; cases g1
      · exact g1
    have hk' : (kd != 0) = true := by simpa using hk
    clear hT hor IQ hk
    go_wp2_with fail
    go_ret
    exact ⟨rfl, HT.out⟩
end Go.Proofs.YtdhdcgliefjonaaDoor
