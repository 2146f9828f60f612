/-
  The walk of laws.FnDotsComeBack.
-/
import Derived.Test.YthobojpbdeepoaaDoorWrittenWalk
import Derived.Test.YthobojpbdeepoaaDoorDotsWalk
import Derived.Laws.AppendOwnNone
namespace Go.Proofs.YthobojpbdeepoaaDoor
open Go.RowKit

theorem Sent.mono {w : World} {K K' g : Nat} {a : Addr} (h : Sent w K g a) (hK : K ≤ K') : Sent w K' g a := ⟨Nat.lt_of_lt_of_le h.glob hK, Nat.lt_of_lt_of_le h.below hK, h.cell, h.row⟩
theorem EndsC.up {w w' : World} {ae ue : Addr} (h : EndsC w w.heap.size ae ue) (hT : Turned [] w w') : EndsC w' w'.heap.size ae ue := by
  have h1 := h.keep (hT.below (Nat.le_refl _) (by simp))
  exact ⟨h1.eof.mono hT.size, h1.cut.mono hT.size, h1.ne⟩
theorem RowP.dataAt {w : World} {p : Option Addr} {l : List UInt8} (h : RowP w p l) : DataAt w p l := by
  rcases h with h | ⟨b, off, h1, h2⟩
  · exact .inl h
  · cases l with
    | nil => exact .inl rfl
    | cons c cs =>
      refine .inr ⟨b, off, h1, ?_, h2⟩
      have h3 := h2 0 c rfl
      rcases Nat.lt_or_ge b w.heap.size with h4 | h4
      · exact h4
      · unfold World.cell? at h3
        rw [Array.getElem?_eq_none h4] at h3
        cases h3
/-- A block that was written comes back. -/
theorem dotsBack_any (p : Option Addr) (t r : List UInt8) (cap : Nat) (ae ue : Addr) (w : World) (h : DataAt w p (enc t ++ r)) (hl : (enc t ++ r).length ≤ 1048576) (h13 : ∀ c, c ∈ t → c ≠ 13) (hE : EndsC w w.heap.size ae ue) :
    Calls Tryd.prog 30 #[.slice p (enc t ++ r).length cap] w fun e w' => ∃ p1 p2 cap1 cap2, e = .returned (.tuple #[.slice p1 (t ++ tailOf (encW t 0).2).length cap1, .slice p2 r.length cap2, .int .i64 0]) ∧ Turned [] w w' ∧ DataAt w' p1 (t ++ tailOf (encW t 0).2) ∧ DataAt w' p2 r := by
  refine (implDots_any p (enc t ++ r) cap ae ue w h hl hE).mono ?_
  rintro e w' ⟨p1, p2, cap1, cap2, n, kd, rfl, hT, h1, h2, hor⟩
  have hd := enc_dec t r h13
  rw [hd] at h1 hor
  rcases hor with ⟨g1, rfl⟩ | ⟨g1, _⟩
  · have hn : (enc t ++ r).drop n = r := (Option.some.inj g1).symm
    rw [hn] at h2
    refine ⟨p1, p2, cap1, cap2, ?_, hT, h1.dataAt, h2.dataAt⟩
    rw [hd, hn]
  · cases g1
theorem enc_len (t : List UInt8) : (enc t).length ≤ 2 * t.length + 5 := by
  have h1 := encW_len t 0
  have h2 : (ends (encW t 0).2).length ≤ 5 := by
    unfold ends
    split
    · decide
    · split <;> decide
  unfold enc
  rw [List.length_append]; omega
theorem tail_nl {l : List UInt8} (h : l ≠ []) (h13 : ∀ c, c ∈ l → c ≠ 13) : (l[l.length - 1]? = some 10 ∧ l ++ tailOf (encW l 0).2 = l) ∨ (∃ c, l[l.length - 1]? = some c ∧ c ≠ 10 ∧ l ++ tailOf (encW l 0).2 = l ++ [10]) := by
  have h1 : l = l.dropLast ++ [l.getLast h] := (List.dropLast_concat_getLast h).symm
  have h2 : l[l.length - 1]? = some (l.getLast h) := by
    rw [List.getLast_eq_getElem, List.getElem?_eq_getElem]
  have h3 := encW_last l.dropLast (l.getLast h) (fun x hx => h13 x (by rw [h1]; exact hx))
  rw [← h1] at h3
  rcases h3 with ⟨h4, h5⟩ | ⟨h4, h5⟩
  · exact .inl ⟨by rw [h2, h5], by rw [h4]; simp [tailOf]⟩
  · exact .inr ⟨_, h2, h5, by rw [h4]; simp [tailOf]⟩
theorem own_join {w : World} {base : Nat} {v : Value} {a b : List UInt8} (h : w.ownsRow base 5 1 v (a.length + b.length) (by8 a ++ by8 b)) : ∃ p cap, v = .slice p (a ++ b).length cap ∧ DataAt w p (a ++ b) := by
  have e : by8 (a ++ b) = by8 a ++ by8 b := by unfold by8; rw [List.map_append]
  rw [← List.length_append, ← e] at h
  exact rowP_of_own h

theorem grownBy_refl (w : World) (row : Option Nat) : w.grownBy w row := ⟨rfl, rfl, rfl, Nat.le_refl _, fun _ _ _ => rfl⟩
set_option maxRecDepth 100000 in
/-- 'append(own, data...)': the data nil, empty or not. -/
theorem wpList_append_data {w : World} {ops : Array Oper} {rest : List Oper} {o : Oper} {a : Act} {Q : Exit → Act → World → Prop} (hgd : o.guard = none) (s x : Operand)
    (ho : o.op = .call { callee := .builtin .append, args := #[s, x], argTypes := #[22, 22] }) (base : Nat) (v : Value) (t l : List UInt8) (hs : a.eval s = v) (hown : w.ownsRow base 5 1 v t.length (by8 t))
    (p : Option Addr) (lc : Nat) (hx : a.eval x = .slice p l.length lc) (hd : DataAt w p l) (hc : p = none → lc = 0) (hlen : t.length + l.length ≤ 1073741824) (hbase : base ≤ w.heap.size)
    (h : ∀ v' w', w'.ownsRow base 5 1 v' (t.length + l.length) (by8 t ++ by8 l) → w.grownBy w' v.ownBlock → wpList Tryd.prog ops Q rest (a.put o.dst v') w') : wpList Tryd.prog ops Q (o :: rest) a w := by
  obtain ⟨i0, hi, hz0, hz1, hz2⟩ := info_parts u8_info
  cases p with
  | none =>
    obtain rfl := hc rfl
    obtain rfl : l = [] := by
      rcases hd with h | ⟨_, _, h, _⟩
      · exact h
      · cases h
    refine wpList_append_own_none hgd s x 22 ho base 5 i0 1 Tryd.underlying22 hi v t.length (by8 t) hs hown hx (h v w ?_ (grownBy_refl _ _))
    show w.ownsRow base 5 1 v (t.length + 0) (by8 t ++ [])
    rw [List.append_nil]; exact hown
  | some ad =>
    refine wpList_append_own_at _ hgd s x 22 ho base 5 i0 (.int .u8 0) 1 1 Tryd.underlying22 hi hz0 hz1 hz2 rfl (by decide) v t.length (by8 t) hs hown ad l.length lc (by8 l) hx (by rw [by8_length, Nat.mul_one]) ?_ (by8_one l) (by unfold maxLen; omega) (by omega) hbase (fun v' w' h1 h2 _ _ => h v' w' h1 h2)
    intro j u hj
    rcases hd with rfl | ⟨b, off, h1, _, h3⟩
    · simp [by8] at hj
    · injection h1 with h1
      subst h1
      unfold by8 at hj
      rw [List.getElem?_map] at hj
      obtain ⟨y, hy, rfl⟩ := Option.map_eq_some_iff.1 hj
      have h4 := h3 j y hy
      unfold Addr.add
      split
      · subst_vars; simpa using h4
      · exact h4

set_option maxRecDepth 100000 in
set_option maxHeartbeats 8000000 in
theorem fnDotsComeBack_any (pa : Option Addr) (xs : List (List UInt8)) (cap : Nat) (p : Option Addr) (l : List UInt8) (lc : Nat) (ae ue : Addr) (w : World) (h : PartsAt w pa xs) (hd : DataAt w p l) (hc : p = none → lc = 0) (hE : EndsC w w.heap.size ae ue) :
    Calls Tryd.prog 13 #[.slice pa xs.length cap, .slice p l.length lc] w fun e w' => e = .returned (.bool true) ∧ Turned [] w w' := by
  have FI := Lib.hid (fits_any pa xs cap w h)
  have HP := Lib.hid h
  have HD := Lib.hid hd
  have HE := Lib.hid hE
  have HC := Lib.hid hc
  clear h hd hE hc
  go_enter Tryd.func13, Tryd.ntmps13
  go_wp2_with fail
  go_at_call 24
  (with_reducible refine FI.out.mono ?_)
  rintro e w1 ⟨rfl, b, rfl, hb⟩
  cases b with
  | false =>
    go_wp2_with fail
    go_ret
    exact ⟨rfl, Turned.refl _ _⟩
  | true =>
    obtain ⟨hn, hx⟩ := hb rfl
    have HN := Lib.hid hn
    have JO := Lib.hid (joined_any pa xs cap w HP.out hn hx)
    clear hn hx hb FI
    by_cases hl2 : 2147483647 < l.length
    · have b0 : (2147483647 : Int) < (l.length : Int) := by omega
      go_wp2_with fail
      go_ret
      exact ⟨rfl, Turned.refl _ _⟩
    have b0 : ¬ (2147483647 : Int) < (l.length : Int) := by omega
    go_wp2_with fail
    go_at_call 25
    (with_reducible refine JO.out.mono ?_)
    rintro e w2 ⟨s, rfl, hs, q, rfl⟩
    clear JO
    have hsz := lst_length s
    by_cases h0 : lst s = []
    · have t0 := str_is h0
      clear hs
      go_wp2_with fail
      go_ret
      exact ⟨rfl, (Turned.refl _ _).drewN q⟩
    have t0 := str_not h0
    by_cases hb : 65536 < s.size
    · have b1 : (65536 : Int) < (s.size : Int) := by omega
      clear hs h0
      go_wp2_with fail
      go_ret
      exact ⟨rfl, (Turned.refl _ _).drewN q⟩
    have b1 : ¬ (65536 : Int) < (s.size : Int) := by omega
    by_cases hb2 : 65536 < l.length
    · have b2 : (65536 : Int) < (l.length : Int) := by omega
      clear hs h0
      go_wp2_with fail
      go_ret
      exact ⟨rfl, (Turned.refl _ _).drewN q⟩
    have b2 : ¬ (65536 : Int) < (l.length : Int) := by omega
    have LH := Lib.hid (lhas_any s 13 (w.drewN q) (by omega))
    cases h13 : hasB (lst s) 13 with
    | true =>
      rw [h13] at LH
      clear hs h0
      go_wp2_with (first | (go_at_call 21; (with_reducible refine LH.out.mono ?_); rintro e w3 ⟨rfl, rfl⟩))
      go_ret
      exact ⟨rfl, (Turned.refl _ _).drewN q⟩
    | false =>
    rw [h13] at LH
    have hn13 := no13_of_has h13
    have H13 := Lib.hid hn13
    have HS := Lib.hid hs
    have HLS : Hid ((lst s).length ≤ 65536) := by show _ ≤ _; omega
    have HLL : Hid ((enc (lst s) ++ l).length ≤ 1048576) := by
      have h1 := enc_len (lst s)
      show _ ≤ _
      rw [List.length_append]; omega
    have HT0 : Hid (∀ n, Turned [] w (w.drewN n)) := fun n => (Turned.refl _ _).drewN n
    have htl := tail_nl h0 hn13
    have hpos : 0 < s.size := by
      rcases Nat.eq_zero_or_pos s.size with h1 | h1
      · exact absurd (List.eq_nil_of_length_eq_zero (by rw [hsz, h1])) h0
      · exact h1
    have c1 : IntKind.i64.wrap ((s.size : Int) - 1) = (s.size : Int) - 1 := IntWalk.i64_in _ (by omega)
    have c2 : (0 : Int) ≤ (s.size : Int) - 1 := by omega
    have c3 : (s.size : Int) - 1 < (s.size : Int) := by omega
    have c4 : ((s.size : Int) - 1).toNat = s.size - 1 := by omega
    have c5 : s.size - 1 < s.size := by omega
    have hget := lst_get s (s.size - 1) c5
    rw [hsz, hget] at htl
    clear hs h0 h13 hn13 hget
    have HLA : Hid ((enc (lst s)).length + l.length ≤ 1073741824) := by have := HLL.out; rw [List.length_append] at this; show _ ≤ _; omega
    have z1 : ¬ 9223372036854775807 < s.size + 1 := by omega
    rcases htl with ⟨g1, g2⟩ | ⟨c, g1, g2, g3⟩
    · have t1 : ((s[s.size - 1].toNat : Int) != 10) = false := by
        have h1 : ((s[s.size - 1].toNat : Int) == 10) = true := u8_is (c := 10) (Option.some.inj g1)
        unfold bne; rw [h1]; rfl
      have HX : Hid (s = ⟨(lst s ++ tailOf (encW (lst s) 0).2).toArray⟩) := lst_inj (by rw [g2]; rfl)
      clear g1 g2
      have WR := Lib.hid (written_any pa xs cap (w.drewN q) (HP.out.keep (HT0.out q)) HN.out (by rw [← HS.out]; exact H13.out) (by rw [← HS.out]; exact HLS.out))
      go_wp2_with (first | (go_at_call 21; (with_reducible refine LH.out.mono ?_); rintro e w3 ⟨rfl, rfl⟩) | (go_at_call 26; (with_reducible refine WR.out.mono ?_); rintro e w4 ⟨v, rfl, hT4, hO4⟩; rw [← HS.out] at hO4; have HT4 : Hid (Turned [] w w4) := (HT0.out q).trans hT4; have HO4 : Hid (w4.ownsRow w.heap.size 5 1 v (enc (lst s)).length (by8 (enc (lst s)))) := hO4; have HSZ4 : Hid (w.heap.size ≤ w4.heap.size) := HT4.out.size; clear hT4 hO4) | (at_builtin; refine wpList_append_data rfl (.tmp 45) (.tmp 46) rfl w.heap.size v (enc (lst s)) l rfl HO4.out p lc rfl (HD.out.keep HT4.out) HC.out HLA.out HSZ4.out ?_; intro v' w6 hown hgrow; refine Hid.out ?_))
      refine Lib.hid ?_
      have HT6 : Hid (Turned [] w w6) := HT4.out.grown hgrow (fun x hx => .inr (HO4.out.lt x hx).1)
      obtain ⟨vp, vc, rfl, hdat⟩ := own_join hown
      have DB := Lib.hid (dotsBack_any vp (lst s) l vc ae ue w6 hdat HLL.out H13.out (HE.out.up HT6.out))
      obtain ⟨X, hX⟩ : ∃ X, X = lst s ++ tailOf (encW (lst s) 0).2 := ⟨_, rfl⟩
      rw [← hX] at DB HX
      rw [show (enc (lst s) ++ l).length = (enc (lst s)).length + l.length from List.length_append] at DB
      clear hown hgrow hdat WR hX
      go_wp2_with (first | (go_at_call 30; (with_reducible refine DB.out.mono ?_); rintro e w7 ⟨p1, p2, cap1, cap2, rfl, hT7, hd1, hd2⟩))
      have HT7 : Hid (Turned [] w w7) := HT6.out.trans hT7
      have s1 := string_of_rowP hd1.rowP cap1
      have s2 := string_of_rowP hd2.rowP cap2
      have s3 := string_of_rowP (HD.out.keep HT7.out).rowP lc
      clear hT7 hd1 hd2 DB
      rw [← HX.out] at s1
      go_wp2_with fail
      rw [s1]
      go_wp2_with fail
      go_ret
      exact ⟨ret_bool (by simp), HT7.out⟩
    · have t1 : ((s[s.size - 1].toNat : Int) != 10) = true := by
        have h1 : s[s.size - 1] ≠ 10 := by rw [Option.some.inj g1]; exact g2
        have h2 : ((s[s.size - 1].toNat : Int) == 10) = false := u8_not (c := 10) h1
        unfold bne; rw [h2]; rfl
      have HX : Hid (s ++ ⟨#[10]⟩ = ⟨(lst s ++ tailOf (encW (lst s) 0).2).toArray⟩) := lst_inj (by rw [g3, lst_append]; rfl)
      clear g1 g2 g3
      have WR := Lib.hid (written_any pa xs cap (w.drewN q) (HP.out.keep (HT0.out q)) HN.out (by rw [← HS.out]; exact H13.out) (by rw [← HS.out]; exact HLS.out))
      go_wp2_with (first | (go_at_call 21; (with_reducible refine LH.out.mono ?_); rintro e w3 ⟨rfl, rfl⟩) | (go_at_call 26; (with_reducible refine WR.out.mono ?_); rintro e w4 ⟨v, rfl, hT4, hO4⟩; rw [← HS.out] at hO4; have HT4 : Hid (Turned [] w w4) := (HT0.out q).trans hT4; have HO4 : Hid (w4.ownsRow w.heap.size 5 1 v (enc (lst s)).length (by8 (enc (lst s)))) := hO4; have HSZ4 : Hid (w.heap.size ≤ w4.heap.size) := HT4.out.size; clear hT4 hO4) | (at_builtin; refine wpList_append_data rfl (.tmp 45) (.tmp 46) rfl w.heap.size v (enc (lst s)) l rfl HO4.out p lc rfl (HD.out.keep HT4.out) HC.out HLA.out HSZ4.out ?_; intro v' w6 hown hgrow; refine Hid.out ?_))
      refine Lib.hid ?_
      have HT6 : Hid (Turned [] w w6) := HT4.out.grown hgrow (fun x hx => .inr (HO4.out.lt x hx).1)
      obtain ⟨vp, vc, rfl, hdat⟩ := own_join hown
      have DB := Lib.hid (dotsBack_any vp (lst s) l vc ae ue w6 hdat HLL.out H13.out (HE.out.up HT6.out))
      obtain ⟨X, hX⟩ : ∃ X, X = lst s ++ tailOf (encW (lst s) 0).2 := ⟨_, rfl⟩
      rw [← hX] at DB HX
      rw [show (enc (lst s) ++ l).length = (enc (lst s)).length + l.length from List.length_append] at DB
      clear hown hgrow hdat WR hX
      go_wp2_with (first | (go_at_call 30; (with_reducible refine DB.out.mono ?_); rintro e w7 ⟨p1, p2, cap1, cap2, rfl, hT7, hd1, hd2⟩))
      have HT7 : Hid (Turned [] w w7) := HT6.out.trans hT7
      have s1 := string_of_rowP hd1.rowP cap1
      have s2 := string_of_rowP hd2.rowP cap2
      have s3 := string_of_rowP (HD.out.keep HT7.out).rowP lc
      clear hT7 hd1 hd2 DB
      rw [← HX.out] at s1
      go_wp2_with fail
      rw [s1]
      go_wp2_with fail
      go_ret
      exact ⟨ret_bool (by simp), HT7.out⟩
end Go.Proofs.YthobojpbdeepoaaDoor
