/-
  The walk of laws.FnAnswerComesBack.
-/
import Derived.Test.YthobojpbdeepoaaDoorAnswerLaw
namespace Go.Proofs.YthobojpbdeepoaaDoor
open Go.RowKit

theorem dig_byte {k : Int} (h0 : 0 ≤ k) (h1 : k ≤ 9) : 48 + k = ((digOf k).toNat : Int) := by rw [digOf_toNat h0 h1]; omega
theorem three_string (w : World) (a b c : UInt8) : (convert 22 9 (.slice (some ⟨w.heap.size, 0, none⟩) 3 3)).run Tryd.prog (w.alloc (.cells #[.int .u8 (a.toNat : Int), .int .u8 (b.toNat : Int), .int .u8 (c.toNat : Int)] 5)) =
    .ok (.string ⟨[a, b, c].toArray⟩) (w.alloc (.cells #[.int .u8 (a.toNat : Int), .int .u8 (b.toNat : Int), .int .u8 (c.toNat : Int)] 5)) := by
  refine string_of_row (l := [a, b, c]) (fun j u hj => ?_) _ _ _ 3 Tryd.underlying22 Tryd.underlying5 Tryd.underlying9
  have hb : Blk (w.alloc (.cells #[.int .u8 (a.toNat : Int), .int .u8 (b.toNat : Int), .int .u8 (c.toNat : Int)] 5)) w.heap.size 5 #[.int .u8 (a.toNat : Int), .int .u8 (b.toNat : Int), .int .u8 (c.toNat : Int)] := Blk.new w _ _
  rw [Nat.zero_add, hb.cell]
  match j, hj with
  | 0, hj => simp at hj; subst hj; rfl
  | 1, hj => simp at hj; subst hj; rfl
  | 2, hj => simp at hj; subst hj; rfl

/-- The lines by number. -/
def lineN (xs : List ByteArray) (k : Nat) : List UInt8 := ((xs.map lst)[k]?).getD []
theorem lineN_at {xs : List ByteArray} {k : Nat} {x : ByteArray} (h : xs[k]? = some x) : lineN xs k = lst x := by unfold lineN; rw [List.getElem?_map, h]; rfl
/-- Which lines are written bare. -/
def bareN (d : List UInt8) (xs : List ByteArray) (bs : List Bool) (k : Nat) : Bool := decide (0 < k) && decide (k + 1 < xs.length) && (bs[k]?).getD false && !(decide (3 ≤ (lineN xs k).length) && decide ((lineN xs k).take 3 = d))
theorem bareN_out {d : List UInt8} {xs : List ByteArray} {bs : List Bool} {k : Nat} (h : bareN d xs bs k = true) : 0 < k ∧ k + 1 < xs.length ∧ (lineN xs k).take 3 ≠ d ∨ (0 < k ∧ k + 1 < xs.length ∧ (lineN xs k).length < 3) := by
  unfold bareN at h
  simp only [Bool.and_eq_true, decide_eq_true_eq, Bool.not_eq_true', Bool.and_eq_false_iff, decide_eq_false_iff_not] at h
  obtain ⟨⟨⟨h1, h2⟩, _⟩, h3⟩ := h
  rcases h3 with h3 | h3
  · exact .inr ⟨h1, h2, by omega⟩
  · exact .inl ⟨h1, h2, h3⟩
theorem bareN_law {a b c : UInt8} (h1 : digB a = true) (h2 : digB b = true) (h3 : digB c = true) {xs : List ByteArray} {bs : List Bool} {k : Nat} (h : bareN [a, b, c] xs bs k = true) : k + 1 < xs.length ∧ ∀ x m, code3 (lineN xs k) ≠ some (codeN a b c, x, m) := by
  rcases bareN_out h with ⟨_, g1, g2⟩ | ⟨_, g1, g2⟩
  · exact ⟨g1, code_other h1 h2 h3 g2⟩
  · exact ⟨g1, fun x m e => by rw [code3_none_short (by omega)] at e; cases e⟩

/-- What a round keeps. -/
structure ANR (d : List UInt8) (xs : List ByteArray) (bs : List Bool) (i : Nat) (text want : ByteArray) : Prop where
  tx : lst text ++ segs d xs.length (lineN xs) (bareN d xs bs) i = segs d xs.length (lineN xs) (bareN d xs bs) 0
  wt : lst want = wantL (lineN xs) i
  cl : ∀ k, k < i → 10 ∉ lineN xs k ∧ 13 ∉ lineN xs k
  ts : text.size ≤ 2000 * i
  ws : want.size ≤ 2000 * i
theorem hasB_not {l : List UInt8} {c : UInt8} (h : hasB l (c.toNat : Int) = false) : c ∉ l := by
  intro hm
  unfold hasB at h
  rw [List.any_eq_false] at h
  exact h c hm (by simp)
theorem ANR.next {d : List UInt8} {xs : List ByteArray} {bs : List Bool} {i : Nat} {text want : ByteArray} (h : ANR d xs bs i text want) {x : ByteArray} (hx : xs[i]? = some x) (h10 : hasB (lst x) 10 = false) (h13 : hasB (lst x) 13 = false) (hsz : x.size ≤ 1000) (hd : d.length = 3)
    {tx wx : ByteArray} (ht : lst tx = lst text ++ (segB d xs.length (lineN xs) (bareN d xs bs) i ++ [13, 10])) (hw : lst wx = lst want ++ ((if i = 0 then [] else [10]) ++ lst x)) : ANR d xs bs (i + 1) tx wx := by
  have hi := (List.getElem?_eq_some_iff.1 hx).1
  have hl := lineN_at hx
  refine ⟨?_, ?_, fun k hk => ?_, ?_, ?_⟩
  · rw [← h.tx, segs_step _ _ _ _ hi, ht]; simp
  · rw [hw, h.wt]
    show _ = (if i = 0 then wantL (lineN xs) i else wantL (lineN xs) i ++ [10]) ++ lineN xs i
    rw [hl]
    split
    · simp
    · simp
  · rcases Nat.lt_or_ge k i with h1 | h1
    · exact h.cl k h1
    · obtain rfl : k = i := by omega
      rw [hl]
      exact ⟨hasB_not h10, hasB_not h13⟩
  · have h1 : (segB d xs.length (lineN xs) (bareN d xs bs) i).length ≤ 1004 := by
      have h2 := lst_length x
      unfold segB
      split
      · rw [hl]; omega
      · rw [List.length_append, List.length_cons, hl]; omega
    have h2 := h.ts
    rw [← lst_length, ht, List.length_append, List.length_append, lst_length]
    simp only [List.length_cons, List.length_nil]
    omega
  · have h2 := h.ws
    have h3 := lst_length x
    rw [← lst_length, hw, List.length_append, List.length_append, lst_length]
    have h4 : (if i = 0 then ([] : List UInt8) else [10]).length ≤ 1 := by split <;> simp
    omega

set_option maxRecDepth 100000 in
set_option maxHeartbeats 32000000 in
theorem fnAnswer_any (n : Int) (pl : Option Addr) (xs : List ByteArray) (cl : Nat) (pb : Option Addr) (bs : List Bool) (cb : Nat) (p : Option Addr) (l : List UInt8) (cap : Nat) (ae fe ue se : Addr) (w : World)
    (hL : StrsAt w pl xs) (hB : BoolsAt w pb bs) (hD : DataAt w p l) (hcp : p = none → cap = 0) (hE : EndsS w w.heap.size ae fe ue se) :
    Calls Tryd.prog 4 #[.int .i64 n, .slice pl xs.length cl, .slice pb bs.length cb, .slice p l.length cap] w fun e w' => e = .returned (.bool true) ∧ Turned [] w w' := by
  have FT := Lib.hid (fits2_any pl xs cl w hL)
  by_cases hx : 2147483647 < bs.length
  · have b1 : (2147483647 : Int) < (bs.length : Int) := by omega
    clear hL hB hD hE hx
    go_enter Tryd.func4, Tryd.ntmps4
    go_wp2_with fail
    go_at_call 20
    (with_reducible refine FT.out.mono ?_)
    rintro e w1 ⟨rfl, b, rfl, _⟩
    cases b <;> (go_wp2_with fail; go_ret; exact ⟨rfl, Turned.refl _ _⟩)
  have b1 : ¬ (2147483647 : Int) < (bs.length : Int) := by omega
  have HNB : Hid (bs.length ≤ 2147483647) := by show _ ≤ _; omega
  clear hx
  by_cases hx : 2147483647 < l.length
  · have b2 : (2147483647 : Int) < (l.length : Int) := by omega
    clear hL hB hD hE hx
    go_enter Tryd.func4, Tryd.ntmps4
    go_wp2_with fail
    go_at_call 20
    (with_reducible refine FT.out.mono ?_)
    rintro e w1 ⟨rfl, b, rfl, _⟩
    cases b <;> (go_wp2_with fail; go_ret; exact ⟨rfl, Turned.refl _ _⟩)
  have b2 : ¬ (2147483647 : Int) < (l.length : Int) := by omega
  clear hx
  by_cases hx : n < 100
  · have b3 : n < 100 := hx
    clear hL hB hD hE hx
    go_enter Tryd.func4, Tryd.ntmps4
    go_wp2_with fail
    go_at_call 20
    (with_reducible refine FT.out.mono ?_)
    rintro e w1 ⟨rfl, b, rfl, _⟩
    cases b <;> (go_wp2_with fail; go_ret; exact ⟨rfl, Turned.refl _ _⟩)
  have b3 : ¬ n < 100 := hx
  clear hx
  by_cases hx : 999 < n
  · have b4 : 999 < n := hx
    clear hL hB hD hE hx
    go_enter Tryd.func4, Tryd.ntmps4
    go_wp2_with fail
    go_at_call 20
    (with_reducible refine FT.out.mono ?_)
    rintro e w1 ⟨rfl, b, rfl, _⟩
    cases b <;> (go_wp2_with fail; go_ret; exact ⟨rfl, Turned.refl _ _⟩)
  have b4 : ¬ 999 < n := hx
  clear hx
  by_cases hx : xs.length = 0
  · have b5 : ((xs.length : Int) == 0) = true := by simpa using hx
    clear hL hB hD hE hx
    go_enter Tryd.func4, Tryd.ntmps4
    go_wp2_with fail
    go_at_call 20
    (with_reducible refine FT.out.mono ?_)
    rintro e w1 ⟨rfl, b, rfl, _⟩
    cases b <;> (go_wp2_with fail; go_ret; exact ⟨rfl, Turned.refl _ _⟩)
  have b5 : ((xs.length : Int) == 0) = false := beq_eq_false_iff_ne.2 (by omega)
  have HN1 : Hid (1 ≤ xs.length) := by show _ ≤ _; omega
  clear hx
  by_cases hx : 100 < xs.length
  · have b6 : (100 : Int) < (xs.length : Int) := by omega
    clear hL hB hD hE hx
    go_enter Tryd.func4, Tryd.ntmps4
    go_wp2_with fail
    go_at_call 20
    (with_reducible refine FT.out.mono ?_)
    rintro e w1 ⟨rfl, b, rfl, _⟩
    cases b <;> (go_wp2_with fail; go_ret; exact ⟨rfl, Turned.refl _ _⟩)
  have b6 : ¬ (100 : Int) < (xs.length : Int) := by omega
  have HN100 : Hid (xs.length ≤ 100) := by show _ ≤ _; omega
  clear hx
  by_cases hx : 65536 < l.length
  · have b7 : (65536 : Int) < (l.length : Int) := by omega
    clear hL hB hD hE hx
    go_enter Tryd.func4, Tryd.ntmps4
    go_wp2_with fail
    go_at_call 20
    (with_reducible refine FT.out.mono ?_)
    rintro e w1 ⟨rfl, b, rfl, _⟩
    cases b <;> (go_wp2_with fail; go_ret; exact ⟨rfl, Turned.refl _ _⟩)
  have b7 : ¬ (65536 : Int) < (l.length : Int) := by omega
  have HLN : Hid (l.length ≤ 65536) := by show _ ≤ _; omega
  clear hx
  have q1 : 0 ≤ n / 100 ∧ n / 100 ≤ 9 := by omega
  have q2 : 0 ≤ n / 10 % 10 ∧ n / 10 % 10 ≤ 9 := by omega
  have q3 : 0 ≤ n % 10 ∧ n % 10 ≤ 9 := by omega
  have ea := dig_byte q1.1 q1.2
  have eb := dig_byte q2.1 q2.2
  have ec := dig_byte q3.1 q3.2
  have HCN := Lib.hid (codeN_dig (n := n) (by omega) (by omega))
  have HDG : Hid (digB (digOf (n / 100)) = true ∧ digB (digOf (n / 10 % 10)) = true ∧ digB (digOf (n % 10)) = true) := ⟨digOf_dig q1.1 q1.2, digOf_dig q2.1 q2.2, digOf_dig q3.1 q3.2⟩
  generalize digOf (n / 100) = da at *
  generalize digOf (n / 10 % 10) = db at *
  generalize digOf (n % 10) = dc at *
  have hcd := three_string w da db dc
  obtain ⟨D, hDe, hDl⟩ : ∃ D : ByteArray, D = ⟨[da, db, dc].toArray⟩ ∧ lst D = [da, db, dc] := ⟨_, rfl, rfl⟩
  rw [← hDe] at hcd
  clear q1 q2 q3 hDe
  have HL := Lib.hid hL
  have HB := Lib.hid hB
  have HD := Lib.hid hD
  have HE := Lib.hid hE
  have HCP := Lib.hid hcp
  clear hL hB hD hE hcp
  go_enter Tryd.func4, Tryd.ntmps4
  go_wp2_with fail
  go_at_call 20
  (with_reducible refine FT.out.mono ?_)
  rintro e w1 ⟨rfl, b, rfl, hfit⟩
  cases b with
  | false =>
    go_wp2_with fail
    go_ret
    exact ⟨rfl, Turned.refl _ _⟩
  | true =>
  have HSZ := Lib.hid (hfit rfl).2
  clear hfit
  go_wp2_with fail
  generalize hw1 : w.alloc (.cells #[.int .u8 (da.toNat : Int), .int .u8 (db.toNat : Int), .int .u8 (dc.toNat : Int)] 5) = w1 at hcd
  have HT1 : Hid (Turned [] w w1) := by rw [← hw1]; exact (Turned.refl _ _).alloc _
  have HI : Hid (ANR [da, db, dc] xs bs 0 ⟨#[]⟩ ⟨#[]⟩) := ⟨rfl, rfl, fun k hk => absurd hk (Nat.not_lt_zero k), Nat.le_refl _, Nat.le_refl _⟩
  have dsz : D.size = 3 := by rw [← lst_length, hDl]; rfl
  have HDl := Lib.hid hDl
  clear hDl FT
  go_wp2_with fail
  clear hw1 hcd
  go_loopg [10, 11, 70] xs.length (fun g vt vw vi wr => ∃ (i : Nat) (text want : ByteArray), vi = .int .i64 (i : Int) ∧ vt = .string text ∧ vw = .string want ∧ wr = w1 ∧ i ≤ xs.length ∧ ANR [da, db, dc] xs bs i text want ∧ xs.length - i ≤ g)
  case atStart => exact ⟨0, _, _, rfl, rfl, rfl, rfl, Nat.zero_le _, HI.out, Nat.le_refl _⟩
  case round =>
    clear HI
    obtain ⟨i, text, want, rfl, rfl, rfl, rfl, hi, hr, hg⟩ := hrel
    have HR := Lib.hid hr
    clear hr
    by_cases hlt : i < xs.length
    · obtain ⟨x, hx⟩ : ∃ x, xs[i]? = some x := ⟨_, List.getElem?_eq_getElem hlt⟩
      obtain ⟨gb, off, rfl, _, cc⟩ := (StrsAt.at (CellsAt.keep HL.out HT1.out) hx)
      have HX := Lib.hid hx
      have HLT : Hid (i < xs.length) := hlt
      have hxs : x.size ≤ 2147483647 := HSZ.out x (List.mem_of_getElem? hx)
      have d0 : (i : Int) < (xs.length : Int) := by omega
      have d1 : (0 : Int) ≤ (i : Int) := by omega
      have h100 : xs.length ≤ 100 := HN100.out
      have e1 : IntKind.i64.wrap ((i : Int) + 1) = (i : Int) + 1 := IntWalk.i64_in _ (by omega)
      have LH := Lib.hid (fun c W => lhas_any x c W (by omega))
      have HG : Hid (xs.length - (i + 1) ≤ gk - 1 ∧ 0 < gk ∧ i + 1 ≤ xs.length) := ⟨by omega, by omega, by omega⟩
      have hts := HR.out.ts
      have hws := HR.out.ws
      clear hx hlt hg
      cases hA : hasB (lst x) 10 with
      | true =>
        have HA := Lib.hid hA
        go_wp2_with (go_at_call 21; (with_reducible refine (LH.out _ _).mono ?_); rintro e w' ⟨rfl, rfl⟩)
        go_ret
        exact ⟨rfl, HT1.out⟩
      | false =>
      cases hB : hasB (lst x) 13 with
      | true =>
        go_wp2_with (go_at_call 21; (with_reducible refine (LH.out _ _).mono ?_); rintro e w' ⟨rfl, rfl⟩)
        go_ret
        exact ⟨rfl, HT1.out⟩
      | false =>
      by_cases hs : 1000 < x.size
      · have d2 : (1000 : Int) < (x.size : Int) := by omega
        clear hs
        go_wp2_with (go_at_call 21; (with_reducible refine (LH.out _ _).mono ?_); rintro e w' ⟨rfl, rfl⟩)
        go_ret
        exact ⟨rfl, HT1.out⟩
      have d2 : ¬ (1000 : Int) < (x.size : Int) := by omega
      have hs' : x.size ≤ 1000 := by omega
      have HA := Lib.hid hA
      have HBB := Lib.hid hB
      have HS : Hid (x.size ≤ 1000) := hs'
      have z1 : ¬ 9223372036854775807 < want.size + 1 := by omega
      have z2 : ¬ 9223372036854775807 < want.size + 1 + x.size := by omega
      have z3 : ¬ 9223372036854775807 < want.size + x.size := by omega
      have z4 : ¬ 9223372036854775807 < x.size + 2 := by omega
      have z5 : ¬ 9223372036854775807 < text.size + (x.size + 2) := by omega
      have z6 : ¬ 9223372036854775807 < 4 + x.size := by omega
      have z7 : ¬ 9223372036854775807 < 4 + x.size + 2 := by omega
      have z8 : ¬ 9223372036854775807 < text.size + (4 + x.size + 2) := by omega
      clear hs hs' hxs hts hws h100
      by_cases h0 : i = 0
      · subst h0
        rw [Nat.add_zero] at cc
        have hbn : bareN [da, db, dc] xs bs 0 = false := by unfold bareN; simp
        by_cases hl : 1 = xs.length
        · have t1 : ((0 : Int) == (xs.length : Int) - 1) = true := by rw [← hl]; rfl
          have HN : Hid (ANR [da, db, dc] xs bs (0 + 1) (text ++ (D ++ ⟨#[32]⟩ ++ x ++ ⟨#[13, 10]⟩)) (want ++ x)) := HR.out.next HX.out HA.out HBB.out HS.out rfl (by rw [lst_append, lst_append, lst_append, lst_append, HDl.out]; unfold segB; rw [hbn]; simp [hl, lineN_at HX.out]; try rfl) (by rw [lst_append]; simp)
          clear hl hbn
          go_wp2_with (go_at_call 21; (with_reducible refine (LH.out _ _).mono ?_); rintro e w' ⟨rfl, rfl⟩)
          go_roundg (gk - 1)
          case rel => exact ⟨0 + 1, _, _, by go_num, rfl, rfl, rfl, HG.out.2.2, HN.out, HG.out.1⟩
          case measure => have := HG.out; omega
        · have t1 : ((0 : Int) == (xs.length : Int) - 1) = false := beq_eq_false_iff_ne.2 (by omega)
          have HN : Hid (ANR [da, db, dc] xs bs (0 + 1) (text ++ (D ++ ⟨#[45]⟩ ++ x ++ ⟨#[13, 10]⟩)) (want ++ x)) := HR.out.next HX.out HA.out HBB.out HS.out rfl (by rw [lst_append, lst_append, lst_append, lst_append, HDl.out]; unfold segB; rw [hbn]; simp [hl, lineN_at HX.out]; try rfl) (by rw [lst_append]; simp)
          clear hl hbn
          go_wp2_with (go_at_call 21; (with_reducible refine (LH.out _ _).mono ?_); rintro e w' ⟨rfl, rfl⟩)
          go_roundg (gk - 1)
          case rel => exact ⟨0 + 1, _, _, by go_num, rfl, rfl, rfl, HG.out.2.2, HN.out, HG.out.1⟩
          case measure => have := HG.out; omega
      · have p0 : (0 : Int) < (i : Int) := by omega
        have hi0 : 0 < i := by omega
        by_cases hl : i + 1 = xs.length
        · have t1 : ((i : Int) == (xs.length : Int) - 1) = true := beq_iff_eq.2 (by omega)
          have p1 : ¬ (i : Int) < (xs.length : Int) - 1 := by omega
          have hbn : bareN [da, db, dc] xs bs i = false := by unfold bareN; simp [hl]
          have HN : Hid (ANR [da, db, dc] xs bs (i + 1) (text ++ (D ++ ⟨#[32]⟩ ++ x ++ ⟨#[13, 10]⟩)) (want ++ ⟨#[10]⟩ ++ x)) := HR.out.next HX.out HA.out HBB.out HS.out rfl (by rw [lst_append, lst_append, lst_append, lst_append, HDl.out]; unfold segB; rw [hbn]; simp [hl, lineN_at HX.out]; try rfl) (by rw [lst_append, lst_append, if_neg h0]; simp; try rfl)
          clear hl hbn h0 hi0
          go_wp2_with (go_at_call 21; (with_reducible refine (LH.out _ _).mono ?_); rintro e w' ⟨rfl, rfl⟩)
          go_roundg (gk - 1)
          case rel => exact ⟨i + 1, _, _, by go_num, rfl, rfl, rfl, HG.out.2.2, HN.out, HG.out.1⟩
          case measure => have := HG.out; omega
        · have t1 : ((i : Int) == (xs.length : Int) - 1) = false := beq_eq_false_iff_ne.2 (by have := HLT.out; omega)
          have p1 : (i : Int) < (xs.length : Int) - 1 := by have := HLT.out; omega
          have hl1 : i + 1 < xs.length := by have := HLT.out; omega
          by_cases hb : i < bs.length
          · have p2 : (i : Int) < (bs.length : Int) := by omega
            obtain ⟨y, hy⟩ : ∃ y, bs[i]? = some y := ⟨_, List.getElem?_eq_getElem hb⟩
            obtain ⟨gc, offc, rfl, _, cbb⟩ := (BoolsAt.at (CellsAt.keep HB.out HT1.out) hy)
            cases y with
            | false =>
              have hbn : bareN [da, db, dc] xs bs i = false := by unfold bareN; simp [hy]
              have HN : Hid (ANR [da, db, dc] xs bs (i + 1) (text ++ (D ++ ⟨#[45]⟩ ++ x ++ ⟨#[13, 10]⟩)) (want ++ ⟨#[10]⟩ ++ x)) := HR.out.next HX.out HA.out HBB.out HS.out rfl (by rw [lst_append, lst_append, lst_append, lst_append, HDl.out]; unfold segB; rw [hbn]; simp [hl, lineN_at HX.out]; try rfl) (by rw [lst_append, lst_append, if_neg h0]; simp; try rfl)
              clear hl hbn h0 hi0 hl1 hb hy
              go_wp2_with (go_at_call 21; (with_reducible refine (LH.out _ _).mono ?_); rintro e w' ⟨rfl, rfl⟩)
              go_roundg (gk - 1)
              case rel => exact ⟨i + 1, _, _, by go_num, rfl, rfl, rfl, HG.out.2.2, HN.out, HG.out.1⟩
              case measure => have := HG.out; omega
            | true =>
              by_cases h3 : 3 ≤ x.size
              · have p3 : (3 : Int) ≤ (x.size : Int) := by omega
                have hsl : ∀ W, (Instr.slice 9 (.string x) none (some (.int .i64 3)) none).run Tryd.prog W = .ok (.string (x.extract 0 3)) W := fun W => by
                  rw [run_slice_string_to_if (w := W) 9 x .i64 3 Tryd.underlying9, if_pos ⟨by decide, by omega⟩]; rfl
                have hlx : (lineN xs i).length = x.size := by rw [lineN_at HX.out, lst_length]
                have htk : lst (x.extract 0 3) = (lineN xs i).take 3 := by rw [lineN_at HX.out, lst_extract, List.drop_zero]
                obtain ⟨x3, hx3⟩ : ∃ x3, x3 = x.extract 0 3 := ⟨_, rfl⟩
                rw [← hx3] at hsl htk
                by_cases hd : x3 = D
                · subst hd
                  have hbn : bareN [da, db, dc] xs bs i = false := by
                    unfold bareN
                    rw [← htk, HDl.out]
                    simp [hlx, h3]
                  clear hx3
                  have HN : Hid (ANR [da, db, dc] xs bs (i + 1) (text ++ (x3 ++ ⟨#[45]⟩ ++ x ++ ⟨#[13, 10]⟩)) (want ++ ⟨#[10]⟩ ++ x)) := HR.out.next HX.out HA.out HBB.out HS.out rfl (by rw [lst_append, lst_append, lst_append, lst_append, HDl.out]; unfold segB; rw [hbn]; simp [hl, lineN_at HX.out]; try rfl) (by rw [lst_append, lst_append, if_neg h0]; simp; try rfl)
                  clear hl hbn h0 hi0 hl1 hb hy hlx htk h3
                  go_wp2_with (go_at_call 21; (with_reducible refine (LH.out _ _).mono ?_); rintro e w' ⟨rfl, rfl⟩)
                  go_roundg (gk - 1)
                  case rel => exact ⟨i + 1, _, _, by go_num, rfl, rfl, rfl, HG.out.2.2, HN.out, HG.out.1⟩
                  case measure => have := HG.out; omega
                · have hne : (lineN xs i).take 3 ≠ [da, db, dc] := fun e => hd (lst_inj (by rw [htk, e, HDl.out]))
                  have hbn : bareN [da, db, dc] xs bs i = true := by unfold bareN; simp [hi0, hl1, hy, hne]
                  have tst := str_not (l := x3) (x := lst D) (fun e => hd (lst_inj e))
                  rw [show lst D = D.toList from by rw [ByteArray.toList_eq]; rfl] at tst
                  clear hx3 hd hne
                  have HN : Hid (ANR [da, db, dc] xs bs (i + 1) (text ++ (x ++ ⟨#[13, 10]⟩)) (want ++ ⟨#[10]⟩ ++ x)) := HR.out.next HX.out HA.out HBB.out HS.out rfl (by rw [lst_append, lst_append]; unfold segB; rw [hbn, lineN_at HX.out]; simp; try rfl) (by rw [lst_append, lst_append, if_neg h0]; simp; try rfl)
                  clear hl hbn h0 hi0 hl1 hb hy hlx htk h3
                  go_wp2_with (go_at_call 21; (with_reducible refine (LH.out _ _).mono ?_); rintro e w' ⟨rfl, rfl⟩)
                  go_roundg (gk - 1)
                  case rel => exact ⟨i + 1, _, _, by go_num, rfl, rfl, rfl, HG.out.2.2, HN.out, HG.out.1⟩
                  case measure => have := HG.out; omega
              · have p3 : ¬ (3 : Int) ≤ (x.size : Int) := by omega
                have hlx : (lineN xs i).length = x.size := by rw [lineN_at HX.out, lst_length]
                have hbn : bareN [da, db, dc] xs bs i = true := by unfold bareN; simp [hi0, hl1, hy, hlx, h3]
                have HN : Hid (ANR [da, db, dc] xs bs (i + 1) (text ++ (x ++ ⟨#[13, 10]⟩)) (want ++ ⟨#[10]⟩ ++ x)) := HR.out.next HX.out HA.out HBB.out HS.out rfl (by rw [lst_append, lst_append]; unfold segB; rw [hbn, lineN_at HX.out]; simp; try rfl) (by rw [lst_append, lst_append, if_neg h0]; simp; try rfl)
                clear hl hbn h0 hi0 hl1 hb hy hlx h3
                go_wp2_with (go_at_call 21; (with_reducible refine (LH.out _ _).mono ?_); rintro e w' ⟨rfl, rfl⟩)
                go_roundg (gk - 1)
                case rel => exact ⟨i + 1, _, _, by go_num, rfl, rfl, rfl, HG.out.2.2, HN.out, HG.out.1⟩
                case measure => have := HG.out; omega
          · have p2 : ¬ (i : Int) < (bs.length : Int) := by omega
            have hbn : bareN [da, db, dc] xs bs i = false := by unfold bareN; rw [List.getElem?_eq_none (by omega)]; simp
            have HN : Hid (ANR [da, db, dc] xs bs (i + 1) (text ++ (D ++ ⟨#[45]⟩ ++ x ++ ⟨#[13, 10]⟩)) (want ++ ⟨#[10]⟩ ++ x)) := HR.out.next HX.out HA.out HBB.out HS.out rfl (by rw [lst_append, lst_append, lst_append, lst_append, HDl.out]; unfold segB; rw [hbn]; simp [hl, lineN_at HX.out]; try rfl) (by rw [lst_append, lst_append, if_neg h0]; simp; try rfl)
            clear hl hbn h0 hi0 hl1 hb
            go_wp2_with (go_at_call 21; (with_reducible refine (LH.out _ _).mono ?_); rintro e w' ⟨rfl, rfl⟩)
            go_roundg (gk - 1)
            case rel => exact ⟨i + 1, _, _, by go_num, rfl, rfl, rfl, HG.out.2.2, HN.out, HG.out.1⟩
            case measure => have := HG.out; omega
    · obtain rfl : i = xs.length := by omega
      have d0 : ¬ (xs.length : Int) < (xs.length : Int) := by omega
      have htx := HR.out.tx
      rw [segs_end, List.append_nil] at htx
      have HTX := Lib.hid htx
      have hts : text.size ≤ 200000 := by have := HR.out.ts; have := HN100.out; omega
      have hlen : (lst text).length ≤ 200000 := by rw [lst_length]; exact hts
      have C8 := Lib.hid (conv8 wr text (by omega))
      have hconv := conv_str8 wr text
      have hT2 : Turned [] wr (Lib.bytesWorld wr 5 text) := turned_bytes _ _ _
      have HG1 : Hid (w.heap.size ≤ wr.heap.size) := HT1.out.size
      obtain ⟨g, hg0⟩ : ∃ g, g = wr.heap.size := ⟨_, rfl⟩
      generalize Lib.bytesWorld wr 5 text = w2 at *
      generalize grownCap wr text.size 0 5 = cap2 at *
      rw [← hg0] at hconv
      rw [← hg0] at C8
      have HT2 := Lib.hid hT2
      have HGG := Lib.hid hg0
      have HDT := Lib.hid (HD.out.keep (HT1.out.trans hT2))
      have hsz := lst_length text
      clear hg hi hT2 hg0 htx
      go_wp2_with (at_builtin; refine wpList_append_conv rfl (.tmp 146) (.tmp 147) rfl g cap2 (lst text) l (by rw [lst_length]; rfl) C8.out p cap rfl HDT.out HCP.out (by have := HLN.out; omega) ?_; intro p' cap' w3 hda hT3; refine Hid.out ?_)
      refine Lib.hid ?_
      have hT13 : Turned [] w w3 := (HT1.out.trans HT2.out).fresh hT3 (fun y hy => by rw [List.mem_singleton.1 hy, HGG.out]; exact HG1.out)
      have IC := Lib.hid (implResp_any p' (lst text ++ l) cap' n ae fe ue se w3 hda (by rw [List.length_append]; have := HLN.out; omega) (by omega) (HE.out.up hT13))
      rw [List.length_append, lst_length] at IC
      have HT13 := Lib.hid hT13
      clear hda hT3 hT13
      go_wp2_with fail
      go_at_call 22
      (with_reducible refine IC.out.mono ?_)
      rintro e w4 ⟨n', t', p2, nn, c2, kd, rfl, hT4, hr4, hnn, hor⟩
      have HT4 : Hid (Turned [] w w4) := HT13.out.trans hT4
      obtain ⟨j, g1, g2, g3, g4⟩ := answer_first (behind := l) HDG.out.1 HDG.out.2.1 HDG.out.2.2 HN1.out HR.out.cl (fun k _ h => bareN_law HDG.out.1 HDG.out.2.1 HDG.out.2.2 h) (show bareN [da, db, dc] xs bs 0 = false by unfold bareN; simp)
      rw [← HTX.out] at g1 g2 g3 g4
      rw [HCN.out] at g3 g4
      have hfit : fitsB n n = true := by
        rcases fits_ways n n (by omega) with ⟨h, _⟩ | ⟨_, h, _⟩ | ⟨_, h, _⟩ | ⟨_, _, h⟩
        · omega
        · omega
        · omega
        · rw [h]; exact beq_self_eq_true n
      have hout : kd = 0 ∧ n' = n ∧ lst t' = wantL (lineN xs) xs.length ∧ (lst text ++ l).drop nn = l := by
        rcases hor with ⟨h, _⟩ | ⟨j', h1, h2, h3⟩
        · exact (nl_none g1 h).elim
        · obtain rfl := nl_one g1 g2 h1 h2
          rcases h3 with ⟨h3, _⟩ | ⟨n0, b', m', h3, _, h4⟩
          · have := h3 _ _ _ g3
            omega
          · rw [g3] at h3
            injection h3 with h3
            injection h3 with h3 h5
            injection h5 with h5 h6
            subst h3 h5 h6
            rcases h4 _ g4 with h | ⟨h, _⟩ | ⟨h, h7, h8⟩
            · cases h
            · cases h
            · injection h with h9 h10
              rcases h8 with ⟨_, h8⟩ | ⟨h8, _⟩
              · exact ⟨h8, h7, h9.symm, h10.symm⟩
              · rw [hfit] at h8; cases h8
      obtain ⟨rfl, rfl, ht, hdr⟩ := hout
      have hw : t' = want := lst_inj (by rw [ht, ← HR.out.wt])
      subst hw
      rw [hdr]
      rw [hdr] at hr4
      have cv1 := string_of_rowP hr4 c2
      have cv2 := string_of_rowP (HD.out.keep HT4.out).rowP cap
      clear hor g1 g2 g3 g4 hfit ht hdr hr4 hT4 IC hnn
      go_wp2_with fail
      go_ret
      exact ⟨ret_bool (by simp), HT4.out⟩

end Go.Proofs.YthobojpbdeepoaaDoor