/-
  Spaces and tabs: spec.isBlank, spec.Trim, textproto's trim, isASCIILetter.
-/
import Derived.Test.YthobojpbdeepoaaDoorLineSlice
import Derived.Test.YthobojpbdeepoaaDoorTrimLaw
namespace Go.Proofs.YthobojpbdeepoaaDoor
open Go.RowKit

/-- A space, a tab. -/
def blI (c : Int) : Bool := c == 32 || c == 9
def blB (b : UInt8) : Bool := blI b.toNat
def trimB (l : List UInt8) : List UInt8 := trimR blB (trimL blB l)

theorem isBlank_any (c : Int) (w : World) :
    Calls Tryd.prog 65 #[.int .u8 c] w fun e w' => e = .returned (.bool (blI c)) ∧ w = w' := by
  by_cases h1 : c = 32
  · subst h1
    go_enter Tryd.func65, Tryd.ntmps65
    go_wp2
    go_ret
    exact ⟨rfl, rfl⟩
  by_cases h2 : c = 9
  · subst h2
    go_enter Tryd.func65, Tryd.ntmps65
    go_wp2
    go_ret
    exact ⟨rfl, rfl⟩
  have g1 : (c == 32) = false := by simpa using h1
  have g2 : (c == 9) = false := by simpa using h2
  have H : Hid (blI c = false) := by unfold Hid blI; simp [g1, g2]
  go_enter Tryd.func65, Tryd.ntmps65
  go_wp2
  go_ret
  exact ⟨ret_bool H.out.symm, rfl⟩

theorem specTrim_any (s : ByteArray) (w : World) (hs : s.size ≤ 9223372036854775807) :
    Calls Tryd.prog 43 #[.string s] w fun e w' => e = .returned (.string ⟨(trimR blB (trimL blB (lst s))).toArray⟩) ∧ w = w' := by
  go_enter Tryd.func43, Tryd.ntmps43
  go_wp2_with fail
  go_loop [0] (fun u => ∃ t : ByteArray, u = .string t ∧ t.size ≤ s.size ∧ trimL blB (lst t) = trimL blB (lst s)) (fun u => strSize u)
  case atStart => exact ⟨s, rfl, Nat.le_refl _, rfl⟩
  case round =>
    obtain ⟨t, rfl, ht, h0⟩ := hrel
    have H0 := Lib.hid h0
    clear h0
    by_cases hgo : ∃ hp : 0 < t.size, blB t[0] = true
    · obtain ⟨hp, hb⟩ := hgo
      have hs' : trimL blB (lst (t.extract 1 t.size)) = trimL blB (lst s) := by rw [← H0.out, lst_tail t hp, trimL_step hb]
      have HS := Lib.hid hs'
      clear hs'
      unfold blB at hb
      go_wp2_with (go_at_call 65; refine (isBlank_any _ _).mono ?_; rintro e w' ⟨rfl, rfl⟩)
      go_round
      case rel => exact ⟨_, rfl, by rw [size_tail]; omega, HS.out⟩
      case measure => simp only [strSize, size_tail]; omega
    · have hE : lst t = trimL blB (lst s) := by
        rw [← H0.out]
        by_cases hp : 0 < t.size
        · have hb : blB t[0] = false := by
            cases h : blB t[0] with
            | false => rfl
            | true => exact absurd ⟨hp, h⟩ hgo
          rw [lst_tail t hp, trimL_stop hb]
        · rw [lst_nil (by omega)]; rfl
      have HE := Lib.hid hE
      have hc : ∀ hp : 0 < t.size, blI t[0].toNat = false := fun hp => by
        cases h : blI t[0].toNat with
        | false => rfl
        | true => exact absurd ⟨hp, h⟩ hgo
      clear hE hgo
      by_cases hp : 0 < t.size
      all_goals try have hb := hc hp
      all_goals clear hc
      all_goals
        go_wp2_with (go_at_call 65; refine (isBlank_any _ _).mono ?_; rintro e w' ⟨rfl, rfl⟩)
        try clear hb
        go_loop [0] (fun u => ∃ t : ByteArray, u = .string t ∧ t.size ≤ s.size ∧ trimR blB (lst t) = trimR blB (trimL blB (lst s))) (fun u => strSize u)
        case atStart => exact ⟨t, rfl, ht, by rw [HE.out]⟩
        case round =>
          clear HE H0
          obtain ⟨t, rfl, ht, h0⟩ := hrel
          have H0 := Lib.hid h0
          clear h0
          by_cases hgo : ∃ hp : t.size - 1 < t.size, blB t[t.size - 1] = true
          · obtain ⟨hp, hb⟩ := hgo
            have hs' : trimR blB (lst (t.extract 0 (t.size - 1))) = trimR blB (trimL blB (lst s)) := by rw [← H0.out, lst_init t hp, trimR_step hb]
            have HS := Lib.hid hs'
            clear hs'
            unfold blB at hb
            go_wp2_with (go_at_call 65; refine (isBlank_any _ _).mono ?_; rintro e w' ⟨rfl, rfl⟩)
            go_round
            case rel => exact ⟨_, rfl, by rw [size_init]; omega, HS.out⟩
            case measure => simp only [strSize, size_init]; omega
          · have hE : trimR blB (trimL blB (lst s)) = lst t := by
              rw [← H0.out]
              by_cases hp : t.size - 1 < t.size
              · have hb : blB t[t.size - 1] = false := by
                  cases h : blB t[t.size - 1] with
                  | false => rfl
                  | true => exact absurd ⟨hp, h⟩ hgo
                rw [lst_init t hp, trimR_stop hb]
              · rw [lst_nil (by omega)]; rfl
            have HE := Lib.hid hE
            have hc : ∀ hp : t.size - 1 < t.size, blI t[t.size - 1].toNat = false := fun hp => by
              cases h : blI t[t.size - 1].toNat with
              | false => rfl
              | true => exact absurd ⟨hp, h⟩ hgo
            clear hE hgo
            by_cases hp : t.size - 1 < t.size
            all_goals try have hb := hc hp
            all_goals clear hc
            all_goals
              go_wp2_with (go_at_call 65; refine (isBlank_any _ _).mono ?_; rintro e w' ⟨rfl, rfl⟩)
              go_ret
              exact ⟨ret_str (by rw [HE.out, mk_lst]), rfl⟩

/-- What isASCIILetter answers: never yes at a blank. -/
def LetPost (c : UInt8) (e : Ending) : Prop := ∃ b, e = .returned (.bool b) ∧ (b = true → blB c = false)
theorem isLetter_any (c : UInt8) (w : World) :
    Calls Tryd.prog 99 #[.int .u8 (c.toNat : Int)] w fun e w' => LetPost c e ∧ w = w' := by
  by_cases h1 : blB c = true
  · have h2 : c = 32 ∨ c = 9 := by
      unfold blB blI at h1
      simp only [Bool.or_eq_true, beq_iff_eq] at h1
      rcases h1 with h | h
      · exact .inl (UInt8.toNat_inj.1 (by show c.toNat = 32; omega))
      · exact .inr (UInt8.toNat_inj.1 (by show c.toNat = 9; omega))
    rcases h2 with rfl | rfl
    · go_enter Tryd.func99, Tryd.ntmps99
      go_wp2
      go_ret
      exact ⟨⟨false, rfl, fun h => by cases h⟩, rfl⟩
    · go_enter Tryd.func99, Tryd.ntmps99
      go_wp2
      go_ret
      exact ⟨⟨false, rfl, fun h => by cases h⟩, rfl⟩
  · have h2 : blB c = false := by simpa using h1
    have H := Lib.hid h2
    clear h1 h2
    go_enter Tryd.func99, Tryd.ntmps99
    go_wp2
    all_goals
      go_ret
      exact ⟨⟨_, rfl, fun _ => H.out⟩, rfl⟩

/-- Where to cut. -/
theorem trimB_cut {l : List UInt8} {i j : Nat} (hj : i + j ≤ l.length) (h1 : (l.take i).all blB = true) (h2 : i = l.length ∨ ∃ c, l[i]? = some c ∧ blB c = false) (h3 : ((l.drop i).drop j).all blB = true)
    (h4 : j = 0 ∨ ∃ c, l[i + (j - 1)]? = some c ∧ blB c = false) : trimB l = (l.drop i).take j := by
  have e1 : trimL blB l = l.drop i := by
    have a1 : l = l.take i ++ l.drop i := (List.take_append_drop _ _).symm
    have a2 : ∀ (a b : List UInt8), a.all blB = true → trimL blB (a ++ b) = trimL blB b := by
      intro a b ha
      induction a with
      | nil => rfl
      | cons x a ih =>
        simp only [List.all_cons, Bool.and_eq_true] at ha
        rw [List.cons_append, trimL_step ha.1, ih ha.2]
    have a3 := a2 (l.take i) (l.drop i) h1
    rw [← a1] at a3
    rw [a3]
    rcases h2 with h2 | ⟨c, h2, h5⟩
    · rw [h2, List.drop_length]; rfl
    · obtain ⟨g1, g2⟩ := List.getElem?_eq_some_iff.1 h2
      rw [List.drop_eq_getElem_cons g1, g2, trimL_stop h5]
  have e2 : ∀ (a b : List UInt8), b.all blB = true → trimR blB (a ++ b) = trimR blB a := by
    intro a b hb
    induction b generalizing a with
    | nil => rw [List.append_nil]
    | cons x b ih =>
      simp only [List.all_cons, Bool.and_eq_true] at hb
      have := ih (a ++ [x]) hb.2
      rw [List.append_assoc, List.singleton_append] at this
      rw [this, trimR_step hb.1]
  have e3 : l.drop i = (l.drop i).take j ++ (l.drop i).drop j := (List.take_append_drop _ _).symm
  unfold trimB
  rw [e1, e3, e2 _ _ h3, ← e3]
  rcases h4 with h4 | ⟨c, h4, h5⟩
  · rw [h4, List.take_zero]; rfl
  · rcases Nat.eq_zero_or_pos j with h0 | h0
    · rw [h0, List.take_zero]; rfl
    · have e4 : (l.drop i).take j = (l.drop i).take (j - 1) ++ [c] := by
        obtain ⟨m, rfl⟩ : ∃ m, j = m + 1 := ⟨j - 1, by omega⟩
        rw [Nat.add_sub_cancel] at h4 ⊢
        rw [List.take_add_one, List.getElem?_drop, h4]; rfl
      rw [e4, trimR_stop h5]

theorem trimB_length (l : List UInt8) : (trimB l).length ≤ l.length := by
  unfold trimB trimR trimL
  rw [List.length_reverse]
  have h1 := (List.dropWhile_sublist (l := (List.dropWhile blB l).reverse) blB).length_le
  have h2 := (List.dropWhile_sublist (l := l) blB).length_le
  rw [List.length_reverse] at h1
  omega

/-- What trim leaves. -/
def TrimPost (p : Option Addr) (l : List UInt8) (c0 : Nat) (e : Ending) : Prop :=
  ∃ i q cap', e = .returned (.slice q (trimB l).length cap') ∧ trimB l = (l.drop i).take (trimB l).length ∧ i + (trimB l).length ≤ l.length ∧ (trimB l).length ≤ cap' ∧ cap' ≤ c0 ∧ (p.isSome → q.isSome) ∧
    (∀ b off, p = some ⟨b, off, none⟩ → trimB l ≠ [] → q = some ⟨b, off + i, none⟩)

theorem trim_post {b off : Nat} {l : List UInt8} {i j cap' c0 : Nat} {q : Option Addr} (hj : i + j ≤ l.length) (h1 : (l.take i).all blB = true) (h2 : i = l.length ∨ ∃ c, l[i]? = some c ∧ blB c = false) (h3 : ((l.drop i).drop j).all blB = true)
    (h4 : j = 0 ∨ ∃ c, l[i + (j - 1)]? = some c ∧ blB c = false) (h5 : j ≤ cap') (hc0 : cap' ≤ c0) (h6 : q.isSome) (h7 : 0 < j → q = some ⟨b, off + i, none⟩) : TrimPost (some ⟨b, off, none⟩) l c0 (.returned (.slice q j cap')) := by
  have e := trimB_cut hj h1 h2 h3 h4
  have hl : (trimB l).length = j := by rw [e, List.length_take, List.length_drop]; omega
  refine ⟨i, q, cap', by rw [hl], by rw [hl]; exact e, by rw [hl]; exact hj, by rw [hl]; exact h5, hc0, fun _ => h6, ?_⟩
  intro b' off' hb hne
  injection hb with hb
  injection hb with hb1 hb2
  subst hb1 hb2
  exact h7 (by rw [← hl]; exact List.length_pos_iff.2 hne)

theorem all_snoc {l : List UInt8} {k : Nat} {c : UInt8} (h : (l.take k).all blB = true) (hc : l[k]? = some c) (hb : blB c = true) : (l.take (k + 1)).all blB = true := by
  rw [List.take_add_one, hc, List.all_append, h]
  simp [hb]
theorem all_back {l : List UInt8} {i j : Nat} {c : UInt8} (h : ((l.drop i).drop (j + 1)).all blB = true) (hc : l[i + j]? = some c) (hb : blB c = true) : ((l.drop i).drop j).all blB = true := by
  rw [List.drop_drop] at h ⊢
  obtain ⟨g1, g2⟩ := List.getElem?_eq_some_iff.1 hc
  rw [List.drop_eq_getElem_cons g1, g2, List.all_cons, hb, Bool.true_and, ← Nat.add_assoc] at *
  exact h

theorem slice_from (b off len cap k : Nat) (hk : k ≤ len) (_hc : len ≤ cap) : ∃ q : Option Addr, (∀ W, (Instr.slice 22 (.slice (some ⟨b, off, none⟩) len cap) (some (.int .i64 (k : Int))) none none).run Tryd.prog W = .ok (.slice q (len - k) (cap - k)) W) ∧ q.isSome ∧ (k < len → q = some ⟨b, off + k, none⟩) := by
  refine ⟨if cap = k then some ⟨b, off, none⟩ else some ⟨b, off + k, none⟩, fun W => ?_, ?_, ?_⟩
  · rw [run_slice_l (P := Tryd.prog) (t := 22) (ht := by kernel_rfl) (kl := .i64) (l := (k : Int)) (h0 := by omega) (h1 := by omega)]
    simp [go_sem, Addr.add]
    by_cases h0 : k = 0
    · subst h0; simp
    · simp [h0]
  · split <;> rfl
  · intro h; rw [if_neg (by omega)]
theorem slice_to (p : Option Addr) (len cap j : Nat) (hj : j ≤ cap) (W : World) : (Instr.slice 22 (.slice p len cap) none (some (.int .i64 (j : Int))) none).run Tryd.prog W = .ok (.slice p j cap) W := by
  rw [run_slice_h (P := Tryd.prog) (t := 22) (ht := by kernel_rfl) (kh := .i64) (h := (j : Int)) (h0 := by omega) (h2 := by omega)]
  cases p <;> simp [go_sem, Addr.add]

set_option maxRecDepth 100000 in
set_option maxHeartbeats 2000000 in
theorem trim_some (b off : Nat) (l : List UInt8) (cap : Nat) (w : World) (hr : Row8 w b off l) (hc : l.length ≤ cap) (hl : l.length ≤ 4294967296) :
    Calls Tryd.prog 100 #[.slice (some ⟨b, off, none⟩) l.length cap] w fun e w' => TrimPost (some ⟨b, off, none⟩) l cap e ∧ w = w' := by
  go_enter Tryd.func100, Tryd.ntmps100
  go_wp2_with fail
  go_loopg [3] l.length (fun g v wr => ∃ k : Nat, k ≤ l.length ∧ v = .int .i64 (k : Int) ∧ wr = w ∧ (l.take k).all blB = true ∧ l.length - k ≤ g)
  case atStart => exact ⟨0, Nat.zero_le _, rfl, rfl, rfl, Nat.le_refl _⟩
  case round =>
    obtain ⟨k, hk, rfl, rfl, hall, hg⟩ := hrel
    have HA := Lib.hid hall
    clear hall
    by_cases hlt : k < l.length
    · obtain ⟨c, hget⟩ : ∃ c, l[k]? = some c := ⟨_, List.getElem?_eq_getElem hlt⟩
      have hcell := hr _ _ hget
      have HG := Lib.hid hget
      clear hget
      have b0 : (k : Int) < (l.length : Int) := by omega
      cases hb : blB c
      · have hnb : ((c.toNat : Int) == 32) = false ∧ ((c.toNat : Int) == 9) = false := by
          unfold blB blI at hb
          simpa using hb
        obtain ⟨t1, t2⟩ := hnb
        have HB := Lib.hid hb
        clear hb
        obtain ⟨q, S1, _, hq⟩ := slice_from b off l.length cap k (by omega) hc
        obtain rfl := hq hlt
        clear hq
        have HC : Hid (l.length - k ≤ cap - k) := by show _ ≤ _; omega
        have w1 : IntKind.i64.wrap (((l.length - k : Nat) : Int) - 1) = ((l.length - k : Nat) : Int) - 1 := IntWalk.i64_in _ (by omega)
        have W0 := Lib.hid w1
        go_wp2_with fail
        clear w1
        go_loopg [4] l.length (fun g v w2 => ∃ j : Nat, 1 ≤ j ∧ j ≤ l.length - k ∧ v = .int .i64 ((j : Int) - 1) ∧ w2 = wr ∧ ((l.drop k).drop j).all blB = true ∧ j ≤ g)
        case atStart => exact ⟨l.length - k, by omega, Nat.le_refl _, rfl, rfl, by rw [List.drop_of_length_le (by rw [List.length_drop]; exact Nat.le_refl _)]; rfl, by omega⟩
        case round =>
          obtain ⟨j, hj1, hj, rfl, rfl, hall, hg2⟩ := hrel
          have HA2 := Lib.hid hall
          clear hall
          obtain ⟨c2, hget2⟩ : ∃ c, l[k + (j - 1)]? = some c := ⟨_, List.getElem?_eq_getElem (by omega)⟩
          have hcell2 := hr _ _ hget2
          rw [← Nat.add_assoc] at hcell2
          have HG2 := Lib.hid hget2
          clear hget2
          have b1 : (0 : Int) ≤ (j : Int) - 1 := by omega
          have b2 : (j : Int) - 1 < ((l.length - k : Nat) : Int) := by omega
          have b3 : ((j : Int) - 1).toNat = j - 1 := by omega
          cases hb2 : blB c2
          · have hnb : ((c2.toNat : Int) == 32) = false ∧ ((c2.toNat : Int) == 9) = false := by
              unfold blB blI at hb2
              simpa using hb2
            obtain ⟨t3, t4⟩ := hnb
            have HF : Hid (TrimPost (some ⟨b, off, none⟩) l cap (.returned (.slice (some ⟨b, off + k, none⟩) j (cap - k)))) :=
              trim_post (i := k) (by omega) HA.out (.inr ⟨c, HG.out, HB.out⟩) HA2.out (.inr ⟨c2, HG2.out, hb2⟩) (by omega) (by omega) rfl (fun _ => rfl)
            clear hb2 HA HA2 HG HG2 HB
            have S2 := fun W => slice_to (some ⟨b, off + k, none⟩) (l.length - k) (cap - k) j (by omega) W
            have b4 : IntKind.i64.wrap ((j : Int) - 1 + 1) = (j : Int) := by rw [IntWalk.i64_in _ (by omega)]; omega
            go_wp2_with fail
            go_ret
            exact ⟨HF.out, rfl⟩
          · have hnb : ((c2.toNat : Int) == 32) = true ∨ (((c2.toNat : Int) == 32) = false ∧ ((c2.toNat : Int) == 9) = true) := by
              unfold blB blI at hb2
              simp only [Bool.or_eq_true, beq_iff_eq] at hb2
              simp only [beq_iff_eq, beq_eq_false_iff_ne]
              omega
            have h2 : 2 ≤ j := by
              rcases Nat.lt_or_ge j 2 with h | h
              · obtain rfl : j = 1 := by omega
                have e1 := HG2.out
                rw [show k + (1 - 1) = k from rfl, HG.out] at e1
                obtain rfl := Option.some.inj e1
                rw [HB.out] at hb2; cases hb2
              · exact h
            have HN : Hid (((l.drop k).drop (j - 1)).all blB = true) := by
              obtain ⟨m, rfl⟩ : ∃ m, j = m + 1 := ⟨j - 1, by omega⟩
              exact all_back HA2.out HG2.out hb2
            have b4 : IntKind.i64.wrap ((j : Int) - 1 - 1) = (((j - 1 : Nat) : Int) - 1) := by rw [IntWalk.i64_in _ (by omega)]; omega
            clear hb2 HA HA2 HG HG2 HB
            rcases hnb with t3 | ⟨t3, t4⟩
            all_goals
              go_wp2_with fail
              go_roundg (gk - 1)
              case rel => exact ⟨j - 1, by omega, by omega, rfl, rfl, HN.out, by omega⟩
              case measure => omega
      · have hnb : ((c.toNat : Int) == 32) = true ∨ (((c.toNat : Int) == 32) = false ∧ ((c.toNat : Int) == 9) = true) := by
          unfold blB blI at hb
          simp only [Bool.or_eq_true, beq_iff_eq] at hb
          simp only [beq_iff_eq, beq_eq_false_iff_ne]
          omega
        have HN := Lib.hid (all_snoc HA.out HG.out hb)
        have b4 : IntKind.i64.wrap ((k : Int) + 1) = ((k + 1 : Nat) : Int) := by rw [IntWalk.i64_in _ (by omega)]; omega
        clear hb HA HG
        rcases hnb with t1 | ⟨t1, t2⟩
        all_goals
          go_wp2_with fail
          go_roundg (gk - 1)
          case rel => exact ⟨k + 1, hlt, rfl, rfl, HN.out, by omega⟩
          case measure => omega
    · obtain rfl : k = l.length := by omega
      obtain ⟨q, S1, hq, _⟩ := slice_from b off l.length cap l.length (Nat.le_refl _) hc
      have HF : Hid (TrimPost (some ⟨b, off, none⟩) l cap (.returned (.slice q 0 (cap - l.length)))) :=
        trim_post (i := l.length) (by omega) HA.out (.inl rfl) (by simp) (.inl rfl) (Nat.zero_le _) (Nat.sub_le _ _) hq (fun h => absurd h (by omega))
      clear HA
      rw [Nat.sub_self] at S1
      have S2 := fun W => slice_to q 0 (cap - l.length) 0 (Nat.zero_le _) W
      go_wp2_with fail
      refine wp_loop_rounds 1 ?_
      rw [rounds_succ]
      go_wp2_with fail
      go_ret
      exact ⟨HF.out, rfl⟩

end Go.Proofs.YthobojpbdeepoaaDoor
