/-
  The contracts of spec.Code, spec.Fits and parseCodeLine.
-/
import Derived.Test.YtdhdcgliefjonaaDoorPAtoi
namespace Go.Proofs.YtdhdcgliefjonaaDoor
open Go.RowKit

theorem results_tmp4 {fn : Func} {t u v x : Tmp} (h : fn.results = #[.tmp t, .tmp u, .tmp v, .tmp x]) (tmps : Array Value) (P : Program) (w : World) :
    (results fn tmps).run P w = .ok (.tuple #[tmps.getD t undef, tmps.getD u undef, tmps.getD v undef, tmps.getD x undef]) w := by
  simp [results, h]
theorem numL_three (a b c : UInt8) : numL [a, b, c] = codeN a b c := by
  unfold numL codeN
  simp only [List.foldl_cons, List.foldl_nil]
  omega
/-- Three digits and a sign. -/
theorem code3_of {l : List UInt8} {x : UInt8} (h3 : l[3]? = some x) (hd : allDig (l.take 3) = true) (hx : signB x = true) : code3 l = some (numL (l.take 3), x == 45, l.drop 4) := by
  match l, h3 with
  | a :: b :: c :: y :: m, h3 =>
    simp at h3
    subst h3
    have hd' : allDig [a, b, c] = true := hd
    unfold allDig at hd'
    simp only [List.all_cons, List.all_nil, Bool.and_true, Bool.and_eq_true] at hd'
    obtain ⟨h1, h2, h4⟩ := hd'
    rw [code3_mk h1 h2 h4 hx]
    rw [show (a :: b :: c :: y :: m).take 3 = [a, b, c] from rfl, numL_three]
    rfl
theorem code3_not {l : List UInt8} (hd : allDig (l.take 3) = false) : code3 l = none := by
  cases hc : code3 l with
  | none => rfl
  | some r =>
    obtain ⟨n, x, m⟩ := r
    obtain ⟨a, b, c, s, rfl, h1, h2, h3, _⟩ := code3_some hc
    rw [show (a :: b :: c :: s :: m).take 3 = [a, b, c] from rfl] at hd
    unfold allDig at hd
    simp [h1, h2, h3] at hd
theorem code3_n {l m : List UInt8} {n : Int} {x : Bool} (h : code3 l = some (n, x, m)) : 0 ≤ n ∧ n ≤ 999 := by
  obtain ⟨a, b, c, s, rfl, h1, h2, h3, _, rfl, _⟩ := code3_some h
  exact codeN_range h1 h2 h3

theorem u8_ne {u : UInt8} {c : UInt8} (h : u ≠ c) : ((u.toNat : Int) != (c.toNat : Int)) = true := by rw [bne, u8_not h]; rfl
/-- What spec.Code answers. -/
def CodePost (l : List UInt8) (w : World) (e : Ending) (w' : World) : Prop :=
  (∃ q, w' = w.drewN q) ∧
  ((∃ n x m, code3 l = some (n, x, m) ∧ 100 ≤ n ∧ e = .returned (.tuple #[.int .i64 n, .bool x, .string ⟨m.toArray⟩, .int .i64 0])) ∨
   (∃ n x m, code3 l = some (n, x, m) ∧ n < 100 ∧ e = .returned (.tuple #[.int .i64 0, .bool false, .string ⟨#[]⟩, .int .i64 2])) ∨
   (code3 l = none ∧ e = .returned (.tuple #[.int .i64 0, .bool false, .string ⟨#[]⟩, .int .i64 1])))

set_option maxRecDepth 100000 in
set_option maxHeartbeats 4000000 in
theorem specCode_any (s : ByteArray) (w : World) (hs : s.size ≤ 4294967296) : Calls Tryd.prog 4 #[.string s] w (CodePost (lst s) w) := by
  have hNone : ∀ w', (∃ q, w' = w.drewN q) → code3 (lst s) = none → CodePost (lst s) w (.returned (.tuple #[.int .i64 0, .bool false, .string ⟨#[]⟩, .int .i64 1])) w' := fun w' h h1 => ⟨h, .inr (.inr ⟨h1, rfl⟩)⟩
  by_cases h4 : s.size < 4
  · have HF := Lib.hid (hNone w ⟨0, rfl⟩ (code3_none_short (by rw [lst_length]; exact h4)))
    have d0 : (s.size : Int) < 4 := by omega
    clear hNone
    go_enter Tryd.func4, Tryd.ntmps4
    go_wp2_with fail
    (try simp only [Exit.inBlock, Exit.then]); refine bodyPost_ret (results_tmp4 rfl _ _ _) rfl ?_
    exact HF.out
  have d0 : ¬ (s.size : Int) < 4 := by omega
  have h3 : 3 < s.size := by omega
  have hget := lst_get s 3 h3
  by_cases hsg : signB s[3] = true
  · have HSG := Lib.hid hsg
    have HGT := Lib.hid hget
    have HNone := Lib.hid hNone
    have HSZ : Hid (s.size = s.size ∧ 4 ≤ s.size) := ⟨rfl, by omega⟩
    rcases signB_iff.1 hsg with h | h
    · have t32 : ((s[3].toNat : Int) != 32) = false := by rw [h]; rfl
      have t45 : ((s[3].toNat : Int) == 45) = false := by rw [h]; rfl
      have HSX : Hid ((s[3] == 45) = false) := by show _ = _; rw [h]; rfl
      clear hsg hget hNone h
      go_enter Tryd.func4, Tryd.ntmps4
      go_wp2_with fail
      go_loopg [2, 20] 3 (fun g n i wr => ∃ (k : Nat) (m : Int), k ≤ 3 ∧ i = .int .i64 (k : Int) ∧ n = .int .i64 m ∧ wr = w ∧ IAR (lst s) k m ∧ 3 - k ≤ g)
      case atStart => exact ⟨0, 0, Nat.zero_le _, rfl, rfl, rfl, ⟨rfl, rfl, Int.le_refl _, by decide⟩, Nat.le_refl _⟩
      case round =>
        obtain ⟨k, m, hk, rfl, rfl, rfl, hr, hg⟩ := hrel
        obtain ⟨m0, m1⟩ := hr.small hk
        have HR := Lib.hid hr
        clear hr
        by_cases hlt : k < 3
        · have d0' : (k : Int) < 3 := by omega
          have hlt' : k < s.size := by omega
          have d1 : (k : Int) < (s.size : Int) := by omega
          have hget := lst_get s k hlt'
          have hc := u8_le s[k]
          have HG := Lib.hid hget
          have HM : Hid (3 - (k + 1) ≤ gk - 1 ∧ 0 < gk) := ⟨by omega, by omega⟩
          clear hget hg
          cases hd : digB s[k] with
          | true =>
            obtain ⟨g1, g2⟩ := digB_iff.1 hd
            have e1 : ((s[k].toNat : Int) - 48) % 256 = (s[k].toNat : Int) - 48 := by omega
            have e2 : ¬ (s[k].toNat : Int) < 48 := by omega
            have e3 : ¬ (57 : Int) < (s[k].toNat : Int) := by omega
            have HN : Hid (IAR (lst s) (k + 1) (10 * m + ((s[k].toNat : Int) - 48))) := by
              have h1 := HR.out.next HG.out hd
              rwa [Int.mul_comm] at h1
            clear hd
            go_wp2_with fail
            go_roundg (gk - 1)
            case rel => exact ⟨k + 1, _, hlt, by go_num, by go_num, rfl, HN.out, HM.out.1⟩
            case measure => have := HM.out; omega
          | false =>
            have HF := Lib.hid (HNone.out wr ⟨0, rfl⟩ (code3_none_at hlt HG.out hd))
            have hnd : ¬ (48 ≤ s[k].toNat ∧ s[k].toNat ≤ 57) := fun h => by rw [digB_iff.2 h] at hd; cases hd
            by_cases e2 : (s[k].toNat : Int) < 48
            · clear hd hnd
              go_wp2_with fail
              (try simp only [Exit.inBlock, Exit.then]); refine bodyPost_ret (results_tmp4 rfl _ _ _) rfl ?_
              exact HF.out
            · have e3 : (57 : Int) < (s[k].toNat : Int) := by omega
              clear hd hnd
              go_wp2_with fail
              (try simp only [Exit.inBlock, Exit.then]); refine bodyPost_ret (results_tmp4 rfl _ _ _) rfl ?_
              exact HF.out
        · have d0' : ¬ (k : Int) < 3 := by omega
          obtain rfl : k = 3 := by omega
          have HC := Lib.hid (code3_of HGT.out HR.out.dig HSG.out)
          rw [HSX.out, ← HR.out.num] at HC
          clear hg
          by_cases h100 : m < 100
          · have HF : Hid (CodePost (lst s) wr (.returned (.tuple #[.int .i64 0, .bool false, .string ⟨#[]⟩, .int .i64 2])) wr) := ⟨⟨0, rfl⟩, .inr (.inl ⟨_, _, _, HC.out, h100, rfl⟩)⟩
            go_wp2_with fail
            (try simp only [Exit.inBlock, Exit.then]); refine bodyPost_ret (results_tmp4 rfl _ _ _) rfl ?_
            exact HF.out
          · have HF := Lib.hid (fun q => (⟨⟨q, rfl⟩, .inl ⟨_, _, _, HC.out, by omega, rfl⟩⟩ : CodePost (lst s) wr (.returned (.tuple #[.int .i64 m, .bool false, .string ⟨((lst s).drop 4).toArray⟩, .int .i64 0])) (wr.drewN q)))
            rw [← str_drop] at HF
            go_wp2_with fail
            go_quiet (fail)
            go_wp2_with fail
            (try simp only [Exit.inBlock, Exit.then]); refine bodyPost_ret (results_tmp4 rfl _ _ _) rfl ?_
            exact HF.out _
    · have t32 : ((s[3].toNat : Int) != 32) = true := by rw [h]; rfl
      have t45' : ((s[3].toNat : Int) != 45) = false := by rw [h]; rfl
      have t45 : ((s[3].toNat : Int) == 45) = true := by rw [h]; rfl
      have HSX : Hid ((s[3] == 45) = true) := by show _ = _; rw [h]; rfl
      clear hsg hget hNone h
      go_enter Tryd.func4, Tryd.ntmps4
      go_wp2_with fail
      go_loopg [2, 20] 3 (fun g n i wr => ∃ (k : Nat) (m : Int), k ≤ 3 ∧ i = .int .i64 (k : Int) ∧ n = .int .i64 m ∧ wr = w ∧ IAR (lst s) k m ∧ 3 - k ≤ g)
      case atStart => exact ⟨0, 0, Nat.zero_le _, rfl, rfl, rfl, ⟨rfl, rfl, Int.le_refl _, by decide⟩, Nat.le_refl _⟩
      case round =>
        obtain ⟨k, m, hk, rfl, rfl, rfl, hr, hg⟩ := hrel
        obtain ⟨m0, m1⟩ := hr.small hk
        have HR := Lib.hid hr
        clear hr
        by_cases hlt : k < 3
        · have d0' : (k : Int) < 3 := by omega
          have hlt' : k < s.size := by omega
          have d1 : (k : Int) < (s.size : Int) := by omega
          have hget := lst_get s k hlt'
          have hc := u8_le s[k]
          have HG := Lib.hid hget
          have HM : Hid (3 - (k + 1) ≤ gk - 1 ∧ 0 < gk) := ⟨by omega, by omega⟩
          clear hget hg
          cases hd : digB s[k] with
          | true =>
            obtain ⟨g1, g2⟩ := digB_iff.1 hd
            have e1 : ((s[k].toNat : Int) - 48) % 256 = (s[k].toNat : Int) - 48 := by omega
            have e2 : ¬ (s[k].toNat : Int) < 48 := by omega
            have e3 : ¬ (57 : Int) < (s[k].toNat : Int) := by omega
            have HN : Hid (IAR (lst s) (k + 1) (10 * m + ((s[k].toNat : Int) - 48))) := by
              have h1 := HR.out.next HG.out hd
              rwa [Int.mul_comm] at h1
            clear hd
            go_wp2_with fail
            go_roundg (gk - 1)
            case rel => exact ⟨k + 1, _, hlt, by go_num, by go_num, rfl, HN.out, HM.out.1⟩
            case measure => have := HM.out; omega
          | false =>
            have HF := Lib.hid (HNone.out wr ⟨0, rfl⟩ (code3_none_at hlt HG.out hd))
            have hnd : ¬ (48 ≤ s[k].toNat ∧ s[k].toNat ≤ 57) := fun h => by rw [digB_iff.2 h] at hd; cases hd
            by_cases e2 : (s[k].toNat : Int) < 48
            · clear hd hnd
              go_wp2_with fail
              (try simp only [Exit.inBlock, Exit.then]); refine bodyPost_ret (results_tmp4 rfl _ _ _) rfl ?_
              exact HF.out
            · have e3 : (57 : Int) < (s[k].toNat : Int) := by omega
              clear hd hnd
              go_wp2_with fail
              (try simp only [Exit.inBlock, Exit.then]); refine bodyPost_ret (results_tmp4 rfl _ _ _) rfl ?_
              exact HF.out
        · have d0' : ¬ (k : Int) < 3 := by omega
          obtain rfl : k = 3 := by omega
          have HC := Lib.hid (code3_of HGT.out HR.out.dig HSG.out)
          rw [HSX.out, ← HR.out.num] at HC
          clear hg
          by_cases h100 : m < 100
          · have HF : Hid (CodePost (lst s) wr (.returned (.tuple #[.int .i64 0, .bool false, .string ⟨#[]⟩, .int .i64 2])) wr) := ⟨⟨0, rfl⟩, .inr (.inl ⟨_, _, _, HC.out, h100, rfl⟩)⟩
            go_wp2_with fail
            (try simp only [Exit.inBlock, Exit.then]); refine bodyPost_ret (results_tmp4 rfl _ _ _) rfl ?_
            exact HF.out
          · have HF := Lib.hid (fun q => (⟨⟨q, rfl⟩, .inl ⟨_, _, _, HC.out, by omega, rfl⟩⟩ : CodePost (lst s) wr (.returned (.tuple #[.int .i64 m, .bool true, .string ⟨((lst s).drop 4).toArray⟩, .int .i64 0])) (wr.drewN q)))
            rw [← str_drop] at HF
            go_wp2_with fail
            go_quiet (fail)
            go_wp2_with fail
            (try simp only [Exit.inBlock, Exit.then]); refine bodyPost_ret (results_tmp4 rfl _ _ _) rfl ?_
            exact HF.out _
  · have HF := Lib.hid (hNone w ⟨0, rfl⟩ (code3_none_sign hget (by simpa using hsg)))
    have t32 : ((s[3].toNat : Int) != 32) = true := u8_ne (c := 32) (fun h => hsg (signB_iff.2 (.inl h)))
    have t45 : ((s[3].toNat : Int) != 45) = true := u8_ne (c := 45) (fun h => hsg (signB_iff.2 (.inr h)))
    clear hNone hsg hget
    go_enter Tryd.func4, Tryd.ntmps4
    go_wp2_with fail
    (try simp only [Exit.inBlock, Exit.then]); refine bodyPost_ret (results_tmp4 rfl _ _ _) rfl ?_
    exact HF.out

set_option maxRecDepth 100000 in
set_option maxHeartbeats 2000000 in
theorem fits_any2 (n x : Int) (w : World) (hn0 : 0 ≤ n) (hn : n ≤ 999) : Calls Tryd.prog 6 #[.int .i64 n, .int .i64 x] w fun e w' => e = .returned (.bool (fitsB n x)) ∧ w = w' := by
  by_cases h0 : x ≤ 0
  · have HF : Hid (fitsB n x = true) := by show _ = _; unfold fitsB; rw [if_pos h0]
    go_enter Tryd.func6, Tryd.ntmps6
    go_wp2_with fail
    go_ret
    exact ⟨ret_bool HF.out.symm, rfl⟩
  by_cases h1 : x < 10
  · have HF : Hid (fitsB n x = (n / 100 == x)) := by show _ = _; unfold fitsB; rw [if_neg h0, if_pos h1]; rfl
    go_enter Tryd.func6, Tryd.ntmps6
    go_wp2_with fail
    go_ret
    exact ⟨ret_bool HF.out.symm, rfl⟩
  by_cases h2 : x < 100
  · have HF : Hid (fitsB n x = (n / 10 == x)) := by show _ = _; unfold fitsB; rw [if_neg h0, if_neg h1, if_pos h2]; rfl
    go_enter Tryd.func6, Tryd.ntmps6
    go_wp2_with fail
    go_ret
    exact ⟨ret_bool HF.out.symm, rfl⟩
  · have HF : Hid (fitsB n x = (n == x)) := by show _ = _; unfold fitsB; rw [if_neg h0, if_neg h1, if_neg h2]; rfl
    go_enter Tryd.func6, Tryd.ntmps6
    go_wp2_with fail
    go_ret
    exact ⟨ret_bool HF.out.symm, rfl⟩

/-- What parseCodeLine answers. -/
def PCPost (l : List UInt8) (x : Int) (w : World) (e : Ending) (w' : World) : Prop :=
  Turned [] w w' ∧
  ((∃ n b m, code3 l = some (n, b, m) ∧ 100 ≤ n ∧ fitsB n x = true ∧ e = .returned (.tuple #[.int .i64 n, .bool b, .string ⟨m.toArray⟩, .nilIface])) ∨
   (∃ n b m N, code3 l = some (n, b, m) ∧ 100 ≤ n ∧ fitsB n x = false ∧ e = .returned (.tuple #[.int .i64 n, .bool b, .string ⟨m.toArray⟩, .iface 32 (.pointer (some ⟨N, 0, none⟩))])) ∨
   ((∀ n b m, code3 l = some (n, b, m) → n < 100) ∧ ∃ n b t, e = .returned (.tuple #[.int .i64 n, .bool b, .string ⟨#[]⟩, .iface 33 (.string t)])))

theorem fits_ways (n x : Int) (hx : x < 1000) : (x ≤ 0 ∧ fitsB n x = true) ∨ (1 ≤ x ∧ x < 10 ∧ fitsB n x = (n / 100 == x)) ∨ (10 ≤ x ∧ x < 100 ∧ fitsB n x = (n / 10 == x)) ∨ (100 ≤ x ∧ x < 1000 ∧ fitsB n x = (n == x)) := by
  unfold fitsB
  by_cases h0 : x ≤ 0
  · exact .inl ⟨h0, if_pos h0⟩
  · by_cases h1 : x < 10
    · exact .inr (.inl ⟨by omega, h1, by rw [if_neg h0, if_pos h1]; rfl⟩)
    · by_cases h2 : x < 100
      · exact .inr (.inr (.inl ⟨by omega, h2, by rw [if_neg h0, if_neg h1, if_pos h2]; rfl⟩))
      · exact .inr (.inr (.inr ⟨by omega, hx, by rw [if_neg h0, if_neg h1, if_neg h2]; rfl⟩))

set_option maxRecDepth 100000 in
set_option maxHeartbeats 8000000 in
theorem parseCode_any (s : ByteArray) (x : Int) (K : Nat) (se : Addr) (w : World) (hs : s.size ≤ 4294967296) (hx : x < 1000) (hE : Sent w K 2 se) (hK : K ≤ w.heap.size) :
    Calls Tryd.prog 9 #[.string s, .int .i64 x] w (PCPost (lst s) x w) := by
  by_cases h4 : s.size < 4
  · have HF : Hid (∀ t, PCPost (lst s) x w (.returned (.tuple #[.int .i64 0, .bool false, .string ⟨#[]⟩, .iface 33 (.string t)])) w) := fun t => ⟨Turned.refl _ _, .inr (.inr ⟨(fun n b m h => by rw [code3_none_short (by rw [lst_length]; exact h4)] at h; cases h), _, _, _, rfl⟩)⟩
    have d0 : (s.size : Int) < 4 := by omega
    clear hE
    go_enter Tryd.func9, Tryd.ntmps9
    go_wp2_with fail
    (try simp only [Exit.inBlock, Exit.then]); refine bodyPost_ret (results_tmp4 rfl _ _ _) rfl ?_
    exact HF.out _
  have d0 : ¬ (s.size : Int) < 4 := by omega
  have h3 : 3 < s.size := by omega
  have hsl : ∀ W, (Instr.slice 9 (.string s) (some (.int .i64 0)) (some (.int .i64 3)) none).run Tryd.prog W = .ok (.string (s.extract 0 3)) W := fun W => run_slice_string (w := W) 9 s .i64 .i64 0 3 Tryd.underlying9 (by decide) (by decide) (by omega)
  have hget := lst_get s 3 h3
  by_cases hsg : signB s[3] = true
  · have HSG := Lib.hid hsg
    have HGT := Lib.hid hget
    have hx3 : (s.extract 0 3).size = 3 := by rw [ByteArray.size_extract]; omega
    have AT := Lib.hid (atoi3_any (s.extract 0 3) K se w hx3 hE hK)
    rw [show lst (s.extract 0 3) = (lst s).take 3 from by rw [lst_extract, List.drop_zero]] at AT
    clear hx3 hE
    rcases signB_iff.1 hsg with h | h
    · have t32 : ((s[3].toNat : Int) != 32) = false := by rw [h]; rfl
      have t45 : ((s[3].toNat : Int) == 45) = false := by rw [h]; rfl
      have HSX : Hid ((s[3] == 45) = false) := by show _ = _; rw [h]; rfl
      clear hsg hget h
      go_enter Tryd.func9, Tryd.ntmps9
      go_wp2_with fail
      go_at_call 10
      (with_reducible refine AT.out.mono ?_)
      rintro e w1 ⟨n, er, rfl, hT1, hor⟩
      rcases hor with ⟨h1, h2, rfl⟩ | ⟨h1, hor⟩
      · obtain ⟨m, hm⟩ : ∃ m, m = (lst s).drop 4 := ⟨_, rfl⟩
        have HC := Lib.hid (code3_of HGT.out h1 HSG.out)
        rw [HSX.out, ← h2, ← hm] at HC
        have hmS : (⟨m.toArray⟩ : ByteArray) = s.extract 4 s.size := by rw [hm, str_drop]
        obtain ⟨n0, n1⟩ := code3_n HC.out
        by_cases h100 : n < 100
        · have HB : Hid (∀ t, PCPost (lst s) x w (.returned (.tuple #[.int .i64 n, .bool false, .string ⟨#[]⟩, .iface 33 (.string t)])) w1) := fun t => ⟨hT1, .inr (.inr ⟨(fun n' b' m' h => by
            rw [HC.out] at h
            injection h with h
            injection h with h
            omega), _, _, _, rfl⟩)⟩
          clear hT1 h1 h2 hm hmS
          go_wp2_with fail
          (try simp only [Exit.inBlock, Exit.then]); refine bodyPost_ret (results_tmp4 rfl _ _ _) rfl ?_
          exact HB.out _
        · have HY : Hid (fitsB n x = true → PCPost (lst s) x w (.returned (.tuple #[.int .i64 n, .bool false, .string (s.extract 4 s.size), .nilIface])) w1) := fun hf => ⟨hT1, .inl ⟨n, false, m, HC.out, by omega, hf, by rw [hmS]⟩⟩
          have HN : Hid (fitsB n x = false → ∀ N w2, Turned [] w1 w2 → PCPost (lst s) x w (.returned (.tuple #[.int .i64 n, .bool false, .string (s.extract 4 s.size), .iface 32 (.pointer (some ⟨N, 0, none⟩))])) w2) := fun hf N w2 h => ⟨hT1.trans h, .inr (.inl ⟨n, false, m, N, HC.out, by omega, hf, by rw [hmS]⟩)⟩
          have HA : Hid (∀ o, Turned [] w1 (w1.alloc o)) := fun o => (Turned.refl _ _).alloc o
          clear hT1 h1 h2 hm hmS
          rcases fits_ways n x hx with ⟨g0, hf⟩ | ⟨g0, g1, hf⟩ | ⟨g0, g1, hf⟩ | ⟨g0, g1, hf⟩
          · have HF := Lib.hid (HY.out hf)
            clear hf
            go_wp2_with fail
            (try simp only [Exit.inBlock, Exit.then]); refine bodyPost_ret (results_tmp4 rfl _ _ _) rfl ?_
            exact HF.out
          · cases hq : (n / 100 == x) with
            | true =>
              rw [hq] at hf
              have hq' : (n / 100 != x) = false := by rw [bne, hq]; rfl
              have HF := Lib.hid (HY.out hf)
              clear hf
              go_wp2_with fail
              (try simp only [Exit.inBlock, Exit.then]); refine bodyPost_ret (results_tmp4 rfl _ _ _) rfl ?_
              exact HF.out
            | false =>
              rw [hq] at hf
              have hq' : (n / 100 != x) = true := by rw [bne, hq]; rfl
              have HF := Lib.hid (HN.out hf)
              clear hf
              go_wp2_with fail
              (try simp only [Exit.inBlock, Exit.then]); refine bodyPost_ret (results_tmp4 rfl _ _ _) rfl ?_
              exact HF.out _ _ (HA.out _)
          · cases hq : (n / 10 == x) with
            | true =>
              rw [hq] at hf
              have hq' : (n / 10 != x) = false := by rw [bne, hq]; rfl
              have HF := Lib.hid (HY.out hf)
              clear hf
              go_wp2_with fail
              (try simp only [Exit.inBlock, Exit.then]); refine bodyPost_ret (results_tmp4 rfl _ _ _) rfl ?_
              exact HF.out
            | false =>
              rw [hq] at hf
              have hq' : (n / 10 != x) = true := by rw [bne, hq]; rfl
              have HF := Lib.hid (HN.out hf)
              clear hf
              go_wp2_with fail
              (try simp only [Exit.inBlock, Exit.then]); refine bodyPost_ret (results_tmp4 rfl _ _ _) rfl ?_
              exact HF.out _ _ (HA.out _)
          · cases hq : (n == x) with
            | true =>
              rw [hq] at hf
              have hq' : (n != x) = false := by rw [bne, hq]; rfl
              have HF := Lib.hid (HY.out hf)
              clear hf
              go_wp2_with fail
              (try simp only [Exit.inBlock, Exit.then]); refine bodyPost_ret (results_tmp4 rfl _ _ _) rfl ?_
              exact HF.out
            | false =>
              rw [hq] at hf
              have hq' : (n != x) = true := by rw [bne, hq]; rfl
              have HF := Lib.hid (HN.out hf)
              clear hf
              go_wp2_with fail
              (try simp only [Exit.inBlock, Exit.then]); refine bodyPost_ret (results_tmp4 rfl _ _ _) rfl ?_
              exact HF.out _ _ (HA.out _)
      · have HB : Hid (∀ n t, PCPost (lst s) x w (.returned (.tuple #[.int .i64 n, .bool false, .string ⟨#[]⟩, .iface 33 (.string t)])) w1) := fun n t => ⟨hT1, .inr (.inr ⟨(fun n b m h => by rw [code3_not h1] at h; cases h), _, _, _, rfl⟩)⟩
        clear hT1 h1
        rcases hor with ⟨rfl, h2⟩ | ⟨rfl, N, rfl⟩
        · go_wp2_with fail
          (try simp only [Exit.inBlock, Exit.then]); refine bodyPost_ret (results_tmp4 rfl _ _ _) rfl ?_
          exact HB.out _ _
        · go_wp2_with fail
          (try simp only [Exit.inBlock, Exit.then]); refine bodyPost_ret (results_tmp4 rfl _ _ _) rfl ?_
          exact HB.out _ _
    · have t32 : ((s[3].toNat : Int) != 32) = true := by rw [h]; rfl
      have t45' : ((s[3].toNat : Int) != 45) = false := by rw [h]; rfl
      have t45 : ((s[3].toNat : Int) == 45) = true := by rw [h]; rfl
      have HSX : Hid ((s[3] == 45) = true) := by show _ = _; rw [h]; rfl
      clear hsg hget h
      go_enter Tryd.func9, Tryd.ntmps9
      go_wp2_with fail
      go_at_call 10
      (with_reducible refine AT.out.mono ?_)
      rintro e w1 ⟨n, er, rfl, hT1, hor⟩
      rcases hor with ⟨h1, h2, rfl⟩ | ⟨h1, hor⟩
      · obtain ⟨m, hm⟩ : ∃ m, m = (lst s).drop 4 := ⟨_, rfl⟩
        have HC := Lib.hid (code3_of HGT.out h1 HSG.out)
        rw [HSX.out, ← h2, ← hm] at HC
        have hmS : (⟨m.toArray⟩ : ByteArray) = s.extract 4 s.size := by rw [hm, str_drop]
        obtain ⟨n0, n1⟩ := code3_n HC.out
        by_cases h100 : n < 100
        · have HB : Hid (∀ t, PCPost (lst s) x w (.returned (.tuple #[.int .i64 n, .bool true, .string ⟨#[]⟩, .iface 33 (.string t)])) w1) := fun t => ⟨hT1, .inr (.inr ⟨(fun n' b' m' h => by
            rw [HC.out] at h
            injection h with h
            injection h with h
            omega), _, _, _, rfl⟩)⟩
          clear hT1 h1 h2 hm hmS
          go_wp2_with fail
          (try simp only [Exit.inBlock, Exit.then]); refine bodyPost_ret (results_tmp4 rfl _ _ _) rfl ?_
          exact HB.out _
        · have HY : Hid (fitsB n x = true → PCPost (lst s) x w (.returned (.tuple #[.int .i64 n, .bool true, .string (s.extract 4 s.size), .nilIface])) w1) := fun hf => ⟨hT1, .inl ⟨n, true, m, HC.out, by omega, hf, by rw [hmS]⟩⟩
          have HN : Hid (fitsB n x = false → ∀ N w2, Turned [] w1 w2 → PCPost (lst s) x w (.returned (.tuple #[.int .i64 n, .bool true, .string (s.extract 4 s.size), .iface 32 (.pointer (some ⟨N, 0, none⟩))])) w2) := fun hf N w2 h => ⟨hT1.trans h, .inr (.inl ⟨n, true, m, N, HC.out, by omega, hf, by rw [hmS]⟩)⟩
          have HA : Hid (∀ o, Turned [] w1 (w1.alloc o)) := fun o => (Turned.refl _ _).alloc o
          clear hT1 h1 h2 hm hmS
          rcases fits_ways n x hx with ⟨g0, hf⟩ | ⟨g0, g1, hf⟩ | ⟨g0, g1, hf⟩ | ⟨g0, g1, hf⟩
          · have HF := Lib.hid (HY.out hf)
            clear hf
            go_wp2_with fail
            (try simp only [Exit.inBlock, Exit.then]); refine bodyPost_ret (results_tmp4 rfl _ _ _) rfl ?_
            exact HF.out
          · cases hq : (n / 100 == x) with
            | true =>
              rw [hq] at hf
              have hq' : (n / 100 != x) = false := by rw [bne, hq]; rfl
              have HF := Lib.hid (HY.out hf)
              clear hf
              go_wp2_with fail
              (try simp only [Exit.inBlock, Exit.then]); refine bodyPost_ret (results_tmp4 rfl _ _ _) rfl ?_
              exact HF.out
            | false =>
              rw [hq] at hf
              have hq' : (n / 100 != x) = true := by rw [bne, hq]; rfl
              have HF := Lib.hid (HN.out hf)
              clear hf
              go_wp2_with fail
              (try simp only [Exit.inBlock, Exit.then]); refine bodyPost_ret (results_tmp4 rfl _ _ _) rfl ?_
              exact HF.out _ _ (HA.out _)
          · cases hq : (n / 10 == x) with
            | true =>
              rw [hq] at hf
              have hq' : (n / 10 != x) = false := by rw [bne, hq]; rfl
              have HF := Lib.hid (HY.out hf)
              clear hf
              go_wp2_with fail
              (try simp only [Exit.inBlock, Exit.then]); refine bodyPost_ret (results_tmp4 rfl _ _ _) rfl ?_
              exact HF.out
            | false =>
              rw [hq] at hf
              have hq' : (n / 10 != x) = true := by rw [bne, hq]; rfl
              have HF := Lib.hid (HN.out hf)
              clear hf
              go_wp2_with fail
              (try simp only [Exit.inBlock, Exit.then]); refine bodyPost_ret (results_tmp4 rfl _ _ _) rfl ?_
              exact HF.out _ _ (HA.out _)
          · cases hq : (n == x) with
            | true =>
              rw [hq] at hf
              have hq' : (n != x) = false := by rw [bne, hq]; rfl
              have HF := Lib.hid (HY.out hf)
              clear hf
              go_wp2_with fail
              (try simp only [Exit.inBlock, Exit.then]); refine bodyPost_ret (results_tmp4 rfl _ _ _) rfl ?_
              exact HF.out
            | false =>
              rw [hq] at hf
              have hq' : (n != x) = true := by rw [bne, hq]; rfl
              have HF := Lib.hid (HN.out hf)
              clear hf
              go_wp2_with fail
              (try simp only [Exit.inBlock, Exit.then]); refine bodyPost_ret (results_tmp4 rfl _ _ _) rfl ?_
              exact HF.out _ _ (HA.out _)
      · have HB : Hid (∀ n t, PCPost (lst s) x w (.returned (.tuple #[.int .i64 n, .bool true, .string ⟨#[]⟩, .iface 33 (.string t)])) w1) := fun n t => ⟨hT1, .inr (.inr ⟨(fun n b m h => by rw [code3_not h1] at h; cases h), _, _, _, rfl⟩)⟩
        clear hT1 h1
        rcases hor with ⟨rfl, h2⟩ | ⟨rfl, N, rfl⟩
        · go_wp2_with fail
          (try simp only [Exit.inBlock, Exit.then]); refine bodyPost_ret (results_tmp4 rfl _ _ _) rfl ?_
          exact HB.out _ _
        · go_wp2_with fail
          (try simp only [Exit.inBlock, Exit.then]); refine bodyPost_ret (results_tmp4 rfl _ _ _) rfl ?_
          exact HB.out _ _
  · have HF : Hid (∀ t, PCPost (lst s) x w (.returned (.tuple #[.int .i64 0, .bool false, .string ⟨#[]⟩, .iface 33 (.string t)])) w) := fun t => ⟨Turned.refl _ _, .inr (.inr ⟨(fun n b m h => by rw [code3_none_sign hget (by simpa using hsg)] at h; cases h), _, _, _, rfl⟩)⟩
    have t32 : ((s[3].toNat : Int) != 32) = true := u8_ne (c := 32) (fun h => hsg (signB_iff.2 (.inl h)))
    have t45 : ((s[3].toNat : Int) != 45) = true := u8_ne (c := 45) (fun h => hsg (signB_iff.2 (.inr h)))
    clear hsg hget hE
    go_enter Tryd.func9, Tryd.ntmps9
    go_wp2_with fail
    (try simp only [Exit.inBlock, Exit.then]); refine bodyPost_ret (results_tmp4 rfl _ _ _) rfl ?_
    exact HF.out _
end Go.Proofs.YtdhdcgliefjonaaDoor
