/-
  The contract of impl.Header.
-/
import Derived.Test.YtdhdcgliefjonaaHeader
namespace Go.Proofs.Ytdhdcgliefjonaa
open Go.RowKit Go.ChangeMaps Go.MapKept Go.WideShapes

/-- Behind one call, its answer in u7. -/
def HC (w wc : World) (ops : List OpD) (m : Nat) (rv : Value) (o : OpD) (u7 : Value) : Prop :=
  ∃ w2 D' L' xs', HI w w2 (m + 1) (hall ops (m + 1)) ops m rv D' L' xs' ∧ Turned [] w2 wc ∧ SV wc (w.heap.size + 1) u7 (hres (hall ops m) o) ∧ ∀ g, u7.ownBlock = some g → w2.heap.size ≤ g

set_option maxRecDepth 100000 in
set_option maxHeartbeats 4000000 in
theorem implHeader_any (pa : Option Addr) (ops : List OpD) (cap : Nat) (w : World) (h : OpsAt w pa ops) (hn : ops.length ≤ 1000) (hsz : ∀ o, o ∈ ops → o.key.size ≤ 2147483647 ∧ o.val.size ≤ 2147483647) :
    Calls Try.prog 19 #[.slice pa ops.length cap] w (HdrPost w ops) := by
  obtain ⟨i0, hi, hz0, hz1, hz2⟩ := info_parts strs_row
  obtain ⟨j0, hj, hy0, hy1, hy2⟩ := info_parts str_row
  have HP := Lib.hid h
  have HN := Lib.hid hn
  have HS := Lib.hid hsz
  clear h hsz
  have hmm := @run_makeMap Try.prog
  go_enter Try.func19, Try.ntmps19
  go_wp2_with fail
  have H0 : Hid (HI w (w.alloc (.map #[] 0)) 0 (hall ops 0) ops 0 (.slice none 0 0) (.map []) [] []) := by
    exact ⟨(Turned.refl [] w).alloc _, HM.made w, World.ownsRow_nil _ _ _ _, (fun i x hx => by simp at hx), (fun g hg => by cases hg), fun x hx => by cases hx⟩
  go_loopg [2, 11] ops.length (fun g u2 u11 wr => ∃ m : Nat, u11 = .int .i64 (m : Int) ∧ m ≤ ops.length ∧ (∃ D L xs, HI w wr m (hall ops m) ops m u2 D L xs) ∧ ops.length - m ≤ g)
  case atStart => exact ⟨0, rfl, Nat.zero_le _, ⟨_, _, _, H0.out⟩, Nat.le_refl _⟩
  case round =>
    clear H0
    obtain ⟨m, rfl, hm, ⟨D, L, xs, hI⟩, hg⟩ := hrel
    obtain ⟨pr, cr, hfe, hq1, hq2, hq3, hq4, hq5⟩ := ownsN_slice hI.own
    subst hfe
    have HG : Hid (ops.length - (m + 1) ≤ gk - 1 ∧ (m < ops.length → 0 < gk)) := ⟨by omega, fun _ => by omega⟩
    by_cases hlt : m < ops.length
    · obtain ⟨o, ho⟩ : ∃ o, ops[m]? = some o := ⟨_, List.getElem?_eq_getElem hlt⟩
      obtain ⟨k1, k2⟩ := HS.out o (List.mem_of_getElem? ho)
      have HO := Lib.hid ho
      obtain ⟨wh, key, val⟩ := o
      obtain ⟨bo, off, rfl, _, c1, c2, c3⟩ := HP.out.keep hI.tu m _ ho
      dsimp only at c1 c2 c3 k1 k2
      have d0 : (m : Int) < (ops.length : Int) := by omega
      have d1 : (0 : Int) ≤ (m : Int) := by omega
      have HI1 := Lib.hid hI
      clear hI ho hg hq1 hq2 hq3 hq4 hq5
      go_upto_block 2 with fail
      go_cut [7] (fun u7 wc => HC w wc ops m (.slice pr m cr) ⟨wh, key, val⟩ u7)
      case first =>
        have hI1 := HI1.out.keep ((Turned.refl [] wr).alloc (.cells #[.int .i64 wh, .string key, .string val] 37))
        have hbs : w.heap.size + 1 ≤ (wr.alloc (.cells #[.int .i64 wh, .string key, .string val] 37)).heap.size := by
          have := HI1.out.hm.own.lt
          simp
          omega
        by_cases h0 : wh = 0
        · subst h0
          have AA := add_any key val (wr.alloc (.cells #[.int .i64 0, .string key, .string val] 37)) (w.heap.size + 1) w.heap.size m D _ L k1 hI1.hm (by omega) hbs
          have HX := Lib.hid (fun e w2 hp => HI1.out.op (F' := addF (fun x => valsOf x (hall ops m)) (canon (lst key)) (lst val)) (e := e) (w2 := w2) (all' := hall ops (m + 1)) ((Turned.refl [] wr).alloc (.cells #[.int .i64 0, .string key, .string val] 37)) hp (by rw [hall_succ HO.out]; exact add_vals _ _ _))
          clear hI1
          go_wp2_with fail
          go_at_call 31
          refine AA.mono ?_
          intro e w2 hp
          obtain ⟨rfl, D', L', hI2⟩ := HX.out e w2 hp
          have HF : Hid (HC w w2 ops m (.slice pr m cr) ⟨0, key, val⟩ (.slice none 0 0)) := ⟨w2, D', L', xs, hI2, Turned.refl _ _, SV.nil _ _, fun g hg => by cases hg⟩
          clear hp hI2 AA HX
          go_wp2_with fail
          go_meet
          exact HF.out
        have b0 : (wh == 0) = false := by simpa using h0
        by_cases h1 : wh = 1
        · subst h1
          have AA := set_any key val (wr.alloc (.cells #[.int .i64 1, .string key, .string val] 37)) (w.heap.size + 1) w.heap.size m D _ L k1 hI1.hm (by omega) hbs
          have HX := Lib.hid (fun e w2 hp => HI1.out.op (F' := setF (fun x => valsOf x (hall ops m)) (canon (lst key)) (lst val)) (e := e) (w2 := w2) (all' := hall ops (m + 1)) ((Turned.refl [] wr).alloc (.cells #[.int .i64 1, .string key, .string val] 37)) hp (by rw [hall_succ HO.out]; exact set_vals _ _ _))
          clear hI1
          go_wp2_with fail
          go_at_call 32
          refine AA.mono ?_
          intro e w2 hp
          obtain ⟨rfl, D', L', hI2⟩ := HX.out e w2 hp
          have HF : Hid (HC w w2 ops m (.slice pr m cr) ⟨1, key, val⟩ (.slice none 0 0)) := ⟨w2, D', L', xs, hI2, Turned.refl _ _, SV.nil _ _, fun g hg => by cases hg⟩
          clear hp hI2 AA HX
          go_wp2_with fail
          go_meet
          exact HF.out
        have b1 : (wh == 1) = false := by simpa using h1
        by_cases h2 : wh = 2
        · subst h2
          have AA := del_any key (wr.alloc (.cells #[.int .i64 2, .string key, .string val] 37)) (w.heap.size + 1) w.heap.size m D _ L k1 hI1.hm
          have HX := Lib.hid (fun e w2 hp => HI1.out.op (F' := delF (fun x => valsOf x (hall ops m)) (canon (lst key))) (e := e) (w2 := w2) (all' := hall ops (m + 1)) ((Turned.refl [] wr).alloc (.cells #[.int .i64 2, .string key, .string val] 37)) hp (by rw [hall_succ HO.out]; exact del_vals _ _))
          clear hI1
          go_wp2_with fail
          go_at_call 33
          refine AA.mono ?_
          intro e w2 hp
          obtain ⟨rfl, D', L', hI2⟩ := HX.out e w2 hp
          have HF : Hid (HC w w2 ops m (.slice pr m cr) ⟨2, key, val⟩ (.slice none 0 0)) := ⟨w2, D', L', xs, hI2, Turned.refl _ _, SV.nil _ _, fun g hg => by cases hg⟩
          clear hp hI2 AA HX
          go_wp2_with fail
          go_meet
          exact HF.out
        have b2 : (wh == 2) = false := by simpa using h2
        have hall1 : hall ops (m + 1) = hall ops m := by
          rw [hall_succ HO.out]
          unfold hstep
          rw [if_neg h0, if_neg h1, if_neg h2]
        have hI2 := hI1.up
        rw [← hall1] at hI2
        by_cases h3 : wh = 3
        · subst h3
          have AA := get_any key (wr.alloc (.cells #[.int .i64 3, .string key, .string val] 37)) (w.heap.size + 1) w.heap.size m D _ L k1 hI1.hm
          obtain ⟨x, hx⟩ : ∃ x, x = (valsOf (canon (lst key)) (hall ops m)).headD [] := ⟨_, rfl⟩
          rw [← hx] at AA
          have hr : hres (hall ops m) ⟨3, key, val⟩ = [x] := by rw [hx]; rfl
          unfold tv at AA
          have HX : Hid (∀ w2, Turned [] (wr.alloc (.cells #[.int .i64 3, .string key, .string val] 37)) w2 → HC w (w2.alloc (.cells #[.string ⟨x.toArray⟩] 9)) ops m (.slice pr m cr) ⟨3, key, val⟩ (.slice (some ⟨w2.heap.size, 0, none⟩) 1 1)) := fun w2 ht =>
            ⟨w2, D, L, xs, hI2.keep ht, (Turned.refl [] w2).alloc _, by rw [hr]; exact one_sv w2 x _ (Nat.le_trans hbs ht.size), fun g hg => by cases hg; exact Nat.le_refl _⟩
          clear hI1 hI2 hall1 hx hr
          go_wp2_with fail
          go_at_call 34
          refine AA.mono ?_
          rintro e w2 ⟨rfl, ht⟩
          have HF := Lib.hid (HX.out w2 ht)
          clear AA HX ht
          go_wp2_with fail
          go_meet
          exact HF.out
        have b3 : (wh == 3) = false := by simpa using h3
        by_cases h4 : wh = 4
        · subst h4
          have AA := values_any key (wr.alloc (.cells #[.int .i64 4, .string key, .string val] 37)) (w.heap.size + 1) w.heap.size m D _ L k1 hI1.hm
          obtain ⟨x, hx⟩ : ∃ x, x = look D (canon (lst key)) := ⟨_, rfl⟩
          rw [← hx] at AA
          have HSV : Hid (∀ w2, Turned [] (wr.alloc (.cells #[.int .i64 4, .string key, .string val] 37)) w2 → SV w2 (w.heap.size + 1) x (valsOf (canon (lst key)) (hall ops m)) ∧ w.heap.size + 1 ≤ w2.heap.size) := fun w2 ht => by
            rw [hx]; exact ⟨(hI1.hm.sv (canon (lst key))).turned ht (by simp), Nat.le_trans hbs ht.size⟩
          have HVL : Hid ((valsOf (canon (lst key)) (hall ops m)).length ≤ 1048576) := by
            have h5 := vals_length (canon (lst key)) (hall ops m)
            have h6 := hall_length ops m
            show _ ≤ _
            omega
          have HX : Hid (∀ w2 w3 v', Turned [] (wr.alloc (.cells #[.int .i64 4, .string key, .string val] 37)) w2 → SV w3 (w.heap.size + 1) v' (valsOf (canon (lst key)) (hall ops m)) → w2.grownBy w3 none → (∀ g, v'.ownBlock = some g → w2.heap.size ≤ g) →
              HC w w3 ops m (.slice pr m cr) ⟨4, key, val⟩ v') := fun w2 w3 v' ht hsv hg hf =>
            ⟨w2, D, L, xs, hI2.keep ht, ⟨hg.os, hg.tape, hg.output, hg.size, fun k hk _ => hg.block k hk (by simp)⟩, hsv, hf⟩
          clear hI1 hI2 hall1 hx
          go_wp2_with fail
          go_at_call 35
          refine AA.mono ?_
          rintro e w2 ⟨rfl, ht⟩
          have HS2 := Lib.hid (HSV.out w2 ht)
          have HX2 := Lib.hid (fun w3 v' => HX.out w2 w3 v' ht)
          clear AA HX ht HSV
          go_wp2_with (at_builtin; refine wpList_append_copy _ rfl (.tmp 48) (.tmp 52) 38 rfl (w.heap.size + 1) (w.heap.size + 1) j0 (.string ⟨#[]⟩) Try.underlying38 hj hy0 hy1 hy2 rfl x _ rfl rfl HS2.out.1 HVL.out HS2.out.2 ?_; intro v' w3 q1 q2 q3; have HF := Lib.hid (HX2.out w3 v' q1 q2 q3); clear q1 q2 q3 HX2 HS2)
          go_meet
          exact HF.out
        have b4 : (wh == 4) = false := by simpa using h4
        have HF : Hid (HC w (wr.alloc (.cells #[.int .i64 wh, .string key, .string val] 37)) ops m (.slice pr m cr) ⟨wh, key, val⟩ (.slice none 0 0)) := by
          refine ⟨_, D, L, xs, hI2, Turned.refl _ _, ?_, fun g hg => by cases hg⟩
          have hr : hres (hall ops m) ⟨wh, key, val⟩ = [] := by unfold hres; rw [if_neg h3, if_neg h4]
          rw [hr]; exact SV.nil _ _
        clear hI1 hI2 hall1
        go_wp2_with fail
        go_meet
        exact HF.out
      case rest =>
        obtain ⟨w2, D', L', xs', hI2, hT2, hS2, hF2⟩ := hcut
        obtain ⟨p7, n7, c7, rfl⟩ := hS2.slice
        have hTa : Turned [] wc (wc.alloc (.cells #[.slice p7 n7 c7] 38)) := (Turned.refl [] wc).alloc _
        have HOW := Lib.hid (((hI2.keep hT2).keep hTa).own)
        have HX := Lib.hid (fun w5 rv' => hI2.push (w5 := w5) (rv' := rv') HO.out hT2 hS2 hF2 hTa)
        have HB : Hid (w.heap.size + 1 ≤ (wc.alloc (.cells #[.slice p7 n7 c7] 38)).heap.size) := by
          have h1 := hI2.hm.own.lt
          have h2 := hT2.size
          show _ ≤ _
          simp
          omega
        have HL : Hid (m + 1 ≤ maxLen ∧ (m + 1) * 24 ≤ 140737488355328) := by
          have := HN.out
          exact ⟨by unfold maxLen; omega, by omega⟩
        have e1 : IntKind.i64.wrap ((m : Int) + 1) = (m : Int) + 1 := IntWalk.i64_in _ (by have := HN.out; omega)
        clear hI2 hT2 hS2 hF2 hTa HI1 c1 c2 c3
        go_wp2_with (first
          | (at_builtin; refine wpList_append_own_at _ rfl (.tmp 54) (.tmp 56) 32 rfl (w.heap.size + 1) 38 i0 (.slice none 0 0) 1 24 Try.underlying32 hi hz0 hz1 hz2 rfl (by decide) _ m xs' rfl HOW.out ⟨wc.heap.size, 0, none⟩ 1 1 [.slice p7 n7 c7] rfl rfl (cell_one_new _ _ _) (by simp [Value.oneCell']) HL.out.1 HL.out.2 HB.out ?_; intro v' w5 hown hgrow _ hat; have HY := Lib.hid (HX.out w5 v' hown hgrow hat); clear hown hgrow hat HX HOW)
          | go_in)
        go_roundg (gk - 1)
        case rel => exact ⟨m + 1, rfl, hlt, ⟨_, _, _, HY.out⟩, HG.out.1⟩
        case measure => exact Nat.sub_lt (HG.out.2 hlt) Nat.one_pos
    · obtain rfl : m = ops.length := by omega
      have d0 : ¬ (ops.length : Int) < (ops.length : Int) := by omega
      have IF := implFields_any wr _ _ _ D L (hall ops ops.length) hI.hm (hall_sorted ops _) (by have := hall_length ops ops.length; omega)
      have HX : Hid (∀ w2 lv, Turned [] wr w2 → w2.ownsRow wr.heap.size 51 2 lv (hall ops ops.length).length (fc (hall ops ops.length)) → HdrPost w ops (.returned (.tuple #[.slice pr ops.length cr, lv])) w2) := by
        intro w2 lv ht ho
        have hI2 := hI.keep ht
        have hxl : xs.length = ops.length := by have := hI.own.1; omega
        refine ⟨pr, cr, lv, rfl, hI2.tu, ownsN_mono ho hI.tu.size, fun i o hio => ?_⟩
        have hil := (List.getElem?_eq_some_iff.1 hio).1
        obtain ⟨x, hx⟩ : ∃ x, xs[i]? = some x := ⟨_, List.getElem?_eq_getElem (by omega)⟩
        obtain ⟨o2, ho2, hs⟩ := hI2.res i x hx
        rw [hio] at ho2
        obtain rfl := Option.some.inj ho2
        obtain ⟨_, _, hfe, _, _, _, hps, hpc⟩ := ownsN_slice hI2.own
        injection hfe with e1 _ e3
        subst e1 e3
        obtain ⟨g, hg, hc⟩ := hpc i x hx
        obtain ⟨g', hg', _, hlt'⟩ := hps _ hg
        injection hg' with hg'
        subst hg'
        exact ⟨g, x, hg, hlt', hc, hs.mono (Nat.le_succ _)⟩
      clear hI hg hq1 hq2 hq3 hq4 hq5
      go_wp2_with fail
      go_at_call 36
      refine IF.mono ?_
      rintro e w2 ⟨lv, rfl, ht, ho⟩
      have HF := Lib.hid (HX.out w2 lv ht ho)
      clear ht ho HX IF
      go_wp2_with fail
      go_ret2
      exact HF.out
end Go.Proofs.Ytdhdcgliefjonaa
