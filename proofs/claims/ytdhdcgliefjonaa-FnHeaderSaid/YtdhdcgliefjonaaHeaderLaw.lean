/-
  The walk of laws.FnHeader: it returns true for every list of calls.
-/
import Derived.Test.YtdhdcgliefjonaaHdrWalk
namespace Go.Proofs.Ytdhdcgliefjonaa
open Go.RowKit Go.ChangeMaps Go.MapKept Go.WideShapes

/-- The answers lie in a row. -/
def GotAt (base : Nat) (w : World) (ops : List OpD) (p : Option Addr) : Prop :=
  ∀ i o, ops[i]? = some o → ∃ g x, p = some ⟨g, 0, none⟩ ∧ g < w.heap.size ∧ w.cell? ⟨g, i, none⟩ = some x ∧ SV w base x (hres (hall ops i) o)
theorem GotAt.keep {base : Nat} {w w' : World} {ops : List OpD} {p : Option Addr} (h : GotAt base w ops p) (ht : Turned [] w w') : GotAt base w' ops p := fun i o ho => by
  obtain ⟨g, x, h1, h2, h3, h4⟩ := h i o ho
  exact ⟨g, x, h1, Nat.lt_of_lt_of_le h2 ht.size, (ht.cell h2 (by simp)).trans h3, h4.turned ht (by simp)⟩
/-- It is true. -/
def LawPost (w : World) (e : Ending) (w' : World) : Prop := e = .returned (.bool true) ∧ Turned [] w w'
theorem cell_one_new' (w : World) (o : Obj) (x : Value) (t : TypeId) : ∀ j u, [x][j]? = some u → ((w.alloc o).alloc (.cells #[x] t)).cell? ((⟨w.heap.size + 1, 0, none⟩ : Addr).add j) = some u := by
  have h := cell_one_new (w.alloc o) x t
  simpa using h
theorem cell_two_new' (w : World) (o : Obj) (x y : Value) (t : TypeId) : ∀ j u, [x, y][j]? = some u → ((w.alloc o).alloc (.cells #[x, y] t)).cell? ((⟨w.heap.size + 1, 0, none⟩ : Addr).add j) = some u := by
  have h := cell_two_new (w.alloc o) x y t
  simpa using h

/-- The two lists that the law's inner loop fills. -/
structure OL (B : Nat) (w wr : World) (k : List UInt8) (a : List Fd) (v9 v10 : Value) : Prop where
  tu : Turned [] w wr
  o9 : wr.ownsRow B 9 1 v9 (valsOf k a).length ((valsOf k a).map tv)
  o10 : wr.ownsRow B 40 2 v10 (without k a).length (fc (without k a))
section
variable {B : Nat} {w wr wa w5 : World} {k : List UInt8} {a : List Fd} {v9 v10 v' : Value} {f : Fd}
theorem own_ne_types {w : World} {b1 b2 e1 e2 s1 s2 n1 n2 : Nat} {u v : Value} {xs ys : List Value} (h : w.ownsRow b1 e1 s1 u n1 xs) (h' : w.ownsRow b2 e2 s2 v n2 ys) (hne : e1 ≠ e2) : ∀ g, u.ownBlock = some g → v.ownBlock ≠ some g := by
  intro g hu hv
  rcases h.2 with ⟨rfl, _⟩ | ⟨g1, _, _, rfl, _, hg1, _⟩
  · cases hu
  · rcases h'.2 with ⟨rfl, _⟩ | ⟨g2, _, _, rfl, _, hg2, _⟩
    · cases hv
    · simp only [Value.ownBlock, Option.some.injEq] at hu hv
      rw [hu] at hg1
      rw [hv] at hg2
      rw [hg1] at hg2
      injection hg2 with hg2
      injection hg2 with _ hg2
      exact hne hg2
theorem OL.start (w : World) (B : Nat) (k : List UInt8) : OL B w w k [] (.slice none 0 0) (.slice none 0 0) := ⟨Turned.refl _ _, World.ownsRow_nil _ _ _ _, World.ownsRow_nil _ _ _ _⟩
theorem without_snoc (k : List UInt8) (a : List Fd) (f : Fd) : without k (a ++ [f]) = if f.1 = k then without k a else without k a ++ [f] := by
  unfold without
  rw [List.filter_append]
  by_cases h : f.1 = k <;> simp [h]
theorem vals_snoc (k : List UInt8) (a : List Fd) (f : Fd) : valsOf k (a ++ [f]) = if f.1 = k then valsOf k a ++ [f.2] else valsOf k a := by
  rw [vals_append]
  unfold valsOf
  by_cases h : f.1 = k <;> simp [h]
theorem OL.of (h : OL B w wr k a v9 v10) (hB : w.heap.size ≤ B) (hf : f.1 = k) (ha : Turned [] wr wa) (hown : w5.ownsRow B 9 1 v' ((valsOf k a).length + 1) ((valsOf k a).map tv ++ [tv f.2])) (hg : wa.grownBy w5 v9.ownBlock) : OL B w w5 k (a ++ [f]) v' v10 := by
  refine ⟨(h.tu.trans ha).grown hg (fun x hx => .inr (by have := (h.o9.lt x hx).1; omega)), ?_, ?_⟩
  · rw [vals_snoc, if_pos hf, List.length_append, List.map_append]
    exact hown
  · rw [without_snoc, if_pos hf]
    exact ownsN_grown (ownsN_keep h.o10 ha) hg (fun g e => own_ne_types h.o9 h.o10 (by decide) g e)
theorem OL.ot (h : OL B w wr k a v9 v10) (hB : w.heap.size ≤ B) (hf : f.1 ≠ k) (ha : Turned [] wr wa) (hown : w5.ownsRow B 40 2 v' ((without k a).length + 1) (fc (without k a) ++ [tv f.1, tv f.2])) (hg : wa.grownBy w5 v10.ownBlock) : OL B w w5 k (a ++ [f]) v9 v' := by
  refine ⟨(h.tu.trans ha).grown hg (fun x hx => .inr (by have := (h.o10.lt x hx).1; omega)), ?_, ?_⟩
  · rw [vals_snoc, if_neg hf]
    exact ownsN_grown (ownsN_keep h.o9 ha) hg (fun g e => own_ne_types h.o10 h.o9 (by decide) g e)
  · rw [without_snoc, if_neg hf, List.length_append, fc_append]
    exact hown
end

/-- Behind the switch: the fields and what is wanted. -/
def HL (w2 wc : World) (ops : List OpD) (m : Nat) (o : OpD) (u3 u13 : Value) : Prop :=
  Turned [] w2 wc ∧ wc.ownsRow w2.heap.size 40 2 u3 (hall ops (m + 1)).length (fc (hall ops (m + 1))) ∧ SV wc w2.heap.size u13 (hres (hall ops m) o)
theorem head_take {l : List (List UInt8)} (h : l ≠ []) : [l.headD []] = l.take 1 := by
  cases l with
  | nil => exact absurd rfl h
  | cons a r => rfl

set_option maxRecDepth 100000 in
set_option maxHeartbeats 8000000 in
theorem fnHeader_any (pa : Option Addr) (ops : List OpD) (cap : Nat) (w : World) (h : OpsAt w pa ops) : Calls Try.prog 9 #[.slice pa ops.length cap] w (LawPost w) := by
  obtain ⟨i0, hi, hz0, hz1, hz2⟩ := info_parts sfld_row
  obtain ⟨j0, hj, hy0, hy1, hy2⟩ := info_parts str_row
  have F3 := fits3_any pa ops cap w h
  have HP := Lib.hid h
  clear h
  go_enter Try.func9, Try.ntmps9
  go_wp2_with fail
  go_at_call 18
  refine F3.mono ?_
  rintro e w1 ⟨ht1, b, rfl, hb⟩
  cases b
  · have HF : Hid (LawPost w (.returned (.bool true)) w1) := ⟨rfl, ht1⟩
    clear F3 ht1 hb
    go_wp2_with fail
    go_ret
    exact HF.out
  obtain ⟨_, hsz⟩ := hb rfl
  by_cases hn : 1000 < ops.length
  · have b0 : (1000 : Int) < (ops.length : Int) := by omega
    have HF : Hid (LawPost w (.returned (.bool true)) w1) := ⟨rfl, ht1⟩
    clear F3 ht1 hb hsz hn
    go_wp2_with fail
    go_ret
    exact HF.out
  have b0 : ¬ (1000 : Int) < (ops.length : Int) := by omega
  have IH := implHeader_any pa ops cap w1 (HP.out.keep ht1) (by omega) hsz
  have HSZ := Lib.hid hsz
  have HT1 := Lib.hid ht1
  have HN : Hid (ops.length ≤ 1000) := by show _ ≤ _; omega
  clear F3 ht1 hb hsz hn
  go_wp2_with fail
  go_at_call 19
  refine IH.mono ?_
  rintro e w2 ⟨p, c, lv, rfl, ht2, hlv, hgot⟩
  obtain ⟨pl, cl, rfl, _⟩ := ownsN_slice hlv
  have HLV := Lib.hid hlv
  have HGOT : Hid (GotAt w1.heap.size w2 ops p) := hgot
  have HT2 : Hid (Turned [] w w2) := HT1.out.trans ht2
  clear IH ht2 hlv hgot HT1
  go_wp2_with fail
  go_loopg [3, 32] ops.length (fun g u3 u32 wr => ∃ m : Nat, u32 = .int .i64 (m : Int) ∧ m ≤ ops.length ∧ Turned [] w2 wr ∧ wr.ownsRow w2.heap.size 40 2 u3 (hall ops m).length (fc (hall ops m)) ∧ ops.length - m ≤ g)
  case atStart => exact ⟨0, rfl, Nat.zero_le _, Turned.refl _ _, World.ownsRow_nil _ _ _ _, Nat.le_refl _⟩
  case round =>
    obtain ⟨m, rfl, hm, ht3, ho3, hg⟩ := hrel
    obtain ⟨a, ha⟩ : ∃ a, a = hall ops m := ⟨_, rfl⟩
    have hal : a.length ≤ 1000 := by
      have := hall_length ops m
      have := HN.out
      rw [ha]; omega
    have HA := Lib.hid ha
    rw [← ha] at ho3
    obtain ⟨p3, c3, rfl, hq1, hq2, hq3, hq4, hq5⟩ := ownsN_slice ho3
    obtain ⟨gko, hgko⟩ : ∃ x, x = gk := ⟨_, rfl⟩
    have HGO : Hid (ops.length - (m + 1) ≤ gko - 1 ∧ (m < ops.length → 0 < gko)) := ⟨by omega, fun _ => by omega⟩
    have HT3 := Lib.hid ht3
    have HO3 := Lib.hid ho3
    have HGK : Hid (gko = gk) := hgko
    clear hq1 hq2 hq3 hq4 hq5 hg ha hgko
    by_cases hlt : m < ops.length
    · obtain ⟨o, ho⟩ : ∃ o, ops[m]? = some o := ⟨_, List.getElem?_eq_getElem hlt⟩
      have hk1 := (HSZ.out o (List.mem_of_getElem? ho)).1
      have HO := Lib.hid ho
      obtain ⟨wh, key, val⟩ := o
      obtain ⟨bo, off, rfl, _, c1, c2, c3'⟩ := HP.out.keep (HT2.out.trans ht3) m _ ho
      dsimp only at c1 c2 c3' hk1
      have d0 : (m : Int) < (ops.length : Int) := by omega
      have d1 : (0 : Int) ≤ (m : Int) := by omega
      have SC := fun W => specCanon_any key W (by omega)
      clear ho ht3 ho3
      go_wp2_with fail
      go_at_call 16
      refine (SC _).mono ?_
      rintro e w4 ⟨rfl, hb4⟩
      have hT4 : Turned [] wr w4 := ((Turned.refl [] wr).alloc _).trans (Turned.of_below hb4)
      have hS4 : wr.heap.size < w4.heap.size := by have := hb4.size; simp at this; omega
      have hkc : ∀ j, w4.cell? ⟨wr.heap.size, j, none⟩ = (wr.alloc (.cells #[.int .i64 wh, .string key, .string val] 37)).cell? ⟨wr.heap.size, j, none⟩ := fun j => hb4.cell (p := ⟨wr.heap.size, j, none⟩) (by simp)
      obtain ⟨WR, hWR⟩ : ∃ n, n = wr.heap.size := ⟨_, rfl⟩
      obtain ⟨k, hk⟩ : ∃ k, k = canon (lst key) := ⟨_, rfl⟩
      rw [← hk]
      have HK := Lib.hid hk
      have HT4 := Lib.hid hT4
      have HO4 : Hid (w4.ownsRow w2.heap.size 40 2 (.slice p3 a.length c3) a.length (fc a)) := ownsN_keep HO3.out hT4
      have e0 : w4.cell? ⟨wr.heap.size, 0, none⟩ = some (.int .i64 wh) := by rw [hkc]; simp
      have e2 : w4.cell? ⟨wr.heap.size, 2, none⟩ = some (.string val) := by rw [hkc]; simp
      have HW4 : Hid (wr.heap.size < w4.heap.size) := hS4
      rw [← hWR] at e0 e2 HW4 ⊢
      have HWR := Lib.hid hWR
      obtain ⟨wr0, hwr0⟩ : ∃ x, x = wr := ⟨_, rfl⟩
      rw [← hwr0] at HWR HT3 HO3 HT4
      clear SC hb4 hkc hk hT4 c1 c2 c3' hS4 hWR hwr0
      go_wp2_with fail
      go_loopg [9, 10, 42] a.length (fun g u9 u10 u42 wr5 => ∃ j : Nat, u42 = .int .i64 (j : Int) ∧ j ≤ a.length ∧ OL w4.heap.size w4 wr5 k (a.take j) u9 u10 ∧ a.length - j ≤ g)
      case atStart => exact ⟨0, rfl, Nat.zero_le _, OL.start _ _ _, Nat.le_refl _⟩
      case round =>
        obtain ⟨j, rfl, hjl, hOL, hg⟩ := hrel
        obtain ⟨z9, hz9⟩ : ∃ z9, z9 = valsOf k (a.take j) := ⟨_, rfl⟩
        obtain ⟨z10, hz10⟩ : ∃ z10, z10 = without k (a.take j) := ⟨_, rfl⟩
        have h9 := hOL.o9
        have h10 := hOL.o10
        rw [← hz9] at h9
        rw [← hz10] at h10
        have hl9 : z9.length ≤ 1000 := by
          have := vals_length k (a.take j)
          rw [List.length_take] at this
          rw [hz9]; omega
        have hl10 : z10.length ≤ 1000 := by
          have := without_length k (a.take j)
          rw [List.length_take] at this
          rw [hz10]; omega
        obtain ⟨p9, c9, rfl, hr1, hr2, hr3, hr4, hr5⟩ := ownsN_slice h9
        obtain ⟨p10, c10, rfl, hs1, hs2, hs3, hs4, hs5⟩ := ownsN_slice h10
        have HJ : Hid (a.length - (j + 1) ≤ gk - 1 ∧ (j < a.length → 0 < gk)) := ⟨by omega, fun _ => by omega⟩
        have hB5 : w4.heap.size ≤ wr.heap.size := hOL.tu.size
        clear hr1 hr2 hr3 hr4 hr5 hs1 hs2 hs3 hs4 hs5 hg
        by_cases hjt : j < a.length
        · obtain ⟨f, hf⟩ : ∃ f, a[j]? = some f := ⟨_, List.getElem?_eq_getElem hjt⟩
          have htk : a.take (j + 1) = a.take j ++ [f] := by rw [List.take_add_one, hf]; rfl
          obtain ⟨_, _, hfe, _, _, _, _, hpc⟩ := ownsN_slice (ownsN_keep HO4.out hOL.tu)
          injection hfe with q1 _ q3
          subst q1 q3
          obtain ⟨g3, rfl, d2⟩ := hpc _ _ (fc_at hf).1
          obtain ⟨g3', hge, d3⟩ := hpc _ _ (fc_at hf).2
          injection hge with hge
          injection hge with hge
          subst hge
          unfold tv at d2 d3
          have d4 : (j : Int) < (a.length : Int) := by omega
          have d5 : (0 : Int) ≤ (j : Int) := by omega
          have e1 : IntKind.i64.wrap ((j : Int) + 1) = (j : Int) + 1 := IntWalk.i64_in _ (by omega)
          have hTa : ∀ x y, Turned [] wr ((wr.alloc x).alloc y) := fun x y => ((Turned.refl [] wr).alloc x).alloc y
          have HB : Hid (∀ x y, w4.heap.size ≤ ((wr.alloc x).alloc y).heap.size) := fun x y => Nat.le_trans hB5 (hTa x y).size
          have HL9 : Hid (z9.length + 1 ≤ maxLen ∧ (z9.length + 1) * 16 ≤ 140737488355328) := ⟨by unfold maxLen; omega, by omega⟩
          have HL10 : Hid (z10.length + 1 ≤ maxLen ∧ (z10.length + 1) * 32 ≤ 140737488355328) := ⟨by unfold maxLen; omega, by omega⟩
          have HO9 := Lib.hid (fun x y => ownsN_keep h9 (hTa x y))
          have HO10 := Lib.hid (fun x y => ownsN_keep h10 (hTa x y))
          by_cases hfk : f.1 = k
          · have bF : (f.1 == k) = true := by simpa using hfk
            have HX : Hid (∀ x y w5 v', w5.ownsRow w4.heap.size 9 1 v' (z9.length + 1) (z9.map tv ++ [.string ⟨f.2.toArray⟩]) → ((wr.alloc x).alloc y).grownBy w5 (Value.ownBlock (.slice p9 z9.length c9)) → OL w4.heap.size w4 w5 k (a.take (j + 1)) v' (.slice p10 z10.length c10)) := by
              intro x y w5 v' ho5 hg5
              rw [htk]
              exact hOL.of (Nat.le_refl _) hfk (hTa x y) (by rw [← hz9]; exact ho5) hg5
            clear hOL h9 h10 hpc htk hTa hf hz9 hz10 hfk HO10 hl9 hl10
            go_wp2_with (first
              | (at_builtin; refine wpList_append_own_at _ rfl (.tmp 50) (.tmp 53) 38 rfl w4.heap.size 9 j0 (.string ⟨#[]⟩) 1 16 Try.underlying38 hj hy0 hy1 hy2 rfl (by decide) _ z9.length (z9.map tv) rfl (HO9.out _ _) ⟨wr.heap.size + 1, 0, none⟩ 1 1 [.string ⟨f.2.toArray⟩] rfl rfl (cell_one_new' _ _ _ _) (by simp [Value.oneCell']) HL9.out.1 HL9.out.2 (HB.out _ _) ?_; intro v' w5 hown hgrow _ hat; have HY := Lib.hid (HX.out _ _ w5 v' hown hgrow); clear hown hgrow hat HX HO9)
              | go_in)
            go_roundg (gk - 1)
            case rel => exact ⟨j + 1, rfl, hjt, HY.out, HJ.out.1⟩
            case measure => exact Nat.sub_lt (HJ.out.2 hjt) Nat.one_pos
          · have bF : (f.1 == k) = false := by simpa using hfk
            have HX : Hid (∀ x y w5 v', w5.ownsRow w4.heap.size 40 2 v' (z10.length + 1) (fc z10 ++ [.string ⟨f.1.toArray⟩, .string ⟨f.2.toArray⟩]) → ((wr.alloc x).alloc y).grownBy w5 (Value.ownBlock (.slice p10 z10.length c10)) → OL w4.heap.size w4 w5 k (a.take (j + 1)) (.slice p9 z9.length c9) v') := by
              intro x y w5 v' ho5 hg5
              rw [htk]
              exact hOL.ot (Nat.le_refl _) hfk (hTa x y) (by rw [← hz10]; exact ho5) hg5
            clear hOL h9 h10 hpc htk hTa hf hz9 hz10 hfk HO9 hl9 hl10
            go_wp2_with (first
              | (at_builtin; refine wpList_append_own_at _ rfl (.tmp 55) (.tmp 57) 31 rfl w4.heap.size 40 i0 (.agg #[.string ⟨#[]⟩, .string ⟨#[]⟩]) 2 32 Try.underlying31 hi hz0 hz1 hz2 rfl (by decide) _ z10.length (fc z10) rfl (HO10.out _ _) ⟨wr.heap.size + 1, 0, none⟩ 1 1 [.string ⟨f.1.toArray⟩, .string ⟨f.2.toArray⟩] rfl rfl (cell_two_new' _ _ _ _ _) (by simp [Value.oneCell']) HL10.out.1 HL10.out.2 (HB.out _ _) ?_; intro v' w5 hown hgrow _ hat; have HY := Lib.hid (HX.out _ _ w5 v' hown hgrow); clear hown hgrow hat HX HO10)
              | go_in)
            go_roundg (gk - 1)
            case rel => exact ⟨j + 1, rfl, hjt, HY.out, HJ.out.1⟩
            case measure => exact Nat.sub_lt (HJ.out.2 hjt) Nat.one_pos
        · have hjt0 : a.take j = a := List.take_of_length_le (by omega)
          have d4 : ¬ (j : Int) < (a.length : Int) := by omega
          rw [hjt0] at hOL hz9 hz10
          have HOL := Lib.hid hOL
          have HZ : Hid (z9 = valsOf k a ∧ z10 = without k a) := ⟨hz9, hz10⟩
          have f0 : wr.cell? ⟨WR, 0, none⟩ = some (.int .i64 wh) := (hOL.tu.cell (p := ⟨WR, 0, none⟩) HW4.out (by simp)).trans e0
          have f2 : wr.cell? ⟨WR, 2, none⟩ = some (.string val) := (hOL.tu.cell (p := ⟨WR, 2, none⟩) HW4.out (by simp)).trans e2
          clear hOL hz9 hz10 e0 e2 hB5
          go_upto_block 4 with fail
          have hTW : Turned [] w2 wr := (HT3.out.trans HT4.out).trans HOL.out.tu
          have own3 := ownsN_keep HO4.out HOL.out.tu
          have own9 := HOL.out.o9
          have own10 := HOL.out.o10
          rw [← HZ.out.1] at own9
          rw [← HZ.out.2] at own10
          have h42 : w2.heap.size ≤ w4.heap.size := (HT3.out.trans HT4.out).size
          go_cut [3, 13] (fun u3 u13 wc => HL w2 wc ops m ⟨wh, key, val⟩ u3 u13)
          case first =>
            by_cases h0 : wh = 0
            · subst h0
              have IA := insert_any p3 c3 _ a ⟨k.toArray⟩ val wr own3 (by rw [HA.out]; exact hall_sorted ops m) (by omega)
              rw [lst_mk] at IA
              have HX : Hid (∀ w5 v', Turned [] wr w5 → w5.ownsRow wr.heap.size 40 2 v' (insF a (k, lst val)).length (fc (insF a (k, lst val))) → HL w2 w5 ops m ⟨0, key, val⟩ v' (.slice none 0 0)) := by
                intro w5 v' ht5 ho5
                refine ⟨hTW.trans ht5, ?_, SV.nil _ _⟩
                have e : hall ops (m + 1) = insF a (k, lst val) := by rw [hall_succ HO.out, ← HA.out]; rw [HK.out]; rfl
                rw [e]
                exact ownsN_mono ho5 hTW.size
              clear hTW own3 own9 own10
              go_wp2_with fail
              go_at_call 20
              refine IA.mono ?_
              rintro e w5 ⟨v', rfl, ht5, ho5⟩
              have HF := Lib.hid (HX.out w5 v' ht5 ho5)
              clear ht5 ho5 IA HX
              go_wp2_with fail
              go_meet
              exact HF.out
            have b1 : (wh == 0) = false := by simpa using h0
            by_cases h1 : wh = 1
            · subst h1
              have IA := insert_any p10 c10 _ z10 ⟨k.toArray⟩ val wr own10 (by rw [HZ.out.2, HA.out]; exact without_sorted (hall_sorted ops m) k) (by omega)
              rw [lst_mk] at IA
              have HX : Hid (∀ w5 v', Turned [] wr w5 → w5.ownsRow wr.heap.size 40 2 v' (insF z10 (k, lst val)).length (fc (insF z10 (k, lst val))) → HL w2 w5 ops m ⟨1, key, val⟩ v' (.slice none 0 0)) := by
                intro w5 v' ht5 ho5
                refine ⟨hTW.trans ht5, ?_, SV.nil _ _⟩
                have e : hall ops (m + 1) = insF z10 (k, lst val) := by rw [hall_succ HO.out, ← HA.out]; rw [HZ.out.2, HK.out]; rfl
                rw [e]
                exact ownsN_mono ho5 hTW.size
              clear hTW own3 own9 own10
              go_wp2_with fail
              go_at_call 20
              refine IA.mono ?_
              rintro e w5 ⟨v', rfl, ht5, ho5⟩
              have HF := Lib.hid (HX.out w5 v' ht5 ho5)
              clear ht5 ho5 IA HX
              go_wp2_with fail
              go_meet
              exact HF.out
            have b2 : (wh == 1) = false := by simpa using h1
            by_cases h2 : wh = 2
            · subst h2
              have HF : Hid (HL w2 wr ops m ⟨2, key, val⟩ (.slice p10 z10.length c10) (.slice none 0 0)) := by
                refine ⟨hTW, ?_, SV.nil _ _⟩
                have e : hall ops (m + 1) = z10 := by rw [hall_succ HO.out, ← HA.out, HZ.out.2, HK.out]; rfl
                rw [e]
                exact ownsN_mono own10 h42
              clear hTW own3 own9 own10
              go_wp2_with fail
              go_meet
              exact HF.out
            have b3 : (wh == 2) = false := by simpa using h2
            have hall1 : hall ops (m + 1) = a := by
              rw [hall_succ HO.out, ← HA.out]
              unfold hstep
              rw [if_neg h0, if_neg h1, if_neg h2]
            have HX : Hid (∀ w5 v', Turned [] wr w5 → SV w5 w2.heap.size v' (hres (hall ops m) ⟨wh, key, val⟩) → HL w2 w5 ops m ⟨wh, key, val⟩ (.slice p3 a.length c3) v') := fun w5 v' ht5 hs5 =>
              ⟨hTW.trans ht5, by rw [hall1]; exact ownsN_keep own3 ht5, hs5⟩
            by_cases h3 : wh = 3
            · subst h3
              have hr : hres (hall ops m) ⟨3, key, val⟩ = [z9.headD []] := by rw [← HA.out, HZ.out.1, HK.out]; rfl
              have hbw : w2.heap.size ≤ wr.heap.size := hTW.size
              by_cases hz : z9 = []
              · have b5 : ¬ (0 : Int) < (z9.length : Int) := by rw [hz]; simp
                have HF : Hid (HL w2 (wr.alloc (.cells #[.string ⟨#[]⟩] 9)) ops m ⟨3, key, val⟩ (.slice p3 a.length c3) (.slice (some ⟨wr.heap.size, 0, none⟩) 1 1)) :=
                  HX.out _ _ ((Turned.refl [] wr).alloc _) (by rw [hr, hz]; exact one_sv wr [] _ hbw)
                clear hTW own3 own9 own10 hz HX hall1 hr
                go_wp2_with fail
                go_meet
                exact HF.out
              · have hz0 : 0 < z9.length := List.length_pos_iff.2 hz
                have b5 : (0 : Int) < (z9.length : Int) := by omega
                have hcut := ownsN_cut own9 (m := 1) (by omega)
                have hle : z9.length ≤ c9 := by
                  obtain ⟨_, _, hfe, hq, _⟩ := ownsN_slice own9
                  injection hfe with _ _ e3
                  omega
                have hle2 : 1 ≤ c9 := by omega
                have HF : Hid (HL w2 (wr.alloc (.cells #[.string ⟨#[]⟩] 9)) ops m ⟨3, key, val⟩ (.slice p3 a.length c3) (.slice p9 1 c9)) := by
                  refine HX.out _ _ ((Turned.refl [] wr).alloc _) ?_
                  rw [hr, head_take hz]
                  have hs : SV wr w4.heap.size (.slice p9 1 c9) (z9.take 1) := SV.of_own (by
                    have e : (z9.take 1).length = 1 := by rw [List.length_take]; omega
                    rw [e]
                    rw [show (z9.map tv).take (1 * 1) = (z9.take 1).map tv by rw [List.map_take]] at hcut
                    exact hcut)
                  exact (hs.mono h42).turned ((Turned.refl [] wr).alloc _) (by simp)
                clear hTW own3 own9 own10 hz HX hall1 hr hcut hle hz0
                go_wp2_with fail
                go_meet
                exact HF.out
            have b4 : (wh == 3) = false := by simpa using h3
            by_cases h4 : wh = 4
            · subst h4
              have HF : Hid (HL w2 wr ops m ⟨4, key, val⟩ (.slice p3 a.length c3) (.slice p9 z9.length c9)) := by
                refine HX.out _ _ (Turned.refl _ _) ?_
                have hr : hres (hall ops m) ⟨4, key, val⟩ = z9 := by rw [← HA.out, HZ.out.1, HK.out]; rfl
                rw [hr]
                exact (SV.of_own own9).mono h42
              clear hTW own3 own9 own10 HX hall1
              go_wp2_with fail
              go_meet
              exact HF.out
            have b5 : (wh == 4) = false := by simpa using h4
            have HF : Hid (LawPost w (.returned (.bool true)) wr) := ⟨rfl, HT2.out.trans hTW⟩
            clear hTW own3 own9 own10 HX hall1
            go_wp2_with fail
            go_ret
            exact HF.out
          case rest =>
            obtain ⟨ht6, ho6, hs6⟩ := hcut
            clear hTW own3 own9 own10 h42 HOL
            obtain ⟨g8, x8, rfl, _, hc8, hs8⟩ := HGOT.out.keep ht6 m _ HO.out
            have HF : Hid (∀ n, Turned [] w2 (wc.drewN n) ∧ (wc.drewN n).ownsRow w2.heap.size 40 2 u3 (hall ops (m + 1)).length (fc (hall ops (m + 1)))) := fun n => ⟨ht6.drewN n, ownsN_keep ho6 ((Turned.refl [] wc).drewN n)⟩
            have hrl : (hres (hall ops m) ⟨wh, key, val⟩).length ≤ 2147483647 := by
              have h5 := vals_length (canon (lst key)) (hall ops m)
              have h6 := hall_length ops m
              have h7 := HN.out
              unfold hres
              split
              · simp
              · split
                · exact Nat.le_trans h5 (by omega)
                · simp
            have SS := sameSV_any x8 u13 _ _ _ wc hs8 hs6 hrl
            obtain ⟨p8, n8, c8, rfl⟩ := hs8.slice
            obtain ⟨p13, n13, c13, rfl⟩ := hs6.slice
            have e1 : IntKind.i64.wrap ((m : Int) + 1) = (m : Int) + 1 := IntWalk.i64_in _ (by have := HN.out; omega)
            clear ht6 ho6 hs6 hs8 hrl
            go_wp2_with fail
            go_at_call 21
            refine SS.mono ?_
            rintro e w7 ⟨rfl, n7, rfl⟩
            clear SS
            go_wp2_with fail
            go_roundg (gko - 1)
            case rel => exact ⟨m + 1, rfl, hlt, (HF.out n7).1, (HF.out n7).2, HGO.out.1⟩
            case measure => have h1 := HGO.out.2 hlt; have h2 := HGK.out; omega
    · obtain rfl : m = ops.length := by omega
      have d0 : ¬ (ops.length : Int) < (ops.length : Int) := by omega
      have hlen := hall_length ops ops.length
      have LF := lawFields_any (.slice pl (hall ops ops.length).length cl) (.slice p3 a.length c3) _ _ (hall ops ops.length) wr (ownsN_keep HLV.out HT3.out) (by rw [← HA.out]; exact HO3.out) (by have := HN.out; omega)
      have HF : Hid (∀ n, LawPost w (.returned (.bool true)) (wr.drewN n)) := fun n => ⟨rfl, (HT2.out.trans HT3.out).drewN n⟩
      clear ht3 ho3 hlen
      go_wp2_with fail
      go_at_call 22
      refine LF.mono ?_
      rintro e w7 ⟨rfl, n7, rfl⟩
      clear LF
      go_wp2_with fail
      go_ret
      exact HF.out n7
end Go.Proofs.Ytdhdcgliefjonaa
