/-
  The contract of impl.fields: the fields of a header, by the order of their keys.
-/
import Derived.Test.YthobojpbdeepoaaDoorFRow
import Derived.Deep.LoopGhost
import Derived.Deep.DeepCutAuto
import Derived.Deep.CutBlock
namespace Go.Proofs.YthobojpbdeepoaaDoor
open Go.RowKit Go.ChangeMaps Go.MapKept Go.WideShapes

set_option maxRecDepth 100000 in
theorem fld_row : (Tryd.prog.info? 117).map (fun i => (i.zero, i.size, i.bytes)) = some (some (.agg #[.string ⟨#[]⟩, .string ⟨#[]⟩]), 2, 32) := by kernel_rfl
/-- An element, by its parts. -/
def mkS (x : Option Addr × Nat × Nat) : Value := .slice x.1 x.2.1 x.2.2
theorem mkS_inv {v : Value} {y : DataW Value × List MemPlace} (h : RSl v = some y) : ∃ x, v = mkS x := by
  obtain ⟨x, h1, _⟩ := RSl_inv h
  exact ⟨x, h1⟩
set_option maxRecDepth 100000 in
theorem mkK_inv {key : Value} {l : Lit} (h : keyOf Tryd.prog 9 key = some l) : ∃ s : ByteArray, key = .string s := by
  obtain ⟨s, h1, _⟩ := WideMaps.string_of_keyOf Tryd.underlying9 h
  exact ⟨s, h1⟩

theorem ownsN_mono {w : World} {base base' e size n : Nat} {v : Value} {xs : List Value} (h : w.ownsRow base e size v n xs) (hb : base' ≤ base) : w.ownsRow base' e size v n xs :=
  ⟨h.1, h.2.imp id fun ⟨g, cap, cur, h1, h2, h3⟩ => ⟨g, cap, cur, h1, Nat.le_trans hb h2, h3⟩⟩

theorem run_gt {P : Program} (t : TypeId) (a : List UInt8) (s : ByteArray) (W : World) : (binOp .gtr t (.string ⟨a.toArray⟩) (.string s)).run P W = .ok (.bool (gtL a (lst s))) W := by
  have e : ∀ x : ByteArray, x.toList = lst x := fun x => Lib.toList_data x
  simp [binOp, Op.stringOp, gtL, e, lst_mk]

/-- Where the loop stands: the keys d are done, out (vo) holds the fields o. -/
structure FI (w wr : World) (b n : Nat) (D : DataW Value) (left : Lit → Bool) (cnt : Nat) (vo : Value) (o : List Fd) : Prop where
  tu : Turned [] w wr
  bl : b < w.heap.size
  rg : wr.ranges Tryd.prog 9 RSl b w.heap.size n D left cnt
  own : wr.ownsRow (w.heap.size + 1) 117 2 vo o.length (fc o)
/-- The keys that are done. -/
def doneK (D : DataW Value) (left : Lit → Bool) (x : List UInt8) : Bool := Maps.has D (kl x) && !left (kl x)

section
variable {w wr wa w2 : World} {b n cnt cnt1 : Nat} {D : DataW Value} {left : Lit → Bool} {vo v' : Value} {o o' all : List Fd}
set_option maxRecDepth 100000 in
theorem FI.grow (h : FI w wr b n D left cnt vo o) (ha : Turned [] wr wa) (hg : wa.grownBy w2 vo.ownBlock) (ho : w2.ownsRow (w.heap.size + 1) 117 2 v' o'.length (fc o')) : FI w w2 b n D left cnt v' o' := by
  have hge : ∀ x, vo.ownBlock = some x → w.heap.size + 1 ≤ x := fun x hx => (h.own.lt x hx).1
  refine ⟨(h.tu.trans ha).grown hg (fun x hx => .inr (by have := hge x hx; omega)), h.bl, ?_, ho⟩
  have h1 := h.rg.kept (ha.nil_grown none) (by simp) (by simp)
  refine h1.kept hg (fun e => ?_) (fun e => ?_)
  · have := hge b e.symm
    have := h.bl
    omega
  · have := hge _ e.symm
    omega
set_option maxRecDepth 100000 in
theorem FI.same (h : FI w wr b n D left cnt vo o) (ha : Turned [] wr wa) : FI w wa b n D left cnt vo o :=
  ⟨h.tu.trans ha, h.bl, h.rg.kept (ha.nil_grown none) (by simp) (by simp), ownsN_keep h.own ha⟩
set_option maxRecDepth 100000 in
theorem FI.cut {p : Option Addr} {c m : Nat} (h : FI w wr b n D left cnt (.slice p o.length c) o) (hm : m ≤ o.length) : FI w wr b n D left cnt (.slice p m c) (o.take m) := by
  refine ⟨h.tu, h.bl, h.rg, ?_⟩
  have := ownsN_cut h.own hm
  rw [fc_take] at this
  rwa [List.length_take, Nat.min_eq_left hm]
set_option maxRecDepth 100000 in
/-- The iterator's step. -/
theorem FI.next {w1 : World} {x : Lit} (h : FI w wr b n D left cnt vo o) (hg : wr.grownBy w1 (some w.heap.size)) (hr : w1.ranges Tryd.prog 9 RSl b w.heap.size n D (fun z => left z && !z.sameKey x) cnt1) :
    FI w w1 b n D (fun z => left z && !z.sameKey x) cnt1 vo o := by
  refine ⟨h.tu.grown hg (fun y hy => .inr (by cases hy; exact Nat.le_refl _)), h.bl, hr, ownsN_grown h.own hg (fun g hgs e => ?_)⟩
  cases hgs
  have := (h.own.lt _ e).1
  omega
theorem done_none (D : DataW Value) : ∀ x, doneK D (Maps.has D) x = false := fun x => by unfold doneK; cases Maps.has D (kl x) <;> rfl
theorem done_step {k : List UInt8} (hk : Maps.has D (kl k) = true) (hl : left (kl k) = true) :
    doneK D left k = false ∧ doneK D (fun z => left z && !z.sameKey (kl k)) k = true ∧ ∀ x, x ≠ k → doneK D (fun z => left z && !z.sameKey (kl k)) x = doneK D left x := by
  refine ⟨by unfold doneK; rw [hl]; simp, by unfold doneK; simp [hk, WideAt.sameKey_self (kl_lit k)], fun x hx => ?_⟩
  unfold doneK
  simp [Maps.sameKey_ne (fun e => hx (kl_inj e))]

set_option maxRecDepth 100000 in
theorem done_all {base : Nat} {L : List Nat} (h : HM w base b n D (fun k => valsOf k all) L) (hl : ∀ z, left z = false) : sel all (doneK D left) = all := by
  refine sel_all fun f hf => ?_
  unfold doneK
  rw [hl]
  have h1 := h.sv f.1
  have h2 : look D f.1 ≠ .slice none 0 0 := by
    intro e
    rw [e] at h1
    obtain ⟨p, c, h3, _⟩ := h1.form
    injection h3 with _ h3 _
    exact vals_key hf (List.length_eq_zero_iff.1 h3.symm)
  rw [look_has h2]; rfl
end

theorem cell_two_new (w : World) (x y : Value) (t : TypeId) : ∀ j u, [x, y][j]? = some u → (w.alloc (.cells #[x, y] t)).cell? ((⟨w.heap.size, 0, none⟩ : Addr).add j) = some u := by
  intro j u hj
  match j, hj with
  | 0, hj =>
    simp at hj
    subst hj
    simp [Addr.add]
  | 1, hj =>
    simp at hj
    subst hj
    simp [Addr.add]
/-- The rows of out and of its tail lie apart. -/
def Apart (a b : Option Addr) : Prop := ∀ g, b = some g → ∀ g', a = some g' → g.block ≠ g'.block
/-- The tail, copied. -/
def TL (w wd : World) (vo : Value) (p7 : Option Addr) (n7 c7 : Nat) (r : List Fd) : Prop :=
  n7 = r.length ∧ wd.ownsRow (w.heap.size + 1) 117 2 (.slice p7 n7 c7) n7 (fc r) ∧ ∀ g, Value.ownBlock (.slice p7 n7 c7) = some g → vo.ownBlock ≠ some g
theorem TL.step {w wr wa w2 : World} {vo v' : Value} {n7 c7 : Nat} {p7 : Option Addr} {r : List Fd} (h : TL w wr vo p7 n7 c7 r) (ha : Turned [] wr wa) (hg : wa.grownBy w2 vo.ownBlock) (hat : v'.ownBlock = vo.ownBlock ∨ v'.ownBlock = some wa.heap.size) : TL w w2 v' p7 n7 c7 r := by
  obtain ⟨h1, h2, h3⟩ := h
  have h4 := ownsN_keep h2 ha
  refine ⟨h1, ownsN_grown h4 hg (fun g e => fun e2 => h3 g e2 e), fun g hgb e => ?_⟩
  rcases hat with e2 | e2
  · rw [e2] at e; exact h3 g hgb e
  · rw [e2] at e
    cases e
    have := (h2.lt _ hgb).2
    have := ha.size
    omega

/-- What impl.fields answers. -/
def IFPost (w : World) (all : List Fd) (e : Ending) (w' : World) : Prop :=
  ∃ v, e = .returned v ∧ Turned [] w w' ∧ w'.ownsRow w.heap.size 117 2 v all.length (fc all)

set_option maxRecDepth 100000 in
set_option maxHeartbeats 4000000 in
theorem implFields_any (w : World) (base b n : Nat) (D : DataW Value) (L : List Nat) (all : List Fd) (h : HM w base b n D (fun k => valsOf k all) L) (hs : Sorted all) (hn : all.length ≤ 1000000) :
    Calls Tryd.prog 68 #[.map (some b)] w (IFPost w all) := by
  obtain ⟨i0, hi, hz0, hz1, hz2⟩ := info_parts fld_row
  have HH := Lib.hid h
  have HO := Lib.hid h.own
  go_enter Tryd.func68, Tryd.ntmps68
  go_wp2_with (first
    | (at_range; refine wpList_range_own _ rfl _ 113 rfl _ _ keyed Tryd.underlying113 RSl b n D rfl HO.out ?_; intro w0 hrg0 hg0 hs0)
    | go_in)
  go_frame
  have H0 : Hid (FI w w0 b n D (Maps.has D) (Maps.size D) (.slice none 0 0) []) := ⟨(Turned.refl [] w).grown hg0 (fun x hx => by cases hx), h.own.lt, hrg0, World.ownsRow_nil _ _ _ _⟩
  clear hg0 hs0 hrg0 h HO
  go_loopg [3] (Maps.size D) (fun g u wr => ∃ left cnt, FI w wr b n D left cnt u (sel all (doneK D left)) ∧ cnt ≤ g)
  case atStart => exact ⟨_, _, by rw [sel_none (fun f _ => done_none D f.1)]; exact H0.out, Nat.le_refl _⟩
  case round =>
    clear H0
    obtain ⟨left, cnt, hr, hg⟩ := hrel
    obtain ⟨p, c, rfl, hpc, hcm, hpn, hps, hpcell⟩ := ownsN_slice hr.own
    have hsel := hs.filter (fun f => doneK D left f.1)
    have hdn := done_all (left := left) HH.out
    obtain ⟨o, ho⟩ : ∃ o, o = sel all (doneK D left) := ⟨_, rfl⟩
    have hol : o.length ≤ all.length := by rw [ho]; exact List.length_filter_le _ _
    have HSO : Hid (Sorted o) := by rw [ho]; exact hsel
    rw [← ho] at hr hpc hpn hpcell ⊢
    have HR := Lib.hid hr
    have HE := Lib.hid ho
    obtain ⟨G, hG⟩ : ∃ G, G = gk := ⟨_, rfl⟩
    have HG : Hid (cnt ≤ G ∧ G = gk) := ⟨by omega, hG⟩
    clear hg hsel hr ho hpcell hps hG
    go_wp2_with (first
      | (at_next; refine wpList_next_ranges _ rfl _ rfl _ keyed RSl Value.string mkS (fun _ _ => mkK_inv) (fun _ _ => mkS_inv) b w.heap.size n D left cnt rfl HR.out.rg ?_ ?_)
      | go_in)
    · intro _ hl0
      have HF : Hid (IFPost w all (.returned (.slice p o.length c)) wr) := by
        have h1 := hdn hl0
        rw [← HE.out] at h1
        subst h1
        have h2 := HR.out.own
        exact ⟨_, rfl, HR.out.tu, ownsN_mono h2 (Nat.le_succ _)⟩
      clear hl0 hdn HR HE HG
      go_wp2_with fail
      go_ret
      exact HF.out
    · intro s pl nl cl kl' y1 y2 w1 cnt1 hkey hlk hv hat hrg1 hlt hg1 hs1 hen
      simp only [mkS] at hen hv ⊢
      obtain ⟨s', hse, rfl, hss⟩ := WideMaps.string_of_keyOf Tryd.underlying9 hkey
      injection hse with hse
      subst hse
      have hy : (DataW.held (Value.slice pl nl cl), ([] : List MemPlace)) = (y1, y2) := Option.some.inj hv
      injection hy with hy1 hy2
      subst hy1
      have hlook : look D (lst s) = .slice pl nl cl := look_at hat
      have hsv := HH.out.sv (lst s)
      rw [hlook] at hsv
      obtain ⟨pl', cl', hfe, hl0, hlc⟩ := hsv.form
      injection hfe with e1 e2 e3
      subst e1 e2 e3
      have HDS := Lib.hid (done_step (D := D) (left := left) (k := lst s) (Maps.has_true_of_atKey hat) hlk)
      have HF1 : Hid (FI w w1 b n D (fun z => left z && !z.sameKey (kl (lst s))) cnt1 (.slice p o.length c) o) := HR.out.next hg1 hrg1
      obtain ⟨_, _, hfe, hj1, hj2, hj3, hps, hpcell⟩ := ownsN_slice HF1.out.own
      injection hfe with e1 _ e3
      subst e1 e3
      have HPC := Lib.hid hpcell
      have HPS := Lib.hid hps
      have HSV := Lib.hid hsv
      have HLT : Hid (cnt1 < cnt) := hlt
      have HKV : Hid (tv (lst s) = .string s) := tv_of s
      clear hkey hlk hv hat hrg1 hlt hg1 hs1 hy2 hlook hsv hps hpcell hj1 hj2 hj3 hdn HR hlc hl0
      go_upto_block 2 with fail
      go_cut [6] (fun v wc => wc = w1 ∧ ∃ m : Nat, v = .int .i64 (m : Int) ∧ m ≤ o.length ∧ o.take m = o.filter (fun f => !gtL f.1 (lst s)) ∧ o.drop m = o.filter (fun f => gtL f.1 (lst s)))
      case first =>
        go_wp2_with fail
        go_loopg [6] o.length (fun g v wr2 => ∃ m : Nat, v = .int .i64 (m : Int) ∧ wr2 = w1 ∧ m ≤ o.length ∧ (∀ f, f ∈ o.drop m → gtL f.1 (lst s) = true) ∧ m ≤ g)
        case atStart => exact ⟨o.length, rfl, rfl, Nat.le_refl _, by simp, Nat.le_refl _⟩
        case round =>
          obtain ⟨m, rfl, rfl, hm, hgt, hg⟩ := hrel
          cases m with
          | zero =>
            have HX := Lib.hid (cut_at HSO.out hgt (fun f h0 => absurd rfl h0) hm)
            clear hgt
            go_wp2_with fail
            go_meet
            exact ⟨rfl, 0, rfl, Nat.zero_le _, HX.out.1, HX.out.2⟩
          | succ q =>
            obtain ⟨f, hf⟩ : ∃ f, o[q]? = some f := ⟨_, List.getElem?_eq_getElem (by omega)⟩
            obtain ⟨g0, rfl, hc0⟩ := HPC.out _ _ (fc_at hf).1
            unfold tv at hc0
            have HGT := Lib.hid hgt
            have RG := fun W => run_gt (P := Tryd.prog) 9 f.1 s W
            have HQ : Hid (q ≤ gk - 1 ∧ 0 < gk ∧ q + 1 ≤ o.length) := ⟨by omega, by omega, hm⟩
            have HFf := Lib.hid hf
            clear hgt hf
            cases hgv : gtL f.1 (lst s)
            · rw [hgv] at RG
              have HX := Lib.hid (cut_at HSO.out HGT.out (fun z _ hz => by
                rw [Nat.add_sub_cancel, HFf.out] at hz
                exact Option.some.inj hz ▸ hgv) hm)
              clear hgv
              go_wp2_with fail
              go_meet
              exact ⟨rfl, q + 1, rfl, HQ.out.2.2, HX.out.1, HX.out.2⟩
            · rw [hgv] at RG
              have HX : Hid (∀ z, z ∈ o.drop q → gtL z.1 (lst s) = true) := by
                intro z hz
                have h1 := HQ.out.2.2
                rw [List.drop_eq_getElem_cons (by omega)] at hz
                rcases List.mem_cons.1 hz with rfl | hz
                · have h2 := HFf.out
                  rw [List.getElem?_eq_getElem (by omega)] at h2
                  rw [Option.some.inj h2]; exact hgv
                · exact HGT.out z hz
              clear hgv
              go_wp2_with fail
              go_roundg (gk - 1)
              case rel => exact ⟨q, by go_num, rfl, by have := HQ.out; omega, HX.out, HQ.out.1⟩
              case measure => have := HQ.out; omega
      case rest =>
        obtain ⟨rfl, m, rfl, hm, htk, hdr⟩ := hcut
        have HTK : Hid (o.take m = o.filter (fun f => !gtL f.1 (lst s)) ∧ o.drop m = o.filter (fun f => gtL f.1 (lst s))) := ⟨htk, hdr⟩
        have HB0 : Hid (w.heap.size + 1 ≤ wc.heap.size) := by
          have := HF1.out.rg.lt
          show _ ≤ _; omega
        have HTL : Hid (∀ v' w', w'.ownsRow (w.heap.size + 1) 117 2 v' (0 + (o.length - m)) ([] ++ fc (o.drop m)) → wc.grownBy w' (Value.ownBlock (.slice none 0 0)) → (v'.ownBlock = Value.ownBlock (.slice none 0 0) ∨ v'.ownBlock = some wc.heap.size) →
            FI w w' b n D (fun z => left z && !z.sameKey (kl (lst s))) cnt1 (.slice p o.length c) o ∧ ∃ p7 c7, v' = .slice p7 (o.length - m) c7 ∧ TL w w' (.slice p o.length c) p7 (o.length - m) c7 (o.drop m)) := by
          intro v' w' ho hg hat
          rw [Nat.zero_add, List.nil_append] at ho
          have hT : Turned [] wc w' := ⟨hg.os, hg.tape, hg.output, hg.size, fun k hk _ => hg.block k hk (by simp [Value.ownBlock])⟩
          obtain ⟨p7, c7, rfl, _⟩ := ownsN_slice ho
          refine ⟨HF1.out.same hT, p7, c7, rfl, by rw [List.length_drop], ho, fun g hgb e => ?_⟩
          rcases hat with e2 | e2
          · rw [e2] at hgb; cases hgb
          · rw [e2] at hgb
            cases hgb
            have := (HF1.out.own.lt _ e).2
            omega
        have HLN : Hid (0 + (o.length - m) ≤ maxLen ∧ (0 + (o.length - m)) * 32 ≤ 140737488355328) := by
          refine ⟨by unfold maxLen; omega, by omega⟩
        have HFL : Hid ((fc (o.drop m)).length = (o.length - m) * 2) := by show _ = _; rw [fc_length, List.length_drop]
        clear htk hdr
        go_upto_region 8 with fail
        go_cut [7] (fun u7 wd => FI w wd b n D (fun z => left z && !z.sameKey (kl (lst s))) cnt1 (.slice p o.length c) o ∧ ∃ p7 c7, u7 = .slice p7 (o.length - m) c7 ∧ TL w wd (.slice p o.length c) p7 (o.length - m) c7 (o.drop m))
        case first =>
          rcases p with _ | a
          · obtain ⟨h1, rfl⟩ := hpn rfl
            obtain rfl : m = 0 := by omega
            have ho : o = [] := List.eq_nil_of_length_eq_zero h1
            subst ho
            go_wp2_with (first
              | (at_builtin; refine wpList_append_cells _ rfl (.const (.slice none 0 0)) (.tmp 35) 60 rfl (w.heap.size + 1) 117 i0 (.agg #[.string ⟨#[]⟩, .string ⟨#[]⟩]) 2 32 Tryd.underlying60 hi hz0 hz1 hz2 rfl (by decide) _ 0 [] rfl (World.ownsRow_nil _ _ _ _) _ 0 _ [] rfl rfl (fun _ => ⟨rfl, rfl⟩) (fun ad h => by cases h) (fun u hu => by cases hu) (by decide) (by decide) HB0.out ?_; intro v' w' hown hgrow hat; have HY := Lib.hid (HTL.out v' w' hown hgrow hat); clear hown hgrow hat HTL)
              | go_in)
            obtain ⟨q1, p7, c7, rfl, q2⟩ := HY.out
            have HZ := Lib.hid (⟨q1, p7, c7, rfl, q2⟩ : FI w w' b n D (fun z => left z && !z.sameKey (kl (lst s))) cnt1 (.slice none 0 0) [] ∧ ∃ p8 c8, Value.slice p7 0 c7 = .slice p8 0 c8 ∧ TL w w' (.slice none 0 0) p8 0 c8 [])
            clear HY q1 q2
            go_wp2_with fail
            go_meet
            exact HZ.out
          · obtain ⟨g0, rfl, hg1, hg2⟩ := HPS.out a rfl
            by_cases hcm2 : c = m
            · obtain rfl : c = o.length := by omega
              obtain rfl : m = o.length := by omega
              rw [Nat.sub_self, List.drop_length, fc_nil] at HTL
              go_wp2_with (first
                | (at_builtin; refine wpList_append_cells _ rfl (.const (.slice none 0 0)) (.tmp 35) 60 rfl (w.heap.size + 1) 117 i0 (.agg #[.string ⟨#[]⟩, .string ⟨#[]⟩]) 2 32 Tryd.underlying60 hi hz0 hz1 hz2 rfl (by decide) _ 0 [] rfl (World.ownsRow_nil _ _ _ _) _ 0 _ [] rfl rfl (fun h => by cases h) (fun ad _ j u hu => by simp at hu) (fun u hu => by cases hu) (by decide) (by decide) HB0.out ?_; intro v' w' hown hgrow hat; have HY := Lib.hid (HTL.out v' w' hown hgrow hat); clear hown hgrow hat HTL)
                | go_in)
              obtain ⟨q1, p7, c7, rfl, q2⟩ := HY.out
              have HZ := Lib.hid (And.intro q1 q2)
              clear HY q1 q2
              go_wp2_with fail
              go_meet
              exact ⟨HZ.out.1, p7, c7, by rw [Nat.sub_self], by rw [Nat.sub_self, List.drop_length]; exact HZ.out.2⟩
            · have HNW : Hid (∀ j u, (fc (o.drop m))[j]? = some u → wc.cell? ((⟨g0, m * 2, none⟩ : Addr).add j) = some u) := by
                intro j u hj
                rw [← fc_drop, List.getElem?_drop] at hj
                obtain ⟨g', hge, hc⟩ := HPC.out _ _ hj
                injection hge with hge
                injection hge with hge
                subst hge
                rw [Addr.add_lit]
                exact hc
              go_wp2_with (first
                | (at_builtin; refine wpList_append_cells _ rfl (.const (.slice none 0 0)) (.tmp 35) 60 rfl (w.heap.size + 1) 117 i0 (.agg #[.string ⟨#[]⟩, .string ⟨#[]⟩]) 2 32 Tryd.underlying60 hi hz0 hz1 hz2 rfl (by decide) _ 0 [] rfl (World.ownsRow_nil _ _ _ _) _ (o.length - m) _ (fc (o.drop m)) rfl HFL.out (fun h => by cases h) (fun ad h => by cases h; exact HNW.out) (fc_one _) HLN.out.1 HLN.out.2 HB0.out ?_; intro v' w' hown hgrow hat; have HY := Lib.hid (HTL.out v' w' hown hgrow hat); clear hown hgrow hat HTL)
                | go_in)
              obtain ⟨q1, p7, c7, rfl, q2⟩ := HY.out
              have HZ := Lib.hid (And.intro q1 q2)
              clear HY q1 q2
              go_wp2_with fail
              go_meet
              exact ⟨HZ.out.1, p7, c7, rfl, HZ.out.2⟩
        case rest =>
          obtain ⟨hF2, p7, c7, rfl, hTL⟩ := hcut
          have hF3 := hF2.cut hm
          obtain ⟨vs, hvs⟩ : ∃ vs, vs = valsOf (lst s) all := ⟨_, rfl⟩
          have hvl : vs.length ≤ all.length := by rw [hvs]; exact vals_length _ _
          have HVS : Hid (vs = valsOf (lst s) all) := hvs
          rw [← hvs] at HSV ⊢
          have hIL : FI w wc b n D (fun z => left z && !z.sameKey (kl (lst s))) cnt1 (.slice p m c) (o.take m ++ (vs.take 0).map (fun v => (lst s, v))) := by simpa using hF3
          have hTL0 : TL w wc (.slice p m c) p7 (o.length - m) c7 (o.drop m) := by
            obtain ⟨t1, t2, t3⟩ := hTL
            exact ⟨t1, t2, fun g hg e => t3 g hg (by cases p <;> exact e)⟩
          have HTL := Lib.hid hTL0
          have HF3 := Lib.hid hIL
          have HOL : Hid (o.length ≤ 1000000 ∧ vs.length ≤ 1000000 ∧ m ≤ o.length) := ⟨by omega, by omega, hm⟩
          clear hF2 hF3 hTL HPC HPS HF1 HB0 HFL HLN hvs hIL hTL0 hcm hpn hvl hol
          go_wp2_with fail
          go_loopg [3, 42] vs.length (fun g u3 u42 wr2 => ∃ j : Nat, u42 = .int .i64 (j : Int) ∧ j ≤ vs.length ∧ FI w wr2 b n D (fun z => left z && !z.sameKey (kl (lst s))) cnt1 u3 (o.take m ++ (vs.take j).map (fun v => (lst s, v))) ∧ TL w wr2 u3 p7 (o.length - m) c7 (o.drop m) ∧ vs.length - j ≤ g)
          case atStart => exact ⟨0, rfl, Nat.zero_le _, HF3.out, HTL.out, Nat.le_refl _⟩
          case round =>
            clear HF3 HTL
            obtain ⟨j, rfl, hj, hF4, hTL4, hg⟩ := hrel
            obtain ⟨oj, hoj⟩ : ∃ oj, oj = o.take m ++ (vs.take j).map (fun v => (lst s, v)) := ⟨_, rfl⟩
            rw [← hoj] at hF4
            have hojl : oj.length ≤ 2000000 := by
              rw [hoj, List.length_append, List.length_map, List.length_take, List.length_take]
              have := HOL.out
              omega
            have HOJ := Lib.hid hoj
            obtain ⟨p4, c4, rfl, hq1, hq2, hq3, hq4, hq5⟩ := ownsN_slice hF4.own
            have HJ : Hid (vs.length - (j + 1) ≤ gk - 1 ∧ (j < vs.length → 0 < gk)) := ⟨by omega, fun _ => by omega⟩
            have HB4 : Hid (∀ x, w.heap.size + 1 ≤ (wr.alloc x).heap.size) := fun x => by
              have := hF4.rg.lt
              simp; omega
            have HTL4 := Lib.hid hTL4
            have HF4 := Lib.hid hF4
            have HLN : Hid (oj.length + 1 ≤ maxLen ∧ (oj.length + 1) * 32 ≤ 140737488355328) := ⟨by unfold maxLen; omega, by omega⟩
            clear hg hq1 hq2 hq3 hq4 hq5 hojl hTL4 hoj
            by_cases hlt : j < vs.length
            · obtain ⟨z, hz⟩ : ∃ z, vs[j]? = some z := ⟨_, List.getElem?_eq_getElem hlt⟩
              obtain ⟨_, _, hfe, hl0, hlc⟩ := (HSV.out.turned hF4.tu (by simp)).form
              injection hfe with e1 _ e3
              subst e1 e3
              obtain ⟨gl, ol, rfl, _, hc⟩ := hlc j z hz
              unfold tv at hc
              have d0 : (j : Int) < (vs.length : Int) := by omega
              have d1 : (0 : Int) ≤ (j : Int) := by omega
              have e1 : IntKind.i64.wrap ((j : Int) + 1) = (j : Int) + 1 := IntWalk.i64_in _ (by have := HOL.out; omega)
              have HN : Hid (∀ v' w', w'.ownsRow (w.heap.size + 1) 117 2 v' (oj.length + 1) (fc oj ++ [.string s, .string ⟨z.toArray⟩]) → (wr.alloc (.cells #[.string s, .string ⟨z.toArray⟩] 117)).grownBy w' (Value.ownBlock (.slice p4 oj.length c4)) →
                  (v'.ownBlock = Value.ownBlock (.slice p4 oj.length c4) ∨ v'.ownBlock = some (wr.alloc (.cells #[.string s, .string ⟨z.toArray⟩] 117)).heap.size) →
                  FI w w' b n D (fun z => left z && !z.sameKey (kl (lst s))) cnt1 v' (o.take m ++ (vs.take (j + 1)).map (fun v => (lst s, v))) ∧ TL w w' v' p7 (o.length - m) c7 (o.drop m)) := by
                intro v' w' ho hgr hat
                have e : o.take m ++ (vs.take (j + 1)).map (fun v => (lst s, v)) = oj ++ [(lst s, z)] := by
                  rw [HOJ.out, List.take_add_one, hz, List.map_append, List.append_assoc]; rfl
                rw [e]
                refine ⟨HF4.out.grow ((Turned.refl [] wr).alloc _) hgr ?_, HTL4.out.step ((Turned.refl [] wr).alloc _) hgr hat⟩
                rw [fc_append, List.length_append, List.length_singleton]
                have : fc [(lst s, z)] = [.string s, .string ⟨z.toArray⟩] := by show [tv (lst s), tv z] = _; rw [tv_of]; rfl
                rw [this]
                exact ho
              have HOW : Hid ((wr.alloc (.cells #[.string s, .string ⟨z.toArray⟩] 117)).ownsRow (w.heap.size + 1) 117 2 (.slice p4 oj.length c4) oj.length (fc oj)) := HF4.out.own.alloc _
              clear hF4 hlc hl0 hz
              go_wp2_with (first
                | (at_builtin; refine wpList_append_own_at _ rfl (.tmp 46) (.tmp 50) 60 rfl (w.heap.size + 1) 117 i0 (.agg #[.string ⟨#[]⟩, .string ⟨#[]⟩]) 2 32 Tryd.underlying60 hi hz0 hz1 hz2 rfl (by decide) _ oj.length (fc oj) rfl HOW.out ⟨wr.heap.size, 0, none⟩ 1 1 [.string s, .string ⟨z.toArray⟩] rfl rfl (cell_two_new _ _ _ _) (by simp [Value.oneCell']) HLN.out.1 HLN.out.2 (HB4.out _) ?_; intro v' w5 hown hgrow _ hat; have HY := Lib.hid (HN.out v' w5 hown hgrow hat); clear hown hgrow hat HN HOW)
                | go_in)
              go_roundg (gk - 1)
              case rel => exact ⟨j + 1, rfl, hlt, HY.out.1, HY.out.2, HJ.out.1⟩
              case measure => exact Nat.sub_lt (HJ.out.2 hlt) Nat.one_pos
            · obtain rfl : j = vs.length := by omega
              have d0 : ¬ (vs.length : Int) < (vs.length : Int) := by omega
              obtain ⟨t1, t2, t3⟩ := HTL4.out
              obtain ⟨_, _, hfe, hq1, hq2, hq3, hq4, hq5⟩ := ownsN_slice t2
              injection hfe with e1 _ e3
              subst e1 e3
              have HN : Hid (∀ v' w', w'.ownsRow (w.heap.size + 1) 117 2 v' (oj.length + (o.length - m)) (fc oj ++ fc (o.drop m)) → wr.grownBy w' (Value.ownBlock (.slice p4 oj.length c4)) →
                  FI w w' b n D (fun z => left z && !z.sameKey (kl (lst s))) cnt1 v' (sel all (doneK D (fun z => left z && !z.sameKey (kl (lst s)))))) := by
                intro v' w' ho hgr
                have e : sel all (doneK D (fun z => left z && !z.sameKey (kl (lst s)))) = oj ++ o.drop m := by
                  rw [← sel_step hs HDS.out.1 HDS.out.2.1 HDS.out.2.2, ← HE.out, ← HVS.out]
                  unfold insG
                  rw [← HTK.out.1, ← HTK.out.2, HOJ.out, List.take_of_length_le (Nat.le_refl _), List.append_assoc]
                rw [e]
                refine HF4.out.grow (Turned.refl _ _) hgr ?_
                rw [fc_append, List.length_append, List.length_drop]
                exact ho
              have HTC : Hid ((fc (o.drop m)).length = (o.length - m) * 2 ∧ (p7 = none → o.length - m = 0 ∧ c7 = 0) ∧ (∀ ad, p7 = some ad → ∀ j u, (fc (o.drop m))[j]? = some u → wr.cell? (ad.add j) = some u)) := by
                refine ⟨by rw [fc_length, List.length_drop], hq3, fun ad had j u hj => ?_⟩
                obtain ⟨g', he, hc⟩ := hq5 j u hj
                rw [had] at he
                injection he with he
                subst he
                rw [Addr.add_lit, Nat.zero_add]
                exact hc
              have HLM : Hid (oj.length + (o.length - m) ≤ maxLen ∧ (oj.length + (o.length - m)) * 32 ≤ 140737488355328 ∧ w.heap.size + 1 ≤ wr.heap.size) := by
                have h1 := HOL.out
                have h2 := HF4.out.rg.lt
                have h3 : oj.length ≤ 2000000 := by
                  rw [HOJ.out, List.length_append, List.length_map, List.length_take, List.length_take]
                  omega
                refine ⟨by unfold maxLen; omega, by omega, by omega⟩
              clear hF4 t2 t3 hq1 hq2 hq3 hq4 hq5 t1
              go_wp2_with (first
                | (at_builtin; refine wpList_append_cells _ rfl (.tmp 53) (.tmp 54) 60 rfl (w.heap.size + 1) 117 i0 (.agg #[.string ⟨#[]⟩, .string ⟨#[]⟩]) 2 32 Tryd.underlying60 hi hz0 hz1 hz2 rfl (by decide) _ oj.length (fc oj) rfl HF4.out.own p7 (o.length - m) c7 (fc (o.drop m)) rfl HTC.out.1 HTC.out.2.1 HTC.out.2.2 (fc_one _) HLM.out.1 HLM.out.2.1 HLM.out.2.2 ?_; intro v' w5 hown hgrow hat; have HY := Lib.hid (HN.out v' w5 hown hgrow); clear hown hgrow hat HN)
                | go_in)
              go_roundg (G - 1)
              case rel => exact ⟨_, cnt1, HY.out, by have := HG.out; have := HLT.out; omega⟩
              case measure => have := HG.out; have := HLT.out; omega
end Go.Proofs.YthobojpbdeepoaaDoor
