/-
  Calls of a header one behind the other: what they leave, and the contract of impl.Header.
-/
import Derived.Test.YtdhdcgliefjonaaSameSV
import Derived.Test.YtdhdcgliefjonaaImplFields
namespace Go.Proofs.Ytdhdcgliefjonaa
open Go.RowKit Go.ChangeMaps Go.MapKept Go.WideShapes

/-- One call of a header. -/
structure OpD where
  what : Int
  key : ByteArray
  val : ByteArray
/-- The fields behind it. -/
def hstep (all : List Fd) (o : OpD) : List Fd :=
  if o.what = 0 then insF all (canon (lst o.key), lst o.val) else if o.what = 1 then insF (without (canon (lst o.key)) all) (canon (lst o.key), lst o.val) else if o.what = 2 then without (canon (lst o.key)) all else all
/-- What it answers. -/
def hres (all : List Fd) (o : OpD) : List (List UInt8) :=
  if o.what = 3 then [(valsOf (canon (lst o.key)) all).headD []] else if o.what = 4 then valsOf (canon (lst o.key)) all else []
def hall (ops : List OpD) (m : Nat) : List Fd := (ops.take m).foldl hstep []
theorem hall_zero (ops : List OpD) : hall ops 0 = [] := rfl
theorem hall_succ {ops : List OpD} {m : Nat} {o : OpD} (h : ops[m]? = some o) : hall ops (m + 1) = hstep (hall ops m) o := by
  unfold hall
  rw [List.take_add_one, h, List.foldl_append]; rfl
theorem without_sorted {all : List Fd} (h : Sorted all) (k : List UInt8) : Sorted (without k all) := h.filter _
theorem hstep_sorted {all : List Fd} (h : Sorted all) (o : OpD) : Sorted (hstep all o) := by
  unfold hstep
  split
  · exact ins_sorted h _ _
  · split
    · exact ins_sorted (without_sorted h _) _ _
    · split
      · exact without_sorted h _
      · exact h
theorem hall_sorted (ops : List OpD) : ∀ m, Sorted (hall ops m)
  | 0 => Sorted.nil
  | m + 1 => by
    cases h : ops[m]? with
    | none =>
      have : hall ops (m + 1) = hall ops m := by unfold hall; rw [List.take_add_one, h]; simp
      rw [this]; exact hall_sorted ops m
    | some o => rw [hall_succ h]; exact hstep_sorted (hall_sorted ops m) o
theorem without_length (k : List UInt8) (l : List Fd) : (without k l).length ≤ l.length := List.length_filter_le _ _
theorem hstep_length (all : List Fd) (o : OpD) : (hstep all o).length ≤ all.length + 1 := by
  unfold hstep
  have h1 := without_length (canon (lst o.key)) all
  split
  · unfold insF; rw [ins_length]; simp
  · split
    · unfold insF; rw [ins_length]; simp; omega
    · split
      · omega
      · omega
theorem hall_length (ops : List OpD) : ∀ m, (hall ops m).length ≤ m
  | 0 => Nat.le_refl _
  | m + 1 => by
    cases h : ops[m]? with
    | none =>
      have : hall ops (m + 1) = hall ops m := by unfold hall; rw [List.take_add_one, h]; simp
      rw [this]
      have := hall_length ops m
      omega
    | some o =>
      rw [hall_succ h]
      have := hstep_length (hall ops m) o
      have := hall_length ops m
      omega
/-! the fields of each key -/
theorem add_vals (all : List Fd) (k v : List UInt8) : addF (fun x => valsOf x all) k v = fun x => valsOf x (insF all (k, v)) := by
  funext x
  unfold addF insF
  split
  · subst_vars; rw [vals_ins_same]
  · rename_i h; rw [vals_ins_other _ h]
theorem set_vals (all : List Fd) (k v : List UInt8) : setF (fun x => valsOf x all) k v = fun x => valsOf x (insF (without k all) (k, v)) := by
  funext x
  unfold setF insF
  split
  · subst_vars; rw [vals_ins_same, vals_without_same]; rfl
  · rename_i h; rw [vals_ins_other _ h, vals_without_other _ h]
theorem del_vals (all : List Fd) (k : List UInt8) : delF (fun x => valsOf x all) k = fun x => valsOf x (without k all) := by
  funext x
  unfold delF
  split
  · subst_vars; rw [vals_without_same]
  · rename_i h; rw [vals_without_other _ h]

/-- Calls that came in. -/
def OpsAt (w : World) (pa : Option Addr) (ops : List OpD) : Prop := ∀ i o, ops[i]? = some o → ∃ b off, pa = some ⟨b, off, none⟩ ∧ b < w.heap.size ∧
  w.cell? ⟨b, off + i * 3, none⟩ = some (.int .i64 o.what) ∧ w.cell? ⟨b, off + i * 3 + 1, none⟩ = some (.string o.key) ∧ w.cell? ⟨b, off + i * 3 + 2, none⟩ = some (.string o.val)
theorem OpsAt.keep {w w' : World} {pa : Option Addr} {ops : List OpD} (h : OpsAt w pa ops) (ht : Turned [] w w') : OpsAt w' pa ops := fun i o ho => by
  obtain ⟨b, off, h1, h2, h3, h4, h5⟩ := h i o ho
  exact ⟨b, off, h1, Nat.lt_of_lt_of_le h2 ht.size, (ht.cell h2 (by simp)).trans h3, (ht.cell h2 (by simp)).trans h4, (ht.cell h2 (by simp)).trans h5⟩

/-- What a look at sizes answers. -/
def FitPost (w : World) (C : Prop) (e : Ending) (w' : World) : Prop := Turned [] w w' ∧ ∃ b, e = .returned (.bool b) ∧ (b = true → C)

set_option maxRecDepth 100000 in
set_option maxHeartbeats 2000000 in
theorem fits4_any (a : Int) (k v : ByteArray) (w : World) :
    Calls Try.prog 30 #[.agg #[.int .i64 a, .string k, .string v]] w (FitPost w (k.size ≤ 2147483647 ∧ v.size ≤ 2147483647)) := by
  have HT : Hid (∀ x, Turned [] w (w.alloc x)) := fun x => (Turned.refl [] w).alloc x
  by_cases h1 : 2147483647 < k.size
  · have b1 : (2147483647 : Int) < (k.size : Int) := by omega
    go_enter Try.func30, Try.ntmps30
    go_wp2_with fail
    go_ret
    exact ⟨HT.out _, false, rfl, fun h => by cases h⟩
  · have b1 : ¬ (2147483647 : Int) < (k.size : Int) := by omega
    by_cases h2 : 2147483647 < v.size
    · have b2 : (2147483647 : Int) < (v.size : Int) := by omega
      go_enter Try.func30, Try.ntmps30
      go_wp2_with fail
      go_ret
      exact ⟨HT.out _, false, rfl, fun h => by cases h⟩
    · have b2 : ¬ (2147483647 : Int) < (v.size : Int) := by omega
      have HF : Hid (k.size ≤ 2147483647 ∧ v.size ≤ 2147483647) := ⟨by omega, by omega⟩
      go_enter Try.func30, Try.ntmps30
      go_wp2_with fail
      go_ret
      exact ⟨HT.out _, true, rfl, fun _ => HF.out⟩

set_option maxRecDepth 100000 in
set_option maxHeartbeats 2000000 in
theorem fits3_any (pa : Option Addr) (ops : List OpD) (cap : Nat) (w : World) (h : OpsAt w pa ops) :
    Calls Try.prog 18 #[.slice pa ops.length cap] w (FitPost w (ops.length ≤ 2147483647 ∧ ∀ o, o ∈ ops → o.key.size ≤ 2147483647 ∧ o.val.size ≤ 2147483647)) := by
  by_cases hn : 2147483647 < ops.length
  · have b1 : (2147483647 : Int) < (ops.length : Int) := by omega
    clear h
    go_enter Try.func18, Try.ntmps18
    go_wp2_with fail
    go_ret
    exact ⟨Turned.refl _ _, false, rfl, fun h => by cases h⟩
  have b1 : ¬ (2147483647 : Int) < (ops.length : Int) := by omega
  have HP := Lib.hid h
  have HN : Hid (ops.length ≤ 2147483647) := by show _ ≤ _; omega
  clear h hn
  go_enter Try.func18, Try.ntmps18
  go_wp2_with fail
  go_loopg [10] ops.length (fun g i wr => ∃ m : Nat, i = .int .i64 (m : Int) ∧ m ≤ ops.length ∧ Turned [] w wr ∧ (∀ x, x ∈ ops.take m → x.key.size ≤ 2147483647 ∧ x.val.size ≤ 2147483647) ∧ ops.length - m ≤ g)
  case atStart => exact ⟨0, rfl, Nat.zero_le _, Turned.refl _ _, (fun x hx => by simp at hx), Nat.le_refl _⟩
  case round =>
    obtain ⟨m, rfl, hm, ht, hx, hg⟩ := hrel
    have HX := Lib.hid hx
    by_cases hlt : m < ops.length
    · obtain ⟨o, hc⟩ : ∃ o, ops[m]? = some o := ⟨_, List.getElem?_eq_getElem hlt⟩
      obtain ⟨b, off, rfl, _, c1, c2, c3⟩ := HP.out.keep ht m o hc
      have d0 : (m : Int) < (ops.length : Int) := by omega
      have d1 : (0 : Int) ≤ (m : Int) := by omega
      have e1 : IntKind.i64.wrap ((m : Int) + 1) = (m : Int) + 1 := IntWalk.i64_in _ (by have := HN.out; omega)
      have HTk : Hid (ops.take (m + 1) = ops.take m ++ [o]) := by show _ = _; rw [List.take_add_one, hc]; rfl
      have HG : Hid (ops.length - (m + 1) ≤ gk - 1 ∧ 0 < gk ∧ m + 1 ≤ ops.length) := ⟨by omega, by omega, by omega⟩
      have HT := Lib.hid ht
      have F4 := fun W => fits4_any o.what o.key o.val W
      clear hx hc ht hg
      go_wp2_with fail
      go_at_call 30
      refine (F4 _).mono ?_
      rintro e w2 ⟨ht2, bb, rfl, hbb⟩
      have HT2 : Hid (Turned [] w w2) := (HT.out.alloc _).trans ht2
      cases bb
      · clear hbb ht2 HT
        go_wp2_with fail
        go_ret
        exact ⟨HT2.out, false, rfl, fun h => by cases h⟩
      · have HL := Lib.hid (hbb rfl)
        clear hbb ht2 HT
        go_wp2_with fail
        go_roundg (gk - 1)
        case rel =>
          refine ⟨m + 1, rfl, HG.out.2.2, HT2.out, ?_, HG.out.1⟩
          rw [HTk.out]
          intro y hy
          rcases List.mem_append.1 hy with hy | hy
          · exact HX.out y hy
          · rw [List.mem_singleton.1 hy]; exact HL.out
        case measure => have := HG.out; omega
    · have d0 : ¬ (m : Int) < (ops.length : Int) := by omega
      have HF : Hid (∀ x, x ∈ ops → x.key.size ≤ 2147483647 ∧ x.val.size ≤ 2147483647) := by
        have h1 := HX.out
        rw [List.take_of_length_le (by omega)] at h1
        exact h1
      have HT := Lib.hid ht
      clear hx ht
      go_wp2_with fail
      go_ret
      exact ⟨HT.out, true, rfl, fun _ => ⟨HN.out, HF.out⟩⟩

/-! ### impl.Header -/
theorem strs_row : (Try.prog.info? 38).map (fun i => (i.zero, i.size, i.bytes)) = some (some (.slice none 0 0), 1, 24) := by kernel_rfl

/-- Where the loop stands: n bounds the header's texts, all are its fields; m answers are laid. -/
structure HI (w wr : World) (n : Nat) (all : List Fd) (ops : List OpD) (m : Nat) (rv : Value) (D : DataW Value) (L : List Nat) (xs : List Value) : Prop where
  tu : Turned [] w wr
  hm : HM wr (w.heap.size + 1) w.heap.size n D (fun k => valsOf k all) L
  own : wr.ownsRow (w.heap.size + 1) 38 1 rv m xs
  res : ∀ i x, xs[i]? = some x → ∃ o, ops[i]? = some o ∧ SV wr (w.heap.size + 1) x (hres (hall ops i) o)
  s1 : ∀ g, rv.ownBlock = some g → g ∉ L ∧ ∀ k, (look D k).ownBlock ≠ some g
  s2 : ∀ x, x ∈ xs → ∀ g, x.ownBlock = some g → g ∉ L ∧ rv.ownBlock ≠ some g
section
variable {w wr w1 w2 w3 wa w5 : World} {n m : Nat} {all all' : List Fd} {ops : List OpD} {rv rv' x : Value} {D : DataW Value} {L : List Nat} {xs : List Value}
theorem HI.keep (h : HI w wr n all ops m rv D L xs) (ht : Turned [] wr w1) : HI w w1 n all ops m rv D L xs :=
  ⟨h.tu.trans ht, h.hm.keepNew ht, ownsN_keep h.own ht, fun i x hx => by
    obtain ⟨o, ho, hs⟩ := h.res i x hx
    exact ⟨o, ho, hs.turned ht (by simp)⟩, h.s1, h.s2⟩
theorem HI.up (h : HI w wr n all ops m rv D L xs) : HI w wr (n + 1) all ops m rv D L xs :=
  ⟨h.tu, ⟨h.hm.own.mono (Nat.le_succ n), h.hm.sv, h.hm.apart, h.hm.room, h.hm.lower, fun k => Nat.le_succ_of_le (h.hm.cnt k), h.hm.ll⟩, h.own, h.res, h.s1, h.s2⟩
theorem HI.xlt (h : HI w wr n all ops m rv D L xs) (hx : x ∈ xs) : ∀ g, x.ownBlock = some g → w.heap.size + 1 ≤ g ∧ g < wr.heap.size := by
  obtain ⟨i, hi⟩ := List.getElem?_of_mem hx
  obtain ⟨o, _, hs⟩ := h.res i x hi
  exact hs.lt
/-- A call that turns the header. -/
theorem HI.op {F' : List UInt8 → List (List UInt8)} {e : Ending} (h : HI w wr n all ops m rv D L xs) (h1 : Turned [] wr w1) (hp : PutPost w1 (w.heap.size + 1) w.heap.size n D F' L e w2) (hF : F' = fun x => valsOf x all') :
    e = .returned (.tuple #[]) ∧ ∃ D' L', HI w w2 (n + 1) all' ops m rv D' L' xs := by
  subst hF
  obtain ⟨he, D', L', p1, p2, p3, p4⟩ := hp
  have hk := h.keep h1
  have hnb : ∀ g, rv.ownBlock = some g → g ∉ w.heap.size :: L := fun g hg hm => by
    rcases List.mem_cons.1 hm with rfl | hm
    · have := (hk.own.lt _ hg).1; omega
    · exact (hk.s1 g hg).1 hm
  have hxb : ∀ x, x ∈ xs → ∀ g, x.ownBlock = some g → g ∉ w.heap.size :: L := fun x hx g hg hm => by
    rcases List.mem_cons.1 hm with rfl | hm
    · have := (hk.xlt hx _ hg).1; omega
    · exact (hk.s2 x hx g hg).1 hm
  refine ⟨he, D', L', ?_, p1, ?_, ?_, ?_, ?_⟩
  · refine hk.tu.trans' p2 (fun y hy => ?_)
    rcases List.mem_cons.1 hy with rfl | hy
    · exact Nat.le_refl _
    · have := (hk.hm.ll y hy).1; omega
  · refine ⟨hk.own.1, ?_⟩
    rcases hk.own.2 with h0 | ⟨g, cap, cur, hv, hb, hg, h3⟩
    · exact .inl h0
    · refine .inr ⟨g, cap, cur, hv, hb, (p2.block g ?_ (hnb g (by rw [hv]; rfl))).trans hg, h3⟩
      exact (hk.own.lt g (by rw [hv]; rfl)).2
  · intro i x hx
    obtain ⟨o, ho, hs⟩ := hk.res i x hx
    exact ⟨o, ho, hs.turned p2 (hxb x (List.mem_of_getElem? hx))⟩
  · intro g hg
    have hlt := (hk.own.lt g hg).2
    refine ⟨fun hL => ?_, fun k hkb => ?_⟩
    · rcases p3 g hL with h2 | h2
      · exact (hk.s1 g hg).1 h2
      · omega
    · rcases p4 k g hkb with ⟨y, h2⟩ | h2
      · exact (hk.s1 g hg).2 y h2
      · omega
  · intro x hx g hg
    have hlt := (hk.xlt hx g hg).2
    refine ⟨fun hL => ?_, (hk.s2 x hx g hg).2⟩
    rcases p3 g hL with h2 | h2
    · exact (hk.s2 x hx g hg).1 h2
    · omega
/-- An answer more. -/
theorem HI.push {o : OpD} (h : HI w w2 n all ops m rv D L xs) (ho : ops[m]? = some o) (h3 : Turned [] w2 w3) (hs : SV w3 (w.heap.size + 1) x (hres (hall ops m) o)) (hf : ∀ g, x.ownBlock = some g → w2.heap.size ≤ g) (ha : Turned [] w3 wa)
    (hown : w5.ownsRow (w.heap.size + 1) 38 1 rv' (m + 1) (xs ++ [x])) (hg : wa.grownBy w5 rv.ownBlock) (hat : rv'.ownBlock = rv.ownBlock ∨ rv'.ownBlock = some wa.heap.size) : HI w w5 n all ops (m + 1) rv' D L (xs ++ [x]) := by
  have hk := (h.keep h3).keep ha
  have hge : ∀ g, rv.ownBlock = some g → w.heap.size + 1 ≤ g := fun g hg => (hk.own.lt g hg).1
  have hS : Turned rv.ownBlock.toList wa w5 := (Turned.refl _ wa).grown hg (fun y hy => .inl (by simp [hy]))
  have hxl : xs.length = m := by have := h.own.1; omega
  have hsz := h3.size
  have hsz2 := ha.size
  have fresh : ∀ g, rv'.ownBlock = some g → (rv.ownBlock = some g) ∨ g = wa.heap.size := fun g hg => by
    rcases hat with e | e
    · rw [e] at hg; exact .inl hg
    · rw [e] at hg; cases hg; exact .inr rfl
  refine ⟨?_, ?_, hown, ?_, ?_, ?_⟩
  · exact hk.tu.grown hg (fun y hy => .inr (by have := hge y hy; omega))
  · refine hk.hm.keepS hS (fun hb => ?_) (fun k g hkg hgm => ?_)
    · have := hge _ (by simpa using hb)
      omega
    · exact (hk.s1 g (by simpa using hgm)).2 k hkg
  · intro i y hy
    rw [List.getElem?_append] at hy
    split at hy
    · obtain ⟨o2, ho2, hs2⟩ := hk.res i y hy
      exact ⟨o2, ho2, hs2.turned hS (fun g hgb hgm => (hk.s2 y (List.mem_of_getElem? hy) g hgb).2 (by simpa using hgm))⟩
    · rename_i hi
      have : i = m := by
        have h1 := (List.getElem?_eq_some_iff.1 hy).1
        simp at h1
        omega
      subst this
      rw [hxl, Nat.sub_self] at hy
      simp at hy
      subst hy
      exact ⟨o, ho, (hs.turned ha (by simp)).turned hS (fun g hgb hgm => by
        have h1 := hf g hgb
        have h2 := (h.own.lt g (by simpa using hgm)).2
        omega)⟩
  · intro g hgb
    rcases fresh g hgb with e | rfl
    · exact hk.s1 g e
    · refine ⟨fun hL => ?_, fun k hkb => ?_⟩
      · have := (hk.hm.ll _ hL).2; omega
      · have := ((hk.hm.sv k).lt _ hkb).2; omega
  · intro y hy g hgb
    rcases List.mem_append.1 hy with hy | hy
    · refine ⟨(hk.s2 y hy g hgb).1, fun e => ?_⟩
      rcases fresh g e with e | rfl
      · exact (hk.s2 y hy g hgb).2 e
      · have := (hk.xlt hy _ hgb).2; omega
    · rw [List.mem_singleton.1 hy] at hgb
      have h1 := hf g hgb
      refine ⟨fun hL => ?_, fun e => ?_⟩
      · have := (h.hm.ll g hL).2; omega
      · rcases fresh g e with e | rfl
        · have := (h.own.lt g e).2; omega
        · have := (hs.lt _ hgb).2; omega
end

/-- What impl.Header answers. -/
def HdrPost (w : World) (ops : List OpD) (e : Ending) (w' : World) : Prop :=
  ∃ p c lv, e = .returned (.tuple #[.slice p ops.length c, lv]) ∧ Turned [] w w' ∧ w'.ownsRow w.heap.size 51 2 lv (hall ops ops.length).length (fc (hall ops ops.length)) ∧
    ∀ i o, ops[i]? = some o → ∃ g x, p = some ⟨g, 0, none⟩ ∧ g < w'.heap.size ∧ w'.cell? ⟨g, i, none⟩ = some x ∧ SV w' w.heap.size x (hres (hall ops i) o)
end Go.Proofs.Ytdhdcgliefjonaa
