/-
  Plain law: lists of fields that are ordered by their keys; a field (or all those of one key) goes behind all whose keys are not greater; the values of one key. No program in sight.
-/
import Derived.Test.YthobojpbdeepoaaDoorBase
namespace Go.Proofs.YthobojpbdeepoaaDoor
open Go.RowKit

abbrev Fd := List UInt8 × List UInt8

/-! the order of texts -/
theorem bl_irrefl : ∀ x : List UInt8, Op.bytesLess x x = false
  | [] => rfl
  | a :: x => by rw [Op.bytesLess]; simp [bl_irrefl x]
theorem bl_trans : ∀ {x y z : List UInt8}, Op.bytesLess x y = true → Op.bytesLess y z = true → Op.bytesLess x z = true
  | [], [], _, h, _ => by simp [Op.bytesLess] at h
  | [], _ :: _, [], _, h => by simp [Op.bytesLess] at h
  | [], _ :: _, _ :: _, _, _ => by simp [Op.bytesLess]
  | _ :: _, [], _, h, _ => by simp [Op.bytesLess] at h
  | _ :: _, _ :: _, [], _, h => by simp [Op.bytesLess] at h
  | a :: x, b :: y, c :: z, h, k => by
    simp only [Op.bytesLess, Bool.or_eq_true, Bool.and_eq_true, decide_eq_true_eq, beq_iff_eq] at h k ⊢
    rcases h with h | ⟨rfl, h⟩
    · rcases k with k | ⟨rfl, k⟩
      · exact .inl (UInt8.lt_trans h k)
      · exact .inl h
    · rcases k with k | ⟨rfl, k⟩
      · exact .inl k
      · exact .inr ⟨rfl, bl_trans h k⟩
theorem bl_tri : ∀ {x y : List UInt8}, Op.bytesLess x y = false → x ≠ y → Op.bytesLess y x = true
  | [], [], _, h => absurd rfl h
  | [], _ :: _, h, _ => by simp [Op.bytesLess] at h
  | _ :: _, [], _, _ => by simp [Op.bytesLess]
  | a :: x, b :: y, h, hn => by
    simp only [Op.bytesLess, Bool.or_eq_false_iff, Bool.and_eq_false_iff, decide_eq_false_iff_not, beq_eq_false_iff_ne] at h
    simp only [Op.bytesLess, Bool.or_eq_true, Bool.and_eq_true, decide_eq_true_eq, beq_iff_eq]
    by_cases hab : a = b
    · subst hab
      refine .inr ⟨rfl, bl_tri ?_ (fun e => hn (by rw [e]))⟩
      rcases h.2 with h2 | h2
      · exact absurd rfl h2
      · exact h2
    · refine .inl ?_
      have h1 := h.1
      rw [UInt8.lt_iff_toNat_lt] at h1 ⊢
      have : a.toNat ≠ b.toNat := fun e => hab (UInt8.toNat_inj.1 e)
      omega

/-- Go's '>' on texts. -/
def gtL (a b : List UInt8) : Bool := !(Op.bytesLess a b || a == b)
theorem gt_iff (a b : List UInt8) : gtL a b = true ↔ Op.bytesLess b a = true := by
  unfold gtL
  constructor
  · intro h
    simp only [Bool.not_eq_true', Bool.or_eq_false_iff, beq_eq_false_iff_ne] at h
    exact bl_tri h.1 h.2
  · intro h
    simp only [Bool.not_eq_true', Bool.or_eq_false_iff, beq_eq_false_iff_ne]
    refine ⟨?_, ?_⟩
    · cases h1 : Op.bytesLess a b
      · rfl
      · have := bl_trans h h1
        rw [bl_irrefl] at this; cases this
    · rintro rfl
      rw [bl_irrefl] at h; cases h
theorem gt_self (a : List UInt8) : gtL a a = false := by unfold gtL; simp
theorem gt_trans {a b c : List UInt8} (h : gtL a b = true) (k : gtL b c = true) : gtL a c = true := by
  rw [gt_iff] at *; exact bl_trans k h
theorem gt_asymm {a b : List UInt8} (h : gtL a b = true) : gtL b a = false := by
  cases k : gtL b a
  · rfl
  · have := gt_trans h k
    rw [gt_self] at this; cases this
theorem gt_tri {a b : List UInt8} (h : gtL a b = false) (hn : a ≠ b) : gtL b a = true := by
  cases k : Op.bytesLess a b
  · have := (gt_iff a b).2 (bl_tri k hn)
    rw [h] at this; cases this
  · exact (gt_iff b a).2 k
/-- .. k < a and a is not above b: k < b. -/
theorem gt_mono {a b k : List UInt8} (h : gtL a b = false) (hk : gtL a k = true) : gtL b k = true := by
  by_cases e : a = b
  · rwa [← e]
  · exact gt_trans (gt_tri h e) hk
theorem gt_mono' {a b k : List UInt8} (h : gtL a b = false) (hk : gtL k a = false) : gtL k b = false := by
  cases e : gtL k b
  · rfl
  · have := gt_mono hk e
    rw [h] at this; cases this

/-! ordered lists -/
def Sorted (l : List Fd) : Prop := l.Pairwise fun a b => gtL a.1 b.1 = false
theorem Sorted.nil : Sorted [] := List.Pairwise.nil
theorem Sorted.filter {l : List Fd} (h : Sorted l) (p : Fd → Bool) : Sorted (l.filter p) := List.Pairwise.filter p h

theorem part {p : Fd → Bool} (hp : ∀ a b : Fd, gtL a.1 b.1 = false → p a = true → p b = true) : ∀ {l : List Fd}, Sorted l → l.filter (fun f => !p f) ++ l.filter p = l
  | [], _ => rfl
  | a :: r, h => by
    obtain ⟨h1, h2⟩ := List.pairwise_cons.1 h
    cases ha : p a
    · have ih := part hp h2
      simp only [List.filter_cons, ha]
      simpa using ih
    · have hr : ∀ b, b ∈ r → p b = true := fun b hb => hp a b (h1 b hb) ha
      have e1 : r.filter (fun f => !p f) = [] := List.filter_eq_nil_iff.2 fun b hb => by simp [hr b hb]
      have e2 : r.filter p = r := List.filter_eq_self.2 hr
      simp [ha, e1, e2]

/-- All of the values go behind the fields whose keys are not greater. -/
def insG (l : List Fd) (k : List UInt8) (vs : List (List UInt8)) : List Fd := l.filter (fun f => !gtL f.1 k) ++ (vs.map (fun v => (k, v)) ++ l.filter (fun f => gtL f.1 k))
def insF (l : List Fd) (f : Fd) : List Fd := insG l f.1 [f.2]

theorem cut_at {l : List Fd} {k : List UInt8} {i : Nat} (hs : Sorted l) (h1 : ∀ f, f ∈ l.drop i → gtL f.1 k = true) (h2 : ∀ f, i ≠ 0 → l[i - 1]? = some f → gtL f.1 k = false) (hi : i ≤ l.length) :
    l.take i = l.filter (fun f => !gtL f.1 k) ∧ l.drop i = l.filter (fun f => gtL f.1 k) := by
  have h3 : ∀ f, f ∈ l.take i → gtL f.1 k = false := by
    intro f hf
    have h0 : i ≠ 0 := by rintro rfl; simp at hf
    obtain ⟨z, hz⟩ : ∃ z, l[i - 1]? = some z := ⟨_, List.getElem?_eq_getElem (by omega)⟩
    have hz2 := h2 z h0 hz
    obtain ⟨j, hj⟩ := List.getElem?_of_mem hf
    have hj2 : j < i ∧ l[j]? = some f := by
      rw [List.getElem?_take] at hj
      split at hj
      · exact ⟨by assumption, hj⟩
      · cases hj
    by_cases hji : j = i - 1
    · rw [← hji, hj2.2] at hz
      cases hz
      exact hz2
    · obtain ⟨hj3, rfl⟩ := List.getElem?_eq_some_iff.1 hj2.2
      obtain ⟨hz3, rfl⟩ := List.getElem?_eq_some_iff.1 hz
      have := List.pairwise_iff_getElem.1 hs j (i - 1) hj3 hz3 (by omega)
      cases hc : gtL l[j].1 k
      · rfl
      · rw [gt_mono this hc] at hz2; cases hz2
  have e : l = l.take i ++ l.drop i := (List.take_append_drop i l).symm
  constructor
  · conv => rhs; rw [e]
    rw [List.filter_append, List.filter_eq_self.2 (fun f hf => by simp [h3 f hf]), List.filter_eq_nil_iff.2 (fun f hf => by simp [h1 f hf]), List.append_nil]
  · conv => rhs; rw [e]
    rw [List.filter_append, List.filter_eq_nil_iff.2 (fun f hf => by simp [h3 f hf]), List.filter_eq_self.2 (fun f hf => h1 f hf), List.nil_append]

theorem ins_sorted {l : List Fd} (h : Sorted l) (k : List UInt8) (vs : List (List UInt8)) : Sorted (insG l k vs) := by
  unfold Sorted insG
  rw [List.pairwise_append]
  refine ⟨h.filter _, ?_, ?_⟩
  · rw [List.pairwise_append]
    refine ⟨?_, h.filter _, ?_⟩
    · rw [List.pairwise_map]
      exact List.pairwise_iff_getElem.2 fun i j hi hj hij => gt_self k
    · intro a ha b hb
      obtain ⟨v, _, rfl⟩ := List.mem_map.1 ha
      exact gt_asymm (List.mem_filter.1 hb).2
  · intro a ha b hb
    have h1 := (List.mem_filter.1 ha).2
    simp only [Bool.not_eq_true'] at h1
    rcases List.mem_append.1 hb with hb | hb
    · obtain ⟨v, _, rfl⟩ := List.mem_map.1 hb
      exact h1
    · have h2 := (List.mem_filter.1 hb).2
      cases hc : gtL a.1 b.1
      · rfl
      · have := gt_trans hc h2
        rw [h1] at this; cases this

/-- The values of one key. -/
def valsOf (k : List UInt8) (l : List Fd) : List (List UInt8) := (l.filter (fun f => f.1 == k)).map (·.2)
theorem vals_nil (k : List UInt8) : valsOf k [] = [] := rfl
theorem vals_append (k : List UInt8) (a b : List Fd) : valsOf k (a ++ b) = valsOf k a ++ valsOf k b := by unfold valsOf; rw [List.filter_append, List.map_append]
theorem vals_none {k : List UInt8} {l : List Fd} (h : ∀ f, f ∈ l → f.1 ≠ k) : valsOf k l = [] := by
  unfold valsOf
  rw [List.filter_eq_nil_iff.2 (fun f hf => by simp [h f hf])]; rfl
theorem vals_pairs (k : List UInt8) (vs : List (List UInt8)) : valsOf k (vs.map (fun v => (k, v))) = vs := by
  unfold valsOf
  rw [List.filter_eq_self.2 (fun f hf => by obtain ⟨v, _, rfl⟩ := List.mem_map.1 hf; simp), List.map_map]
  conv => rhs; rw [← List.map_id vs]
  rfl
theorem vals_filter {k : List UInt8} {l : List Fd} {p : Fd → Bool} (h : ∀ f, f ∈ l → f.1 = k → p f = true) : valsOf k (l.filter p) = valsOf k l := by
  unfold valsOf
  rw [List.filter_filter]
  congr 1
  refine List.filter_congr fun f hf => ?_
  cases hk : f.1 == k
  · rfl
  · rw [h f hf (by simpa using hk)]; rfl
theorem vals_filter_none {k : List UInt8} {l : List Fd} {p : Fd → Bool} (h : ∀ f, f ∈ l → f.1 = k → p f = false) : valsOf k (l.filter p) = [] :=
  vals_none fun f hf e => by
    obtain ⟨h1, h2⟩ := List.mem_filter.1 hf
    rw [h f h1 e] at h2; cases h2
theorem vals_ins_same (l : List Fd) (k : List UInt8) (vs : List (List UInt8)) : valsOf k (insG l k vs) = valsOf k l ++ vs := by
  unfold insG
  rw [vals_append, vals_append, vals_pairs, vals_filter (fun f _ e => by rw [e, gt_self]; rfl), vals_filter_none (fun f _ e => by rw [e, gt_self]), List.append_nil]
theorem vals_ins_other (l : List Fd) {k k' : List UInt8} (hn : k' ≠ k) (vs : List (List UInt8)) : valsOf k' (insG l k vs) = valsOf k' l := by
  unfold insG
  rw [vals_append, vals_append, vals_none (l := vs.map _) (fun f hf e => by obtain ⟨v, _, rfl⟩ := List.mem_map.1 hf; exact hn e.symm), List.nil_append]
  cases hg : gtL k' k
  · rw [vals_filter (fun f _ e => by rw [e, hg]; rfl), vals_filter_none (fun f _ e => by rw [e, hg]), List.append_nil]
  · rw [vals_filter_none (fun f _ e => by rw [e, hg]; rfl), vals_filter (fun f _ e => by rw [e, hg]), List.nil_append]
/-- The fields of all other keys. -/
def without (k : List UInt8) (l : List Fd) : List Fd := l.filter (fun f => !(f.1 == k))
theorem vals_without_same (l : List Fd) (k : List UInt8) : valsOf k (without k l) = [] := vals_filter_none fun f _ e => by simp [e]
theorem vals_without_other (l : List Fd) {k k' : List UInt8} (hn : k' ≠ k) : valsOf k' (without k l) = valsOf k' l := vals_filter fun f _ e => by simp [e, hn]

/-- The fields of the keys that are done. -/
def sel (l : List Fd) (d : List UInt8 → Bool) : List Fd := l.filter (fun f => d f.1)
theorem sel_all {l : List Fd} {d : List UInt8 → Bool} (h : ∀ f, f ∈ l → d f.1 = true) : sel l d = l := List.filter_eq_self.2 h
theorem sel_none {l : List Fd} {d : List UInt8 → Bool} (h : ∀ f, f ∈ l → d f.1 = false) : sel l d = [] := List.filter_eq_nil_iff.2 fun f hf => by simp [h f hf]
theorem sel_append (a b : List Fd) (d : List UInt8 → Bool) : sel (a ++ b) d = sel a d ++ sel b d := List.filter_append ..
theorem sel_congr {l : List Fd} {d d' : List UInt8 → Bool} (h : ∀ f, f ∈ l → d f.1 = d' f.1) : sel l d = sel l d' := List.filter_congr h
theorem three {l : List Fd} (h : Sorted l) (k : List UInt8) : ∃ A E G, l = A ++ (E ++ G) ∧ (∀ f, f ∈ A → gtL k f.1 = true) ∧ (∀ f, f ∈ E → f.1 = k) ∧ ∀ f, f ∈ G → gtL f.1 k = true := by
  have e1 := part (p := fun f => gtL f.1 k) (fun a b h1 h2 => gt_mono h1 h2) h
  have e2 := part (p := fun f => !gtL k f.1) (fun a b h1 h2 => by simp only [Bool.not_eq_true'] at h2 ⊢; exact gt_mono' h1 h2) (h.filter (fun f => !gtL f.1 k))
  refine ⟨_, _, _, by rw [← List.append_assoc, e2, e1], ?_, ?_, ?_⟩
  · intro f hf
    simpa using (List.mem_filter.1 hf).2
  · intro f hf
    obtain ⟨h1, h2⟩ := List.mem_filter.1 hf
    have h3 := (List.mem_filter.1 h1).2
    simp only [Bool.not_eq_true'] at h2 h3
    by_cases e : f.1 = k
    · exact e
    · rw [gt_tri h3 e] at h2; cases h2
  · intro f hf
    exact (List.mem_filter.1 hf).2
theorem pairs_back {E : List Fd} {k : List UInt8} (h : ∀ f, f ∈ E → f.1 = k) : (E.map (·.2)).map (fun v => (k, v)) = E := by
  rw [List.map_map]
  conv => rhs; rw [← List.map_id E]
  exact List.map_congr_left fun f hf => by simp [← h f hf]
/-- One key more is done. -/
theorem sel_step {l : List Fd} (hs : Sorted l) {k : List UInt8} {d d' : List UInt8 → Bool} (hd : d k = false) (hd' : d' k = true) (ho : ∀ x, x ≠ k → d' x = d x) : insG (sel l d) k (valsOf k l) = sel l d' := by
  obtain ⟨A, E, G, rfl, hA, hE, hG⟩ := three hs k
  have nA : ∀ f, f ∈ A → f.1 ≠ k := fun f hf e => by have := hA f hf; rw [e, gt_self] at this; cases this
  have nG : ∀ f, f ∈ G → f.1 ≠ k := fun f hf e => by have := hG f hf; rw [e, gt_self] at this; cases this
  rw [sel_append, sel_append, sel_append, sel_append, vals_append, vals_append, vals_none nA, vals_none nG, sel_none (l := E) (d := d) (fun f hf => by rw [hE f hf]; exact hd), sel_all (l := E) (d := d') (fun f hf => by rw [hE f hf]; exact hd')]
  have v1 : valsOf k E = E.map (·.2) := by unfold valsOf; rw [List.filter_eq_self.2 (fun f hf => by simp [hE f hf])]
  rw [v1, sel_congr (l := A) (fun f hf => ho f.1 (nA f hf)), sel_congr (l := G) (fun f hf => ho f.1 (nG f hf))]
  unfold insG
  rw [List.nil_append, List.append_nil, List.nil_append, pairs_back hE, List.filter_append, List.filter_append]
  have a1 : (sel A d).filter (fun f => !gtL f.1 k) = sel A d := List.filter_eq_self.2 fun f hf => by rw [gt_asymm (hA f (List.mem_filter.1 hf).1)]; rfl
  have a2 : (sel G d).filter (fun f => !gtL f.1 k) = [] := List.filter_eq_nil_iff.2 fun f hf => by rw [hG f (List.mem_filter.1 hf).1]; simp
  have a3 : (sel A d).filter (fun f => gtL f.1 k) = [] := List.filter_eq_nil_iff.2 fun f hf => by rw [gt_asymm (hA f (List.mem_filter.1 hf).1)]; simp
  have a4 : (sel G d).filter (fun f => gtL f.1 k) = sel G d := List.filter_eq_self.2 fun f hf => hG f (List.mem_filter.1 hf).1
  rw [a1, a2, a3, a4, List.append_nil, List.nil_append]
theorem vals_key {l : List Fd} {f : Fd} (h : f ∈ l) : valsOf f.1 l ≠ [] := by
  unfold valsOf
  intro e
  rw [List.map_eq_nil_iff, List.filter_eq_nil_iff] at e
  exact e f h (by simp)
theorem ins_length (l : List Fd) (k : List UInt8) (vs : List (List UInt8)) : (insG l k vs).length = l.length + vs.length := by
  unfold insG
  rw [List.length_append, List.length_append, List.length_map]
  have : ∀ l : List Fd, (l.filter (fun f => !gtL f.1 k)).length + (l.filter (fun f => gtL f.1 k)).length = l.length := by
    intro l
    induction l with
    | nil => rfl
    | cons a r ih =>
      cases h : gtL a.1 k <;> simp [h] <;> omega
  have := this l
  omega
theorem vals_length (k : List UInt8) (l : List Fd) : (valsOf k l).length ≤ l.length := by
  unfold valsOf
  rw [List.length_map]
  exact List.length_filter_le _ _
end Go.Proofs.YthobojpbdeepoaaDoor
