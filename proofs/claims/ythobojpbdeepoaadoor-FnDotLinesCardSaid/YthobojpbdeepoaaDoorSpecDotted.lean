/-
  The contract of spec.Dotted; a text as a block, line by line.
-/
import Derived.Test.YthobojpbdeepoaaDoorSpecLines
namespace Go.Proofs.YthobojpbdeepoaaDoor
open Go.RowKit

theorem encW_lines (last : List UInt8) : ∀ (full : List (List UInt8)) (st : Nat), (st = 0 ∨ st = 1) → (∀ l, l ∈ full → Clean l) →
    encW (lfs full ++ last) st = (crlfs (full.map stuff) ++ (encW last (if full = [] then st else 1)).1, (encW last (if full = [] then st else 1)).2)
  | [], st, _, _ => rfl
  | l :: ls, st, hs, h => by
    have h1 := encW_lines last ls 1 (.inr rfl) (fun x hx => h x (List.mem_cons_of_mem _ hx))
    have e : lfs (l :: ls) ++ last = l ++ 10 :: (lfs ls ++ last) := by simp [lfs]
    rw [e, encW_line l _ st hs (h l List.mem_cons_self), h1]
    have e2 : (if ls = [] then 1 else 1) = 1 := by split <;> rfl
    rw [e2]
    simp [crlfs]
/-- A text's block is what spec.Dotted answers. -/
theorem enc_dotted {s last : List UInt8} {full : List (List UInt8)} (h : Ln s full last) (hs : s ≠ []) : enc s = crlfs ((full ++ tl last).map stuff) ++ [46, 13, 10] := by
  have h1 := encW_lines last full 0 (.inl rfl) h.cl
  unfold enc
  rw [h.eq, h1]
  by_cases hl : last = []
  · subst hl
    have hf : full ≠ [] := by
      rintro rfl
      exact hs (by rw [h.eq]; rfl)
    simp [tl, hf, encW, ends]
  · have h2 : encW last (if full = [] then 0 else 1) = (stuff last, 3) := encW_rest last _ (by split <;> simp) h.ll hl
    rw [h2]
    simp [tl, hl, ends, crlfs_append, crlfs]

theorem own_cells {w : World} {base n : Nat} {e : TypeId} {v : Value} {xs : List Value} (h : w.ownsRow base e 1 v n xs) : ∃ vp cap, v = .slice vp n cap ∧ ∀ i u, xs[i]? = some u → ∃ g, vp = some ⟨g, 0, none⟩ ∧ g < w.heap.size ∧ w.cell? ⟨g, i, none⟩ = some u := by
  have hlt := h.lt
  rcases h.2 with ⟨h1, h2⟩ | ⟨g, cap, cur, h1, _⟩
  · refine ⟨none, 0, by rw [h1, h2], fun i u hi => ?_⟩
    have h3 := h.1
    rw [h2] at h3
    have h4 : xs = [] := List.eq_nil_of_length_eq_zero (by simpa using h3)
    rw [h4] at hi
    simp at hi
  · subst h1
    refine ⟨some ⟨g, 0, none⟩, cap, rfl, fun i u hi => ⟨g, rfl, (hlt g rfl).2, ?_⟩⟩
    have h1 := h.cells (g := g) rfl i u hi
    unfold Addr.add at h1
    split at h1
    · subst_vars; simpa using h1
    · simpa using h1
theorem crlfs_stuff_len (ls : List (List UInt8)) : (crlfs (ls.map stuff)).length ≤ 3 * (lfs ls).length := by
  induction ls with
  | nil => exact Nat.le_refl _
  | cons l ls ih =>
    have h1 : (stuff l).length ≤ l.length + 1 := by
      cases l with
      | nil => exact Nat.zero_le _
      | cons c cs =>
        show (if c = 46 then 46 :: c :: cs else c :: cs).length ≤ _
        split <;> simp
    show (stuff l ++ 13 :: 10 :: crlfs (ls.map stuff)).length ≤ 3 * (l ++ 10 :: lfs ls).length
    simp only [List.length_append, List.length_cons]
    omega
theorem lfs_take_len (ls : List (List UInt8)) (m : Nat) : (lfs (ls.take m)).length ≤ (lfs ls).length := by
  conv => rhs; rw [← List.take_append_drop m ls, lfs_append, List.length_append]
  omega
theorem Ln.len {s last : List UInt8} {full : List (List UInt8)} (h : Ln s full last) : (lfs (full ++ tl last)).length ≤ s.length + 1 := by
  rw [lfs_append, List.length_append, h.eq, List.length_append]
  by_cases hl : last = []
  · subst hl; simp [tl, lfs]
  · simp [tl, hl, lfs]; omega

/-- What spec.Dotted answers. -/
def DottedPost (s : List UInt8) (w : World) (e : Ending) (w' : World) : Prop :=
  ∃ (o : ByteArray) (full : List (List UInt8)) (last : List UInt8), e = .returned (.string o) ∧ Turned [] w w' ∧ Ln s full last ∧ lst o = crlfs ((full ++ tl last).map stuff) ++ [46, 13, 10]

theorem dotted_step {ls : List (List UInt8)} {m : Nat} {l : List UInt8} (h : ls[m]? = some l) : crlfs ((ls.take (m + 1)).map stuff) = crlfs ((ls.take m).map stuff) ++ (stuff l ++ [13, 10]) := by
  have e : ls.take (m + 1) = ls.take m ++ [l] := by rw [List.take_add_one, h]; rfl
  rw [e, List.map_append, crlfs_append]
  simp [crlfs]

set_option maxRecDepth 100000 in
set_option maxHeartbeats 4000000 in
theorem dotted_any (s : ByteArray) (w : World) (hs : s.size ≤ 1048576) (h13 : ∀ c, c ∈ lst s → c ≠ 13) : Calls Tryd.prog 27 #[.string s] w (DottedPost (lst s) w) := by
  have LA := Lib.hid (lines_any s w hs h13)
  go_enter Tryd.func27, Tryd.ntmps27
  go_wp2_with fail
  go_at_call 36
  (with_reducible refine LA.out.mono ?_)
  rintro e w2 ⟨v, full, last, rfl, hT, hln, hown⟩
  obtain ⟨vp, cap, rfl, hcell⟩ := own_cells hown
  have HLn := Lib.hid hln
  have HT := Lib.hid hT
  have HLen : Hid ((lfs (full ++ tl last)).length ≤ 1048577) := by
    have h1 := hln.len
    rw [lst_length] at h1
    show _ ≤ _; omega
  obtain ⟨ls, hls⟩ : ∃ ls, ls = full ++ tl last := ⟨_, rfl⟩
  rw [← hls] at hcell HLen ⊢
  have HC : Hid (∀ i l, ls[i]? = some l → ∃ g, vp = some ⟨g, 0, none⟩ ∧ w2.cell? ⟨g, i, none⟩ = some (sv l)) := fun i l hi => by
    obtain ⟨g, h1, _, h2⟩ := hcell i (sv l) (by rw [List.getElem?_map, hi]; rfl)
    exact ⟨g, h1, h2⟩
  have HE := Lib.hid hls
  clear hls hcell hown hln hT LA h13
  go_wp2_with fail
  go_loopg [3, 9] ls.length (fun g o i wr => ∃ m : Nat, ∃ out : ByteArray, i = .int .i64 (m : Int) ∧ o = .string out ∧ lst out = crlfs ((ls.take m).map stuff) ∧ m ≤ ls.length ∧ (∃ q, wr = w2.drewN q) ∧ ls.length - m ≤ g)
  case atStart => exact ⟨0, ByteArray.empty, rfl, rfl, rfl, Nat.zero_le _, ⟨0, rfl⟩, Nat.le_refl _⟩
  case round =>
    obtain ⟨m, out, rfl, rfl, hout, hm, ⟨q, rfl⟩, hg⟩ := hrel
    have hos : out.size ≤ 4000000 := by
      have h1 := crlfs_stuff_len (ls.take m)
      have h2 := lfs_take_len ls m
      have h3 := HLen.out
      rw [← hout, lst_length] at h1
      omega
    have hnl : ls.length ≤ 1048577 := Nat.le_trans (lfs_len ls) HLen.out
    by_cases hlt : m < ls.length
    · obtain ⟨l, hl⟩ : ∃ l, ls[m]? = some l := ⟨_, List.getElem?_eq_getElem hlt⟩
      obtain ⟨g, rfl, cc⟩ := HC.out m l hl
      obtain ⟨L, hL, hLl⟩ : ∃ L : ByteArray, sv l = .string L ∧ lst L = l := ⟨_, rfl, rfl⟩
      rw [hL] at cc
      have cc2 : (w2.drewN q).cell? ⟨g, m, none⟩ = some (.string L) := cc
      have d0 : (m : Int) < (ls.length : Int) := by omega
      have d1 : (0 : Int) ≤ (m : Int) := by omega
      have e1 : IntKind.i64.wrap ((m : Int) + 1) = (m : Int) + 1 := IntWalk.i64_in _ (by omega)
      have hsL : L.size ≤ 1048577 := by
        have h1 := lfs_take_len ls (m + 1)
        have h2 := HLen.out
        have e : ls.take (m + 1) = ls.take m ++ [l] := by rw [List.take_add_one, hl]; rfl
        rw [e, lfs_append, List.length_append] at h1
        have h3 : (lfs [l]).length = l.length + 1 := by simp [lfs]
        rw [h3, ← hLl, lst_length] at h1
        omega
      have HG : Hid (ls.length - (m + 1) ≤ gk - 1 ∧ 0 < gk ∧ m + 1 ≤ ls.length) := ⟨by omega, by omega, by omega⟩
      have HS : Hid (∀ o' : ByteArray, lst o' = lst out ++ (stuff l ++ [13, 10]) → lst o' = crlfs ((ls.take (m + 1)).map stuff)) := fun o' h => by rw [h, hout, dotted_step hl]
      have z1 : ¬ 9223372036854775807 < out.size + 1 := by omega
      have z2 : ¬ 9223372036854775807 < L.size + 2 := by omega
      have z3 : ¬ 9223372036854775807 < out.size + (L.size + 2) := by omega
      have z4 : ¬ 9223372036854775807 < out.size + 1 + (L.size + 2) := by omega
      have hsz := lst_length L
      rw [hLl] at hsz
      cases l with
      | nil =>
        have b4 : ¬ 0 < L.size := by simp at hsz; omega
        have HF := Lib.hid (HS.out (out ++ (L ++ ⟨#[13, 10]⟩)) (by rw [lst_append, lst_append, hLl]; rfl))
        clear hout hm hlt hl cc hL hLl hsz HS
        go_wp2_with fail
        go_roundg (gk - 1)
        case rel => exact ⟨m + 1, _, rfl, rfl, HF.out, HG.out.2.2, ⟨_, rfl⟩, HG.out.1⟩
        case measure => have := HG.out; omega
      | cons c cs =>
        have b4 : 0 < L.size := by simp at hsz; omega
        have hc0 : L[0] = c := by
          have h3 := lst_get L 0 b4
          rw [hLl] at h3
          exact (Option.some.inj h3).symm
        by_cases h46 : c = 46
        · have t2 : ((L[0].toNat : Int) == 46) = true := u8_is (c := 46) (hc0.trans h46)
          have HF := Lib.hid (HS.out (out ++ ⟨#[46]⟩ ++ (L ++ ⟨#[13, 10]⟩)) (by rw [lst_append, lst_append, lst_append, hLl]; simp [stuff, h46]; rfl))
          clear hout hm hlt hl cc hL hLl hsz HS hc0 h46
          go_wp2_with fail
          go_roundg (gk - 1)
          case rel => exact ⟨m + 1, _, rfl, rfl, HF.out, HG.out.2.2, ⟨_, rfl⟩, HG.out.1⟩
          case measure => have := HG.out; omega
        · have t2 : ((L[0].toNat : Int) == 46) = false := u8_not (c := 46) (by rw [hc0]; exact h46)
          have HF := Lib.hid (HS.out (out ++ (L ++ ⟨#[13, 10]⟩)) (by rw [lst_append, lst_append, hLl]; simp [stuff, h46]; rfl))
          clear hout hm hlt hl cc hL hLl hsz HS hc0 h46
          go_wp2_with fail
          go_roundg (gk - 1)
          case rel => exact ⟨m + 1, _, rfl, rfl, HF.out, HG.out.2.2, ⟨_, rfl⟩, HG.out.1⟩
          case measure => have := HG.out; omega
    · have d0 : ¬ (m : Int) < (ls.length : Int) := by omega
      have z1 : ¬ 9223372036854775807 < out.size + 3 := by omega
      have HF : Hid (∀ q, DottedPost (lst s) w (.returned (.string (out ++ ⟨#[46, 13, 10]⟩))) (w2.drewN q)) := fun q => by
        refine ⟨_, full, last, rfl, HT.out.drewN q, HLn.out, ?_⟩
        rw [lst_append, hout, List.take_of_length_le (by omega), HE.out]
        rfl
      clear hout hm
      go_wp2_with fail
      go_ret
      exact HF.out q
end Go.Proofs.YthobojpbdeepoaaDoor
