/-
  Plain laws of dot-encoded blocks: the machine that decodes, the one that encodes, what the one makes of the other's bytes. No program in sight.
-/
import Derived.Test.YthobojpbdeepoaaDoorBase
namespace Go.Proofs.YthobojpbdeepoaaDoor

/-- A byte ahead of what follows. -/
def emit (c : UInt8) (r : List UInt8 × Option (List UInt8)) : List UInt8 × Option (List UInt8) := (c :: r.1, r.2)

/-- What the decoding machine hands out of the bytes that are left, from state st on, and what is left behind the end (none: there is no end).
    States: 0 a line's beginning, 1 a dot there, 2 a dot and a carriage return, 3 a carriage return, 4 within a line, 5 the end. -/
def dec : List UInt8 → Nat → List UInt8 × Option (List UInt8)
  | [], st => ([], if st = 5 then some [] else none)
  | c :: cs, st =>
    if st = 5 then ([], some (c :: cs))
    else if st = 0 then (if c = 46 then dec cs 1 else if c = 13 then dec cs 3 else emit c (dec cs 4))
    else if st = 1 then (if c = 13 then dec cs 2 else if c = 10 then ([], some cs) else emit c (dec cs 4))
    else if st = 2 ∧ c = 10 then ([], some cs)
    else if st = 3 ∧ c = 10 then emit 10 (dec cs 0)
    else
      let r := if c = 13 then dec cs 3 else if c = 10 then emit 10 (dec cs 0) else emit c (dec cs 4)
      if st = 2 ∨ st = 3 then emit 13 r else r

theorem dec_nil (st : Nat) : dec [] st = ([], if st = 5 then some [] else none) := rfl
theorem dec5 (l : List UInt8) : dec l 5 = ([], some l) := by cases l <;> simp [dec]
theorem dec0 (c : UInt8) (cs : List UInt8) : dec (c :: cs) 0 = if c = 46 then dec cs 1 else if c = 13 then dec cs 3 else emit c (dec cs 4) := by simp [dec]
theorem dec1 (c : UInt8) (cs : List UInt8) : dec (c :: cs) 1 = if c = 13 then dec cs 2 else if c = 10 then ([], some cs) else emit c (dec cs 4) := by simp [dec]
theorem dec2_lf (cs : List UInt8) : dec (10 :: cs) 2 = ([], some cs) := by simp [dec]
theorem dec3_lf (cs : List UInt8) : dec (10 :: cs) 3 = emit 10 (dec cs 0) := by simp [dec]
theorem dec4 (c : UInt8) (cs : List UInt8) : dec (c :: cs) 4 = if c = 13 then dec cs 3 else if c = 10 then emit 10 (dec cs 0) else emit c (dec cs 4) := by simp [dec]
theorem dec2_other (c : UInt8) (cs : List UInt8) (h : c ≠ 10) : dec (c :: cs) 2 = emit 13 (dec (c :: cs) 4) := by simp [dec, h]
theorem dec3_other (c : UInt8) (cs : List UInt8) (h : c ≠ 10) : dec (c :: cs) 3 = emit 13 (dec (c :: cs) 4) := by simp [dec, h]

/-- Neither a carriage return nor a line feed. -/
def Clean (l : List UInt8) : Prop := ∀ c, c ∈ l → c ≠ 13 ∧ c ≠ 10
theorem Clean.tail {c : UInt8} {l : List UInt8} (h : Clean (c :: l)) : Clean l := fun x hx => h x (List.mem_cons_of_mem _ hx)
theorem Clean.head {c : UInt8} {l : List UInt8} (h : Clean (c :: l)) : c ≠ 13 ∧ c ≠ 10 := h c (List.mem_cons_self)

/-- A line without the dot ahead of it. -/
def unstuff : List UInt8 → List UInt8
  | [] => []
  | c :: cs => if c = 46 then cs else c :: cs

theorem dec4_clean : ∀ (l r : List UInt8), Clean l → dec (l ++ r) 4 = (l ++ (dec r 4).1, (dec r 4).2)
  | [], _, _ => rfl
  | c :: cs, r, h => by
    rw [List.cons_append, dec4, if_neg h.head.1, if_neg h.head.2, dec4_clean cs r h.tail]
    rfl
theorem dec_eol (t : List UInt8) : dec (13 :: 10 :: t) 4 = emit 10 (dec t 0) := by rw [dec4, if_pos rfl, dec3_lf]
theorem dec_end (t : List UInt8) : dec (46 :: 13 :: 10 :: t) 0 = ([], some t) := by rw [dec0, if_pos rfl, dec1, if_pos rfl, dec2_lf]
theorem dec_line (l t : List UInt8) (h : Clean l) (hd : l ≠ [46]) : dec (l ++ 13 :: 10 :: t) 0 = (unstuff l ++ 10 :: (dec t 0).1, (dec t 0).2) := by
  cases l with
  | nil => rw [List.nil_append, dec0, if_neg (by decide), if_pos rfl, dec3_lf]; rfl
  | cons c cs =>
    rw [List.cons_append, dec0]
    by_cases hc : c = 46
    · subst hc
      rw [if_pos rfl]
      cases cs with
      | nil => exact absurd rfl hd
      | cons c' cs' =>
        rw [List.cons_append, dec1, if_neg h.tail.head.1, if_neg h.tail.head.2, dec4_clean cs' _ h.tail.tail, dec_eol]
        rfl
    · rw [if_neg hc, if_neg h.head.1, dec4_clean cs _ h.tail, dec_eol]
      simp [unstuff, hc, emit]
/-- No end where there is no line feed. -/
theorem dec_none : ∀ (l : List UInt8) (st : Nat), (∀ c, c ∈ l → c ≠ 10) → st ≠ 5 → (dec l st).2 = none
  | [], st, _, h5 => by simp [dec, h5]
  | c :: cs, st, h, h5 => by
    have hc : c ≠ 10 := h c List.mem_cons_self
    have ht : ∀ st, st ≠ 5 → (dec cs st).2 = none := fun st h5 => dec_none cs st (fun x hx => h x (List.mem_cons_of_mem _ hx)) h5
    unfold dec
    simp only [hc, h5, and_false, if_false]
    repeat' split
    all_goals first | exact ht _ (by decide) | skip

/-- The lines, each with its end. -/
def crlfs : List (List UInt8) → List UInt8
  | [] => []
  | l :: ls => l ++ 13 :: 10 :: crlfs ls
/-- The lines' text, each with a line feed. -/
def lfs : List (List UInt8) → List UInt8
  | [] => []
  | l :: ls => l ++ 10 :: lfs ls
theorem crlfs_append (a b : List (List UInt8)) : crlfs (a ++ b) = crlfs a ++ crlfs b := by
  induction a with
  | nil => rfl
  | cons l ls ih => simp [crlfs, ih]
theorem lfs_append (a b : List (List UInt8)) : lfs (a ++ b) = lfs a ++ lfs b := by
  induction a with
  | nil => rfl
  | cons l ls ih => simp [lfs, ih]
/-- Lines of a block: clean, none of them a dot alone. -/
def Lns (ls : List (List UInt8)) : Prop := ∀ l, l ∈ ls → Clean l ∧ l ≠ [46]
theorem Lns.tail {l : List UInt8} {ls : List (List UInt8)} (h : Lns (l :: ls)) : Lns ls := fun x hx => h x (List.mem_cons_of_mem _ hx)
theorem Lns.head {l : List UInt8} {ls : List (List UInt8)} (h : Lns (l :: ls)) : Clean l ∧ l ≠ [46] := h l List.mem_cons_self
theorem Lns.snoc {l : List UInt8} {ls : List (List UInt8)} (h : Lns ls) (hc : Clean l) (hd : l ≠ [46]) : Lns (ls ++ [l]) := by
  intro x hx
  rcases List.mem_append.1 hx with hx | hx
  · exact h x hx
  · rw [List.mem_singleton.1 hx]; exact ⟨hc, hd⟩
theorem dec_lines (t : List UInt8) : ∀ ls, Lns ls → dec (crlfs ls ++ t) 0 = (lfs (ls.map unstuff) ++ (dec t 0).1, (dec t 0).2)
  | [], _ => rfl
  | l :: ls, h => by
    have e : crlfs (l :: ls) ++ t = l ++ 13 :: 10 :: (crlfs ls ++ t) := by simp [crlfs]
    rw [e, dec_line l _ h.head.1 h.head.2, dec_lines t ls h.tail]
    simp [lfs]

/-- One byte through the encoding machine: what is written, the next state. States: 0 the beginning, 1 a line's beginning, 2 behind a carriage return, 3 within a line. -/
def estep (st : Nat) (c : UInt8) : List UInt8 × Nat :=
  if st = 2 then ([c], if c = 10 then 1 else 3)
  else ((if st = 3 then [] else if c = 46 then [46] else []) ++ (if c = 10 then [13, 10] else [c]), if c = 10 then 1 else if c = 13 then 2 else 3)
/-- A text through the encoding machine. -/
def encW : List UInt8 → Nat → List UInt8 × Nat
  | [], st => ([], st)
  | c :: cs, st => ((estep st c).1 ++ (encW cs (estep st c).2).1, (encW cs (estep st c).2).2)
/-- What Close writes. -/
def ends (st : Nat) : List UInt8 := if st = 1 then [46, 13, 10] else if st = 2 then [10, 46, 13, 10] else [13, 10, 46, 13, 10]
/-- A text as a block. -/
def enc (l : List UInt8) : List UInt8 := (encW l 0).1 ++ ends (encW l 0).2
theorem encW_cons (c : UInt8) (cs : List UInt8) (st : Nat) : encW (c :: cs) st = ((estep st c).1 ++ (encW cs (estep st c).2).1, (encW cs (estep st c).2).2) := rfl
theorem encW_append (b : List UInt8) : ∀ (a : List UInt8) (st : Nat), encW (a ++ b) st = ((encW a st).1 ++ (encW b (encW a st).2).1, (encW b (encW a st).2).2)
  | [], _ => rfl
  | c :: cs, st => by simp [encW, encW_append b cs]

/-- The line feed that the block's text has at its end where the text has none. -/
def tailOf (st : Nat) : List UInt8 := if st = 1 then [] else [10]
/-- The decoding machine's state that meets an encoding machine's. -/
def decOf (st : Nat) : Nat := if st = 3 then 4 else 0
theorem ends_dec (st : Nat) (h : st = 0 ∨ st = 1 ∨ st = 3) (t : List UInt8) : dec (ends st ++ t) (decOf st) = (tailOf st, some t) := by
  rcases h with rfl | rfl | rfl
  · show dec (13 :: 10 :: 46 :: 13 :: 10 :: t) 0 = _
    rw [dec0, if_neg (by decide), if_pos rfl, dec3_lf, dec_end]; rfl
  · show dec (46 :: 13 :: 10 :: t) 0 = _
    rw [dec_end]; rfl
  · show dec (13 :: 10 :: 46 :: 13 :: 10 :: t) 4 = _
    rw [dec_eol, dec_end]; rfl
theorem estep_st {st : Nat} {c : UInt8} (h : st = 0 ∨ st = 1 ∨ st = 3) (hc : c ≠ 13) : (estep st c).2 = 1 ∧ c = 10 ∨ (estep st c).2 = 3 ∧ c ≠ 10 := by
  have h2 : st ≠ 2 := by omega
  unfold estep
  rw [if_neg h2]
  by_cases h10 : c = 10
  · exact .inl ⟨by simp [h10], h10⟩
  · exact .inr ⟨by simp [h10, hc], h10⟩
theorem estep_dec {st : Nat} {c : UInt8} (h : st = 0 ∨ st = 1 ∨ st = 3) (hc : c ≠ 13) (r : List UInt8) : dec ((estep st c).1 ++ r) (decOf st) = emit c (dec r (decOf (estep st c).2)) := by
  have h2 : st ≠ 2 := by omega
  by_cases h10 : c = 10
  · subst h10
    have e : (estep st 10) = ([13, 10], 1) := by
      unfold estep
      rw [if_neg h2]
      simp
    rw [e]
    show dec (13 :: 10 :: r) _ = _
    rcases h with rfl | rfl | rfl
    · show dec _ 0 = _; rw [dec0, if_neg (by decide), if_pos rfl, dec3_lf]; rfl
    · show dec _ 0 = _; rw [dec0, if_neg (by decide), if_pos rfl, dec3_lf]; rfl
    · show dec _ 4 = _; rw [dec_eol]; rfl
  · have e2 : (estep st c).2 = 3 := by rcases estep_st h hc with ⟨_, h1⟩ | ⟨h1, _⟩; exact absurd h1 h10; exact h1
    rw [e2]
    have e1 : (estep st c).1 = (if st = 3 then [] else if c = 46 then [46] else []) ++ [c] := by
      unfold estep
      rw [if_neg h2]
      simp [h10]
    rw [e1]
    show _ = emit c (dec r 4)
    by_cases h3 : st = 3
    · subst h3
      show dec (c :: r) 4 = _
      rw [dec4, if_neg hc, if_neg h10]
    · have hd : decOf st = 0 := by unfold decOf; rw [if_neg h3]
      rw [hd, if_neg h3]
      by_cases h46 : c = 46
      · subst h46
        show dec (46 :: 46 :: r) 0 = _
        rw [dec0, if_pos rfl, dec1, if_neg (by decide), if_neg (by decide)]
      · rw [if_neg h46]
        show dec (c :: r) 0 = _
        rw [dec0, if_neg h46, if_neg hc]
theorem encW_st : ∀ (l : List UInt8) (st : Nat), (st = 0 ∨ st = 1 ∨ st = 3) → (∀ c, c ∈ l → c ≠ 13) → ((encW l st).2 = 0 ∨ (encW l st).2 = 1 ∨ (encW l st).2 = 3)
  | [], _, h, _ => h
  | c :: cs, st, h, hc => by
    refine encW_st cs _ ?_ (fun x hx => hc x (List.mem_cons_of_mem _ hx))
    rcases estep_st h (hc c List.mem_cons_self) with ⟨h1, _⟩ | ⟨h1, _⟩ <;> rw [h1] <;> simp
theorem encW_dec (t : List UInt8) : ∀ (l : List UInt8) (st : Nat), (st = 0 ∨ st = 1 ∨ st = 3) → (∀ c, c ∈ l → c ≠ 13) →
    dec ((encW l st).1 ++ (ends (encW l st).2 ++ t)) (decOf st) = (l ++ tailOf (encW l st).2, some t)
  | [], st, h, _ => ends_dec st h t
  | c :: cs, st, h, hc => by
    have hc0 := hc c List.mem_cons_self
    rw [encW_cons]
    show dec (((estep st c).1 ++ (encW cs (estep st c).2).1) ++ (ends (encW cs (estep st c).2).2 ++ t)) _ = (_ ++ tailOf (encW cs (estep st c).2).2, _)
    rw [List.append_assoc, estep_dec h hc0, encW_dec t cs _ (by rcases estep_st h hc0 with ⟨h1, _⟩ | ⟨h1, _⟩ <;> rw [h1] <;> simp) (fun x hx => hc x (List.mem_cons_of_mem _ hx))]
    rfl
/-- A block that was written is decoded as its text, with a line feed at its end. -/
theorem enc_dec (l t : List UInt8) (h : ∀ c, c ∈ l → c ≠ 13) : dec (enc l ++ t) 0 = (l ++ tailOf (encW l 0).2, some t) := by
  unfold enc
  rw [List.append_assoc]
  exact encW_dec t l 0 (.inl rfl) h
/-- The last state, of a text of one byte or more. -/
theorem encW_last (l : List UInt8) (c : UInt8) (h : ∀ x, x ∈ l ++ [c] → x ≠ 13) : (encW (l ++ [c]) 0).2 = 1 ∧ c = 10 ∨ (encW (l ++ [c]) 0).2 = 3 ∧ c ≠ 10 := by
  rw [encW_append]
  exact estep_st (encW_st l 0 (.inl rfl) (fun x hx => h x (List.mem_append_left _ hx))) (h c (by simp))

/-- A line with a dot ahead of one at its beginning. -/
def stuff : List UInt8 → List UInt8
  | [] => []
  | c :: cs => if c = 46 then 46 :: c :: cs else c :: cs
theorem encW3_clean : ∀ (l : List UInt8), Clean l → encW l 3 = (l, 3)
  | [], _ => rfl
  | c :: cs, h => by
    have e : estep 3 c = ([c], 3) := by simp [estep, h.head.1, h.head.2]
    rw [encW_cons, e, encW3_clean cs h.tail]; rfl
theorem encW_line (l t : List UInt8) (st : Nat) (hs : st = 0 ∨ st = 1) (h : Clean l) : encW (l ++ 10 :: t) st = (stuff l ++ 13 :: 10 :: (encW t 1).1, (encW t 1).2) := by
  have h2 : st ≠ 2 := by omega
  have h3 : st ≠ 3 := by omega
  cases l with
  | nil =>
    have e : estep st 10 = ([13, 10], 1) := by simp [estep, h2]
    show encW (10 :: t) st = _
    rw [encW_cons, e]; rfl
  | cons c cs =>
    have e : estep st c = (if c = 46 then [46, c] else [c], 3) := by
      by_cases h46 : c = 46
      · subst h46; simp [estep, h2, h3]
      · simp [estep, h2, h3, h46, h.head.1, h.head.2]
    have e2 : encW (cs ++ 10 :: t) 3 = (cs ++ 13 :: 10 :: (encW t 1).1, (encW t 1).2) := by
      have e3 : estep 3 10 = ([13, 10], 1) := by simp [estep]
      rw [encW_append, encW3_clean cs h.tail]
      show (cs ++ (encW (10 :: t) 3).1, (encW (10 :: t) 3).2) = _
      rw [encW_cons, e3]; rfl
    rw [List.cons_append, encW_cons, e, e2]
    by_cases h46 : c = 46 <;> simp [stuff, h46]
theorem encW_rest (l : List UInt8) (st : Nat) (hs : st = 0 ∨ st = 1) (h : Clean l) (hne : l ≠ []) : encW l st = (stuff l, 3) := by
  have h2 : st ≠ 2 := by omega
  have h3 : st ≠ 3 := by omega
  cases l with
  | nil => exact absurd rfl hne
  | cons c cs =>
    have e : estep st c = (if c = 46 then [46, c] else [c], 3) := by
      by_cases h46 : c = 46
      · subst h46; simp [estep, h2, h3]
      · simp [estep, h2, h3, h46, h.head.1, h.head.2]
    rw [encW_cons, e, encW3_clean cs h.tail]
    by_cases h46 : c = 46 <;> simp [stuff, h46]
end Go.Proofs.YthobojpbdeepoaaDoor
