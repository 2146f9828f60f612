/-
  The header that is being read: its state beside the reader's, and what a store leaves.
-/
import Derived.Test.YthobojpbdeepoaaDoorHdrStore
namespace Go.Proofs.YthobojpbdeepoaaDoor
open Go.RowKit Go.ChangeMaps Go.MapKept Go.WideShapes

/-- The header in block b holds the fields all; rem texts are free in the row SB, from used on; v is the reader's buffer. -/
structure HS (w : World) (base b n : Nat) (D : DataW Value) (all : List Fd) (L : List Nat) (SB used rem : Nat) (v : Value) : Prop where
  hm : HM w base b n D (fun x => valsOf x all) L
  sb : 0 < rem → (∃ cur : Array Value, w.heap[SB]? = some (.cells cur 9 (0, 0)) ∧ cur.size = used + rem) ∧ base ≤ SB ∧ SB ∉ L ∧ SB ≠ b ∧ ∀ x g off m c, look D x = .slice (some ⟨g, off, none⟩) m c → g = SB → off + m ≤ used ∧ roomOf (look D x) = none
  bf : ∀ g, v.ownBlock = some g → g ≠ b ∧ g ∉ L ∧ (∀ x, (look D x).ownBlock ≠ some g) ∧ (0 < rem → g ≠ SB)

section
variable {w w1 w2 w' : World} {base b n SB used rem : Nat} {D : DataW Value} {all : List Fd} {L : List Nat} {v v' : Value}
theorem HS.sbLt (h : HS w base b n D all L SB used rem v) (h0 : 0 < rem) : SB < w.heap.size := by
  obtain ⟨⟨cur, h1, _⟩, _⟩ := h.sb h0
  exact (Array.getElem?_eq_some_iff.1 h1).1
theorem HS.keepS {S : List Nat} (h : HS w base b n D all L SB used rem v) (ht : Turned S w w') (hb : b ∉ S) (hl : ∀ x g, (look D x).ownBlock = some g → g ∉ S) (hs : 0 < rem → SB ∉ S) : HS w' base b n D all L SB used rem v := by
  refine ⟨h.hm.keepS ht hb hl, fun h0 => ?_, h.bf⟩
  obtain ⟨⟨cur, h1, h2⟩, h3⟩ := h.sb h0
  exact ⟨⟨cur, (ht.block SB (h.sbLt h0) (hs h0)).trans h1, h2⟩, h3⟩
theorem HS.keepNew (h : HS w base b n D all L SB used rem v) (ht : Turned [] w w') : HS w' base b n D all L SB used rem v := h.keepS ht (by simp) (by simp) (by simp)
/-- Behind a call of the reader's. -/
theorem HS.reader {k : RK} {T : Nat} (h : HS w base b n D all L SB used rem v) (ht : Turned (contBlocks k T v) w w1) (ho : OB w v v') (hlow : ∀ x, x ∈ T :: k.blocks → x < base ∧ x < b) : HS w1 base b n D all L SB used rem v' := by
  have mem : ∀ x, x ∈ contBlocks k T v → (x < base ∧ x < b) ∨ v.ownBlock = some x := fun x hx => by
    simp only [contBlocks, List.mem_cons, List.mem_append] at hx
    rcases hx with rfl | hx | hx
    · exact .inl (hlow _ (by simp))
    · exact .inl (hlow x (List.mem_cons_of_mem _ (by simpa [RK.blocks] using hx)))
    · exact .inr (by simpa using hx)
  have hk : HS w1 base b n D all L SB used rem v := by
    refine h.keepS ht (fun hx => ?_) (fun x g hg hx => ?_) (fun h0 hx => ?_)
    · rcases mem b hx with h1 | h1
      · omega
      · exact (h.bf b h1).1 rfl
    · rcases mem g hx with h1 | h1
      · have := ((h.hm.sv x).lt g hg).1; omega
      · exact (h.bf g h1).2.2.1 x hg
    · rcases mem SB hx with h1 | h1
      · have := (h.sb h0).2.1; omega
      · exact (h.bf SB h1).2.2.2 h0 rfl
  refine ⟨hk.hm, hk.sb, fun g hg => ?_⟩
  rcases ho with e | ⟨g', e, hge⟩
  · exact h.bf g (by rw [← e]; exact hg)
  · rw [e] at hg
    cases hg
    refine ⟨fun e => ?_, fun hL => ?_, fun x hx => ?_, fun h0 e => ?_⟩
    · have := h.hm.own.lt; omega
    · have := (h.hm.ll _ hL).2; omega
    · have := ((h.hm.sv x).lt _ hx).2; omega
    · have := h.sbLt h0; omega
/-- Behind a write in place. -/
theorem HS.inplace {k : RK} {w0 : World} {c : Nat} (h : HS w base b n D all L SB used rem v) (h0 : ∃ v0, HS w0 base b n D all L SB used rem v0) (ht : Turned [c] w w') (hlow : ∀ x, x ∈ k.blocks → x < base ∧ x < b)
    (hp : c = k.C ∨ w0.heap.size ≤ c ∨ v.ownBlock = some c) : HS w' base b n D all L SB used rem v := by
  obtain ⟨v0, h0⟩ := h0
  have hC : k.C < base ∧ k.C < b := hlow _ (by simp [RK.blocks])
  refine h.keepS ht (fun hx => ?_) (fun x g hg hx => ?_) (fun hr hx => ?_)
  · rw [List.mem_singleton] at hx
    subst hx
    rcases hp with e | e | e
    · omega
    · have := h0.hm.own.lt; omega
    · exact (h.bf b e).1 rfl
  · rw [List.mem_singleton] at hx
    subst hx
    rcases hp with e | e | e
    · have := ((h.hm.sv x).lt _ hg).1; omega
    · have := ((h0.hm.sv x).lt _ hg).2; omega
    · exact (h.bf _ e).2.2.1 x hg
  · rw [List.mem_singleton] at hx
    subst hx
    rcases hp with e | e | e
    · have := (h.sb hr).2.1; omega
    · have := h0.sbLt hr; omega
    · exact (h.bf _ e).2.2.2 hr rfl

/-- A text more at a key: from w1 (behind the text's own store or append) by the map's store to w2. -/
theorem HS.put {key val : List UInt8} {used' rem' : Nat} (h : HS w base b n D all L SB used rem v) (hsz : w.heap.size ≤ w1.heap.size) (hs : SV w1 base v' (valsOf key all ++ [val])) (hold : ∀ x, x ≠ key → SV w1 base (look D x) (valsOf x all))
    (nb : ∀ g, v'.ownBlock = some g → g ≠ b) (hr1 : ∀ g, roomOf v' = some g → ∀ x, x ≠ key → (look D x).ownBlock ≠ some g) (hr2 : ∀ x, x ≠ key → ∀ g, roomOf (look D x) = some g → v'.ownBlock ≠ some g) (hvb : ∀ g, v'.ownBlock = some g → v.ownBlock ≠ some g)
    (hsb : 0 < rem' → 0 < rem ∧ (∃ cur : Array Value, w1.heap[SB]? = some (.cells cur 9 (0, 0)) ∧ cur.size = used' + rem') ∧ used ≤ used' ∧ roomOf v' ≠ some SB ∧ ∀ g off m c, v' = .slice (some ⟨g, off, none⟩) m c → g = SB → off + m ≤ used' ∧ roomOf v' = none)
    (h2 : w2.ownsMap Tryd.prog 9 RSl b (n + 1) (D.put (kl key) (.held v'))) (hg2 : w1.grownBy w2 (some b)) :
    HS w2 base b (n + 1) (D.put (kl key) (.held v')) (insF all (key, val)) (L ++ (roomOf v').toList) SB used' rem' v := by
  have hM := h.hm.own.isMap
  have lk : ∀ x, look (D.put (kl key) (.held v')) x = if x = key then v' else look D x := by
    intro x
    split
    · subst_vars; exact look_put hM v'
    · rename_i hx; exact look_put_other hx _
  have vk : ∀ x, valsOf x (insF all (key, val)) = if x = key then valsOf key all ++ [val] else valsOf x all := by
    intro x
    unfold insF
    split
    · subst_vars; exact vals_ins_same _ _ _
    · rename_i hx; exact vals_ins_other _ hx _
  refine ⟨⟨h2, ?_, ?_, ?_, (fun x g hx => by rw [lk] at hx; split at hx <;> first | exact nb g hx | exact h.hm.lower x g hx), ?_, ?_⟩, ?_, ?_⟩
  · intro x
    rw [lk]
    rw [vk]
    by_cases hx : x = key
    · rw [if_pos hx, if_pos hx]
      exact hs.grown hg2 (fun g hg e => nb g hg (by injection e with e; exact e.symm))
    · rw [if_neg hx, if_neg hx]
      exact (hold x hx).grown hg2 (fun g hg e => by
        injection e with e
        exact h.hm.lower x g hg e.symm)
  · intro x x' g hne hr
    rw [lk] at hr ⊢
    by_cases hx : x = key
    · rw [if_pos hx] at hr
      rw [if_neg (fun e => hne (hx.trans e.symm))]
      exact hr1 g hr x' (fun e => hne (hx.trans e.symm))
    · rw [if_neg hx] at hr
      by_cases hx' : x' = key
      · rw [if_pos hx']; exact hr2 x hx g hr
      · rw [if_neg hx']; exact h.hm.apart x x' g hne hr
  · intro x g hr
    rw [lk] at hr
    by_cases hx : x = key
    · rw [if_pos hx] at hr
      simp [hr]
    · rw [if_neg hx] at hr
      exact List.mem_append_left _ (h.hm.room x g hr)
  · intro x
    rw [vk]
    split
    · have := h.hm.cnt key
      simp only [List.length_append, List.length_singleton] at this ⊢
      omega
    · exact Nat.le_succ_of_le (h.hm.cnt x)
  · intro g hgl
    rcases List.mem_append.1 hgl with hgl | hgl
    · exact ⟨(h.hm.ll g hgl).1, Nat.lt_of_lt_of_le (h.hm.ll g hgl).2 (Nat.le_trans hsz hg2.size)⟩
    · have : roomOf v' = some g := by simpa using hgl
      exact ⟨(hs.lt g (room_own this)).1, Nat.lt_of_lt_of_le (hs.lt g (room_own this)).2 hg2.size⟩
  · intro h0
    obtain ⟨hr0, ⟨cur, c1, c2⟩, hu, hrv, hv⟩ := hsb h0
    obtain ⟨_, hbS, hSL, hSb, hap⟩ := h.sb hr0
    refine ⟨⟨cur, (hg2.block SB (Array.getElem?_eq_some_iff.1 c1).1 (fun e => by injection e with e; exact hSb e)).trans c1, c2⟩, hbS, fun hm => ?_, hSb, fun x g off m c hx hgS => ?_⟩
    · rcases List.mem_append.1 hm with hm | hm
      · exact hSL hm
      · exact hrv (by simpa using hm)
    · rw [lk] at hx ⊢
      split at hx
      · rename_i hxk
        rw [if_pos hxk]
        exact hv g off m c hx hgS
      · rename_i hxk
        rw [if_neg hxk]
        obtain ⟨q1, q2⟩ := hap x g off m c hx hgS
        exact ⟨by omega, q2⟩
  · intro g hg
    obtain ⟨q1, q2, q3, q4⟩ := h.bf g hg
    refine ⟨q1, fun hm => ?_, fun x hx => ?_, fun h0 => q4 (hsb h0).1⟩
    · rcases List.mem_append.1 hm with hm | hm
      · exact q2 hm
      · exact hvb g (room_own (by simpa using hm)) hg
    · rw [lk] at hx
      split at hx
      · exact hvb g hx hg
      · exact q3 x hx

/-- The text goes into the row that was made ahead. -/
theorem HS.putRow {key val : List UInt8} (h : HS w base b n D all L SB used (rem + 1) v) (hnil : look D key = .slice none 0 0)
    (h2 : w2.ownsMap Tryd.prog 9 RSl b (n + 1) (D.put (kl key) (.held (.slice (some ⟨SB, used, none⟩) 1 1)))) (hg2 : (w.setCell ⟨SB, used, none⟩ (tv val)).grownBy w2 (some b)) :
    HS w2 base b (n + 1) (D.put (kl key) (.held (.slice (some ⟨SB, used, none⟩) 1 1))) (insF all (key, val)) L SB (used + 1) rem v ∧ Turned [SB, b] w w2 := by
  obtain ⟨⟨cur, c1, c2⟩, hbS, hSL, hSb, hap⟩ := h.sb (Nat.succ_pos _)
  have hlt := h.sbLt (Nat.succ_pos _)
  have hr : roomOf (.slice (some ⟨SB, used, none⟩) 1 1) = none := by rw [room_slice, if_neg (by omega)]
  have hval : valsOf key all = [] := by
    have := h.hm.sv key
    rw [hnil] at this
    obtain ⟨_, _, h3, _⟩ := this.form
    injection h3 with _ h3
    exact List.length_eq_zero_iff.1 h3.symm
  have hcell : w.cell? ⟨SB, used, none⟩ = some cur[used] := by
    rw [cell_of_row w SB used cur _ _ c1]
    exact Array.getElem?_eq_getElem (by omega)
  have hset : (w.setCell ⟨SB, used, none⟩ (tv val)).heap[SB]? = some (.cells (cur.setIfInBounds used (tv val)) 9 (0, 0)) := by simp [World.setCell, Array.getElem?_modify, c1]
  have res := h.put (w1 := w.setCell ⟨SB, used, none⟩ (tv val)) (w2 := w2) (v' := .slice (some ⟨SB, used, none⟩) 1 1) (key := key) (val := val) (used' := used + 1) (rem' := rem) (by simp [World.setCell])
    (by
      rw [hval]
      refine .inr ⟨SB, used, 1, rfl, Nat.le_refl _, hbS, by simpa [World.setCell] using hlt, fun j z hj => ?_, fun h => absurd h (by simp)⟩
      match j, hj with
      | 0, hj =>
        simp at hj
        subst hj
        exact World.cell?_setCell_same _ _ _ hcell)
    (fun x _ => (h.hm.sv x).setCell (tv val) (fun g off m c e hg => hap x g off m c e hg))
    (fun g hg e => by
      injection hg with hg
      subst hg
      exact hSb e) (fun g hg => by rw [hr] at hg; cases hg) (fun x _ g hg e => by
      injection e with e
      subst e
      exact hSL (h.hm.room x _ hg))
    (fun g hg e => by
      injection hg with hg
      subst hg
      exact (h.bf _ e).2.2.2 (Nat.succ_pos _) rfl)
    (fun h0 => ⟨Nat.succ_pos _, ⟨_, hset, by simp; omega⟩, Nat.le_succ _, by rw [hr]; simp, fun g off m c e _ => ⟨by injection e with e1 e2; injection e1 with e1; injection e1 with _ e3; omega, hr⟩⟩) h2 hg2
  rw [hr] at res
  refine ⟨by simpa using res, ((Turned.refl [SB, b] w).setCell (.inl (by simp)) (tv val)).grown hg2 (fun x hx => .inl (by injection hx with hx; simp [hx]))⟩
/-- .. or behind those that are there. -/
theorem HS.putApp {key val : List UInt8} (h : HS w base b n D all L SB used rem v) (ha : Turned [] w w') (hs : SV w1 base v' (valsOf key all ++ [val])) (hg : w'.grownBy w1 (roomOf (look D key)))
    (hat : v'.ownBlock = some w'.heap.size ∨ ∃ g, roomOf (look D key) = some g ∧ v'.ownBlock = some g)
    (h2 : w2.ownsMap Tryd.prog 9 RSl b (n + 1) (D.put (kl key) (.held v'))) (hg2 : w1.grownBy w2 (some b)) (hvsz : ∀ g, v.ownBlock = some g → g < w.heap.size) :
    HS w2 base b (n + 1) (D.put (kl key) (.held v')) (insF all (key, val)) (L ++ (roomOf v').toList) SB used rem v ∧ Turned (b :: L) w w2 := by
  have hsz := ha.size
  have blk : ∀ g, v'.ownBlock = some g → w.heap.size ≤ g ∨ roomOf (look D key) = some g := fun g hgb => by
    rcases hat with e | ⟨g', e1, e2⟩
    · rw [e] at hgb; cases hgb; exact .inl hsz
    · rw [e2] at hgb; cases hgb; exact .inr e1
  have hk := h.keepNew ha
  refine ⟨h.put (w1 := w1) (Nat.le_trans hsz hg.size) hs (fun x hx => (hk.hm.sv x).grown hg (fun g hgx e => h.hm.apart key x g (fun e => hx e.symm) e hgx)) (fun g hgb e => ?_) (fun g hr x hx e => ?_) (fun x hx g hr e => ?_) (fun g hgb e => ?_) (fun h0 => ?_) h2 hg2, ?_⟩
  · rcases blk g hgb with h3 | h3
    · have := h.hm.own.lt; omega
    · exact h.hm.lower key g (room_own h3) e
  · rcases blk g (room_own hr) with h3 | h3
    · have := ((h.hm.sv x).lt g e).2; omega
    · exact h.hm.apart key x g (fun e => hx e.symm) h3 e
  · rcases blk g e with h3 | h3
    · have := ((h.hm.sv x).lt g (room_own hr)).2; omega
    · exact h.hm.apart key x g (fun e => hx e.symm) h3 (room_own hr)
  · rcases blk g hgb with h3 | h3
    · have := hvsz g e; omega
    · exact (h.bf g e).2.1 (h.hm.room key g h3)
  · obtain ⟨⟨cur, c1, c2⟩, hbS, hSL, hap⟩ := hk.sb h0
    have hlt := h.sbLt h0
    have hne : ∀ g, v'.ownBlock = some g → g ≠ SB := fun g hgb e => by
      rcases blk g hgb with h3 | h3
      · omega
      · exact hSL (by rw [← e]; exact h.hm.room key g h3)
    refine ⟨h0, ⟨cur, (hg.block SB (by omega) (fun e => hSL (h.hm.room key SB e.symm))).trans c1, c2⟩, Nat.le_refl _, fun e => hne SB (room_own e) rfl, fun g off m c e hgS => absurd hgS (hne g (by rw [e]; rfl))⟩
  · refine ((ha.mono (by simp)).grown hg (fun x hx => .inl (List.mem_cons_of_mem _ (h.hm.room key x hx)))).grown hg2 (fun x hx => .inl ?_)
    injection hx with hx
    simp [hx]
/-- The reader is as it was while the header is written. -/
theorem rdtb_keep {k : RK} {s : RS} {T bT : Nat} {xs : List UInt8} {S : List Nat} (hR : Rd w k s) (hT : Tb w k T bT v xs) (ht : Turned S w w') (hS : ∀ x, x ∈ S → bT ≤ x ∧ v.ownBlock ≠ some x) : Rd w' k s ∧ Tb w' k T bT v xs := by
  have h1 := hT.bb
  have h2 := hT.cb
  have h3 := hT.yb
  have h4 := hT.lt
  refine ⟨hR.keepOff ht (fun hx => ?_) (fun hx => ?_) (fun hx => ?_) (fun x hx => ?_), hT.keepS ht (fun hx => ?_) (fun x hx e => (hS x hx).2 e.symm)⟩
  · have := (hS _ hx).1; omega
  · have := (hS _ hx).1; omega
  · have := (hS _ hx).1; omega
  · have := (hS _ hx).1
    have := hT.kt
    exact ⟨by omega, hT.new x (by omega)⟩
  · have := (hS _ hx).1; omega
end
end Go.Proofs.YthobojpbdeepoaaDoor
