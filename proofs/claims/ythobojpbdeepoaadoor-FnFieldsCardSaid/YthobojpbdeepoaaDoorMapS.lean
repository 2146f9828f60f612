/-
  A map from texts to slices of texts, made by the call itself: look-up, store, delete, range; the slices themselves are opaque to the map, what they hold is said beside it.
-/
import Derived.Test.YthobojpbdeepoaaDoorSlc
import Derived.Maps.OwnSet
import Derived.Maps.Views
import Derived.Maps.RangeWalk
namespace Go.Proofs.YthobojpbdeepoaaDoor
open Go.RowKit

/-- An element reads as itself. -/
def RSl : Value → Option (DataW Value × List MemPlace)
  | .slice p n c => some (.held (.slice p n c), [])
  | _ => none
theorem RSl_mk (p : Option Addr) (n c : Nat) : RSl (.slice p n c) = some (.held (.slice p n c), []) := rfl
theorem RSl_inv {v : Value} {y : DataW Value × List MemPlace} (h : RSl v = some y) : ∃ x : Option Addr × Nat × Nat, v = .slice x.1 x.2.1 x.2.2 ∧ y = (.held v, []) := by
  unfold RSl at h
  split at h
  · cases h
    exact ⟨⟨_, _, _⟩, rfl, rfl⟩
  · cases h

/-- A key. -/
def kl (k : List UInt8) : Lit := .string k
theorem kl_inj {a b : List UInt8} (h : kl a = kl b) : a = b := by unfold kl at h; injection h
theorem kl_lit (k : List UInt8) : WideAt.IsKeyLit (kl k) := by trivial

/-- What stands at a key: a slice; nil where nothing does. -/
def look (D : DataW Value) (k : List UInt8) : Value :=
  match D.atKey (kl k) (.held (.slice none 0 0)) with
  | .held v => v
  | _ => .slice none 0 0

section
variable {D : DataW Value} {k k' : List UInt8}
theorem look_put (hD : Maps.IsMap D) (v : Value) : look (D.put (kl k) (.held v)) k = v := by
  unfold look
  rw [Maps.atKey_put_same hD (kl_lit k)]
theorem look_put_other (hne : k' ≠ k) (d : DataW Value) : look (D.put (kl k) d) k' = look D k' := by
  unfold look
  rw [Maps.atKey_put_other (fun e => hne (kl_inj e))]
theorem look_del : look (D.del (kl k)) k = .slice none 0 0 := by
  unfold look
  rw [Maps.atKey_del_same]
theorem look_del_other (hne : k' ≠ k) : look (D.del (kl k)) k' = look D k' := by
  unfold look
  rw [Maps.atKey_del_other (fun e => hne (kl_inj e))]
theorem look_has (h : look D k ≠ .slice none 0 0) : Maps.has D (kl k) = true := by
  cases hh : Maps.has D (kl k)
  · refine absurd ?_ h
    unfold look
    rw [Maps.atKey_of_not_has hh]
  · rfl
theorem look_at {v : Value} (h : ∀ zd, D.atKey (kl k) zd = .held v) : look D k = v := by
  unfold look
  rw [h]
theorem look_empty (k : List UInt8) : look (.map []) k = .slice none 0 0 := rfl
end

set_option maxRecDepth 100000 in
theorem keyed : Maps.Keyed Tryd.prog 9 := Maps.string_keyed Tryd.underlying9
set_option maxRecDepth 100000 in
theorem key_of (s : ByteArray) (hs : s.size ≤ maxLen) : keyOf Tryd.prog 9 (.string s) = some (kl (lst s)) := WideMaps.keyOf_string_mk Tryd.underlying9 hs

/-- The header in block b: what each key's slice holds; the blocks that an append may write are on the list L, none is shared; n bounds all. -/
structure HM (w : World) (base b n : Nat) (D : DataW Value) (F : List UInt8 → List (List UInt8)) (L : List Nat) : Prop where
  own : w.ownsMap Tryd.prog 9 RSl b n D
  sv : ∀ k, SV w base (look D k) (F k)
  apart : ∀ k k' g, k ≠ k' → roomOf (look D k) = some g → (look D k').ownBlock ≠ some g
  room : ∀ k g, roomOf (look D k) = some g → g ∈ L
  lower : ∀ x g, (look D x).ownBlock = some g → g ≠ b
  cnt : ∀ k, (F k).length ≤ n
  ll : ∀ g, g ∈ L → base ≤ g ∧ g < w.heap.size

section
variable {w w' : World} {base b n : Nat} {D : DataW Value} {F : List UInt8 → List (List UInt8)} {L : List Nat}
set_option maxRecDepth 100000 in
theorem HM.ne (h : HM w base b n D F L) (k : List UInt8) : ∀ g, (look D k).ownBlock = some g → g ≠ b := h.lower k
set_option maxRecDepth 100000 in
theorem HM.keepNew (h : HM w base b n D F L) (ht : Turned [] w w') : HM w' base b n D F L := by
  refine ⟨?_, fun k => (h.sv k).turned ht (by simp), h.apart, h.room, h.lower, h.cnt, fun g hg => ⟨(h.ll g hg).1, Nat.lt_of_lt_of_le (h.ll g hg).2 ht.size⟩⟩
  exact h.own.kept (row := none) ⟨ht.os, ht.tape, ht.output, ht.size, fun k hk _ => ht.block k hk (by simp)⟩ (by simp)
set_option maxRecDepth 100000 in
theorem HM.drewN (h : HM w base b n D F L) (q : Nat) : HM (w.drewN q) base b n D F L := h.keepNew ((Turned.refl _ _).drewN q)
set_option maxRecDepth 100000 in
/-- Blocks that are none of the header's are written. -/
theorem HM.keepS {S : List Nat} (h : HM w base b n D F L) (ht : Turned S w w') (hb : b ∉ S) (hS : ∀ k g, (look D k).ownBlock = some g → g ∉ S) : HM w' base b n D F L := by
  refine ⟨?_, fun k => (h.sv k).turned ht (hS k), h.apart, h.room, h.lower, h.cnt, fun g hg => ⟨(h.ll g hg).1, Nat.lt_of_lt_of_le (h.ll g hg).2 ht.size⟩⟩
  have hlt := h.own.lt
  obtain ⟨es, clock, hbk, r⟩ := h.own
  exact ⟨es, clock, (ht.block b hlt hb).trans hbk, r⟩
set_option maxRecDepth 100000 in
theorem HM.made (w : World) (base : Nat) : HM (w.alloc (.map #[] 0)) base w.heap.size 0 (.map []) (fun _ => []) [] where
  own := World.ownsMap_made w _ _ _
  sv k := by rw [look_empty]; exact SV.nil _ _
  apart k k' g _ h := by rw [look_empty] at h; cases h
  room k g h := by rw [look_empty] at h; cases h
  lower x g h := by rw [look_empty] at h; cases h
  cnt k := Nat.le_refl _
  ll g h := by cases h
set_option maxRecDepth 100000 in
/-- The look-up's run. -/
theorem HM.look_run {t : TypeId} (h : HM w base b n D F L) (ht : Tryd.prog.underlying t = some (.map 9 29)) (hz : (zeroValue 29).run Tryd.prog w = .ok (.slice none 0 0) w) (s : ByteArray) (hs : s.size ≤ maxLen) :
    (Instr.lookup t (.map (some b)) (.string s) false).run Tryd.prog w = .ok (look D (lst s)) w := by
  obtain ⟨v, ps, hrun, hv⟩ := h.own.lookup keyed ht hz (RSl_mk none 0 0) (key_of s hs)
  obtain ⟨x, rfl, he⟩ := RSl_inv hv
  injection he with he _
  rw [hrun]
  congr 1
  unfold look
  rw [he]
set_option maxRecDepth 100000 in
/-- A key's slice is set anew: behind an append onto it, or to a new one. -/
theorem HM.put {w2 : World} {k : List UInt8} {v' : Value} {zs' : List (List UInt8)} (h : HM w base b n D F L) (hg : w.grownBy w' (roomOf (look D k))) (hs : SV w' base v' zs') (hl : zs'.length ≤ n + 1)
    (hloc : ∀ g, v'.ownBlock = some g → w.heap.size ≤ g ∨ roomOf (look D k) = some g)
    (h2 : w2.ownsMap Tryd.prog 9 RSl b (n + 1) (D.put (kl k) (.held v'))) (hg2 : w'.grownBy w2 (some b)) :
    HM w2 base b (n + 1) (D.put (kl k) (.held v')) (fun x => if x = k then zs' else F x) (L ++ (roomOf v').toList) ∧ Turned (b :: L) w w2 ∧
      ∀ x g, (look (D.put (kl k) (.held v')) x).ownBlock = some g → (∃ y, (look D y).ownBlock = some g) ∨ w.heap.size ≤ g := by
  have hM := h.own.isMap
  have lk : ∀ x, look (D.put (kl k) (.held v')) x = if x = k then v' else look D x := by
    intro x
    split
    · subst_vars; exact look_put hM v'
    · rename_i hx; exact look_put_other hx _
  have hbw : b < w.heap.size := h.own.lt
  have nb : ∀ g, v'.ownBlock = some g → g ≠ b := fun g hg e => by
    rcases hloc g hg with h3 | h3
    · omega
    · exact h.lower k g (room_own h3) e
  have old : ∀ x, x ≠ k → ∀ g, (look D x).ownBlock = some g → v'.ownBlock ≠ some g := by
    intro x hx g hg hv
    have h1 := ((h.sv x).lt g hg).2
    rcases hloc g hv with h3 | h3
    · omega
    · exact h.apart k x g (fun e => hx e.symm) h3 hg
  refine ⟨⟨h2, ?_, ?_, ?_, (fun x g hx => by rw [lk] at hx; split at hx <;> first | exact nb g hx | exact h.lower x g hx), ?_, ?_⟩, ?_, ?_⟩
  · intro x
    rw [lk]
    by_cases hx : x = k
    · rw [if_pos hx, if_pos hx]
      exact hs.grown hg2 (fun g hg e => nb g hg (by injection e with e; exact e.symm))
    · rw [if_neg hx, if_neg hx]
      exact ((h.sv x).grown hg (fun g hgx e => h.apart k x g (fun e => hx e.symm) e hgx)).grown hg2 (fun g hg e => h.ne x g hg (by injection e with e; exact e.symm))
  · intro x x' g hne hr
    rw [lk] at hr ⊢
    by_cases hx : x = k
    · rw [if_pos hx] at hr
      by_cases hx' : x' = k
      · exact absurd (hx.trans hx'.symm) hne
      · rw [if_neg hx']
        exact fun e => old x' hx' g e (room_own hr)
    · rw [if_neg hx] at hr
      by_cases hx' : x' = k
      · rw [if_pos hx']
        exact old x hx g (room_own hr)
      · rw [if_neg hx']
        exact h.apart x x' g hne hr
  · intro x g hr
    rw [lk] at hr
    by_cases hx : x = k
    · rw [if_pos hx] at hr
      simp [hr]
    · rw [if_neg hx] at hr
      exact List.mem_append_left _ (h.room x g hr)
  · intro x
    by_cases hx : x = k
    · rw [if_pos hx]; exact hl
    · rw [if_neg hx]
      have := h.cnt x
      omega
  · intro g hgl
    rcases List.mem_append.1 hgl with hgl | hgl
    · exact ⟨(h.ll g hgl).1, Nat.lt_of_lt_of_le (h.ll g hgl).2 (Nat.le_trans hg.size hg2.size)⟩
    · have : roomOf v' = some g := by simpa using hgl
      exact ⟨(hs.lt g (room_own this)).1, Nat.lt_of_lt_of_le (hs.lt g (room_own this)).2 hg2.size⟩
  · refine ((Turned.refl (b :: L) w).grown hg (fun x hx => .inl (List.mem_cons_of_mem _ (h.room k x hx)))).grown hg2 (fun x hx => .inl ?_)
    injection hx with hx
    simp [hx]
  · intro x g hx
    rw [lk] at hx
    split at hx
    · rcases hloc g hx with h3 | h3
      · exact .inr h3
      · exact .inl ⟨k, room_own h3⟩
    · exact .inl ⟨x, hx⟩
set_option maxRecDepth 100000 in
/-- A key is struck. -/
theorem HM.del {k : List UInt8} (h : HM w base b n D F L) (h2 : w'.ownsMap Tryd.prog 9 RSl b n (D.del (kl k))) (ht : Turned [b] w w') : HM w' base b n (D.del (kl k)) (fun x => if x = k then [] else F x) L ∧ ∀ x g, (look (D.del (kl k)) x).ownBlock = some g → ∃ y, (look D y).ownBlock = some g := by
  have lk : ∀ x, look (D.del (kl k)) x = if x = k then .slice none 0 0 else look D x := by
    intro x
    split
    · subst_vars; exact look_del
    · rename_i hx; exact look_del_other hx
  refine ⟨⟨h2, ?_, ?_, ?_, (fun x g hx => by rw [lk] at hx; split at hx <;> first | exact h.lower x g hx | cases hx), ?_, fun g hg => ⟨(h.ll g hg).1, Nat.lt_of_lt_of_le (h.ll g hg).2 ht.size⟩⟩, ?_⟩
  · intro x
    rw [lk]
    split
    · exact SV.nil _ _
    · exact (h.sv x).turned ht (fun g hg => by simpa using h.ne x g hg)
  · intro x x' g hne hr
    rw [lk] at hr ⊢
    split at hr
    · cases hr
    · split
      · intro e; cases e
      · exact h.apart x x' g hne hr
  · intro x g hr
    rw [lk] at hr
    split at hr
    · cases hr
    · exact h.room x g hr
  · intro x
    split
    · exact Nat.zero_le _
    · exact h.cnt x
  · intro x g hx
    rw [lk] at hx
    split at hx
    · cases hx
    · exact ⟨x, hx⟩
end
end Go.Proofs.YthobojpbdeepoaaDoor
