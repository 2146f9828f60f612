/-
  What a store into a header leaves: plain laws of memory.
-/
import Derived.Test.YthobojpbdeepoaaDoorMapS
import Derived.Test.YthobojpbdeepoaaDoorSpecCanon
namespace Go.Proofs.YthobojpbdeepoaaDoor
open Go.RowKit Go.ChangeMaps Go.MapKept Go.WideShapes

set_option maxRecDepth 100000 in
theorem str_row : (Tryd.prog.info? 9).map (fun i => (i.zero, i.size, i.bytes)) = some (some (.string ⟨#[]⟩), 1, 16) := by kernel_rfl
set_option maxRecDepth 100000 in
theorem zero_strs (w : World) : (zeroValue 29).run Tryd.prog w = .ok (.slice none 0 0) w := by kernel_rfl

/-- What Add leaves: some header in which the key's texts are one more. -/
def PutPost (w : World) (base b n : Nat) (D : DataW Value) (F' : List UInt8 → List (List UInt8)) (L : List Nat) (e : Ending) (w' : World) : Prop :=
  e = .returned (.tuple #[]) ∧ ∃ D' L', HM w' base b (n + 1) D' F' L' ∧ Turned (b :: L) w w' ∧ (∀ g, g ∈ L' → g ∈ L ∨ w.heap.size ≤ g) ∧ ∀ x g, (look D' x).ownBlock = some g → (∃ y, (look D y).ownBlock = some g) ∨ w.heap.size ≤ g

/-- The texts at the canonical key, one more. -/
def addF (F : List UInt8 → List (List UInt8)) (k v : List UInt8) : List UInt8 → List (List UInt8) := fun x => if x = k then F k ++ [v] else F x
/-- .. one alone. -/
def setF (F : List UInt8 → List (List UInt8)) (k v : List UInt8) : List UInt8 → List (List UInt8) := fun x => if x = k then [v] else F x
/-- .. none. -/
def delF (F : List UInt8 → List (List UInt8)) (k : List UInt8) : List UInt8 → List (List UInt8) := fun x => if x = k then [] else F x

theorem canon_len (l : List UInt8) : (canon l).length = l.length := by
  unfold canon
  split
  · exact canL_length _ _
  · rfl
section
variable {w : World} {base b n : Nat} {D : DataW Value} {F : List UInt8 → List (List UInt8)} {L : List Nat}
/-- A slice of one text, made anew. -/
theorem one_sv (w : World) (x : List UInt8) (base : Nat) (hb : base ≤ w.heap.size) : SV (w.alloc (.cells #[tv x] 9)) base (.slice (some ⟨w.heap.size, 0, none⟩) 1 1) [x] := by
  refine .inr ⟨w.heap.size, 0, 1, rfl, Nat.le_refl _, hb, by simp, fun j z hj => ?_, fun h => absurd h (by simp)⟩
  have h1 := cell_one_new w (tv x) 9 j (tv z)
  match j, hj with
  | 0, hj =>
    simp at hj
    subst hj
    have h2 := h1 rfl
    rw [Nat.zero_add]
    exact h2
set_option maxRecDepth 100000 in
/-- Behind the store of what an append gave. -/
theorem HM.added {w1 wa w2 w3 : World} {k v : List UInt8} {v' : Value} (h : HM w base b n D F L) (h1 : Turned [] w w1) (ha : Turned [] w1 wa) (hs : SV w2 base v' (F k ++ [v])) (hg : wa.grownBy w2 (roomOf (look D k)))
    (hat : v'.ownBlock = some wa.heap.size ∨ ∃ g, roomOf (look D k) = some g ∧ v'.ownBlock = some g)
    (h2 : w3.ownsMap Tryd.prog 9 RSl b (n + 1) (D.put (kl k) (.held v'))) (hg2 : w2.grownBy w3 (some b)) : PutPost w base b n D (addF F k v) L (.returned (.tuple #[])) w3 := by
  have hM := h.keepNew (h1.trans ha)
  obtain ⟨p1, p2, p3⟩ := hM.put (zs' := F k ++ [v]) hg hs (by have := h.cnt k; simp; omega) (fun g hgb => by
    rcases hat with e | ⟨g', e1, e2⟩
    · rw [e] at hgb; cases hgb; exact .inl (Nat.le_refl _)
    · rw [e2] at hgb; cases hgb; exact .inr e1) h2 hg2
  have HSZ := (h1.trans ha).size
  refine ⟨rfl, _, _, p1, ((h1.trans ha).mono (by simp)).trans p2, fun g hgl => ?_, fun x g hx => (p3 x g hx).imp id (fun h => Nat.le_trans HSZ h)⟩
  rcases List.mem_append.1 hgl with hgl | hgl
  · exact .inl hgl
  · have hr : roomOf v' = some g := by simpa using hgl
    have hb := room_own hr
    rcases hat with e | ⟨g', e1, e2⟩
    · rw [e] at hb; cases hb
      exact .inr (h1.trans ha).size
    · rw [e2] at hb; cases hb
      exact .inl (h.room k _ e1)
set_option maxRecDepth 100000 in
theorem HM.setted {w1 w3 : World} {k v : List UInt8} (h : HM w base b n D F L) (h1 : Turned [] w w1) (hb : base ≤ w.heap.size)
    (h2 : w3.ownsMap Tryd.prog 9 RSl b (n + 1) (D.put (kl k) (.held (.slice (some ⟨w1.heap.size, 0, none⟩) 1 1)))) (hg2 : (w1.alloc (.cells #[tv v] 9)).grownBy w3 (some b)) : PutPost w base b n D (setF F k v) L (.returned (.tuple #[])) w3 := by
  have hM := h.keepNew h1
  obtain ⟨p1, p2, p3⟩ := hM.put (zs' := [v]) (World.grownBy_alloc _ _ _) (one_sv w1 v base (Nat.le_trans hb h1.size)) (by simp) (fun g hgb => by cases hgb; exact .inl (Nat.le_refl _)) h2 hg2
  have HSZ := h1.size
  refine ⟨rfl, _, _, p1, (h1.mono (by simp)).trans p2, fun g hgl => ?_, fun x g hx => (p3 x g hx).imp id (fun h => Nat.le_trans HSZ h)⟩
  rcases List.mem_append.1 hgl with hgl | hgl
  · exact .inl hgl
  · simp [room_slice] at hgl
set_option maxRecDepth 100000 in
/-- Behind a delete. -/
theorem HM.struck {w1 w2 : World} {k : List UInt8} (h : HM w base b n D F L) (h1 : Turned [] w w1) (h2 : w2.ownsMap Tryd.prog 9 RSl b n (D.del (kl k))) (ht : w1.mapTurned w2 b) : PutPost w base b n D (delF F k) L (.returned (.tuple #[])) w2 := by
  have hT : Turned [b] w1 w2 := by
    obtain ⟨es, clock, es', clock', hb, rfl⟩ := ht
    exact ⟨rfl, rfl, rfl, by simp [setBlock], fun k _ hk => heap_setBlock_other hb _ (by simpa using hk)⟩
  obtain ⟨hd, hdl⟩ := (h.keepNew h1).del h2 hT
  exact ⟨rfl, _, L, ⟨hd.own.mono (Nat.le_succ n), hd.sv, hd.apart, hd.room, hd.lower, fun k => Nat.le_succ_of_le (hd.cnt k), hd.ll⟩, (h1.mono (by simp)).trans (hT.mono (by simp)), fun g hg => .inl hg, fun x g hx => .inl (hdl x g hx)⟩
end

theorem cell_new (w : World) (x : Value) (t : TypeId) : (w.alloc (.cells #[x] t)).cell? ⟨w.heap.size, 0, none⟩ = some x := by
  have h := cell_one_new w x t 0 x rfl
  exact h
theorem SV.slice {w : World} {base : Nat} {v : Value} {zs : List (List UInt8)} (h : SV w base v zs) : ∃ p n c, v = .slice p n c := by
  obtain ⟨p, c, h, _⟩ := h.form
  exact ⟨p, _, c, h⟩
set_option maxRecDepth 100000 in
/-- The map behind an append. -/
theorem HM.own_room {w w1 w2 : World} {base b n : Nat} {D : DataW Value} {F : List UInt8 → List (List UInt8)} {L : List Nat} (h : HM w base b n D F L) (ht : Turned [] w w1) (k : List UInt8) (hg : w1.grownBy w2 (roomOf (look D k))) :
    w2.ownsMap Tryd.prog 9 RSl b n D :=
  (h.keepNew ht).own.kept hg (fun e => by
    have := (h.keepNew ht).ne k b (room_own e.symm)
    exact this rfl)
end Go.Proofs.YthobojpbdeepoaaDoor
