/-
  The contracts of MIMEHeader's Add, Set, Get, Values and Del.
-/
import Derived.Test.YtdhdcgliefjonaaMapS
import Derived.Test.YtdhdcgliefjonaaCanonical
namespace Go.Proofs.Ytdhdcgliefjonaa
open Go.RowKit Go.ChangeMaps Go.MapKept Go.WideShapes

theorem str_row : (Try.prog.info? 9).map (fun i => (i.zero, i.size, i.bytes)) = some (some (.string ⟨#[]⟩), 1, 16) := by kernel_rfl
theorem zero_strs (w : World) : (zeroValue 38).run Try.prog w = .ok (.slice none 0 0) w := by kernel_rfl

/-- What Add leaves: some header in which the key's texts are one more. -/
def PutPost (w : World) (base b n : Nat) (D : DataW Value) (F' : List UInt8 → List (List UInt8)) (L : List Nat) (e : Ending) (w' : World) : Prop :=
  e = .returned (.tuple #[]) ∧ ∃ D' L', HM w' base b (n + 1) D' F' L' ∧ Turned (b :: L) w w' ∧ (∀ g, g ∈ L' → g ∈ L ∨ w.heap.size ≤ g) ∧ ∀ x g, (look D' x).ownBlock = some g → (∃ y, (look D y).ownBlock = some g) ∨ w.heap.size ≤ g

/-- The texts at the canonical key, one more. -/
def addF (F : List UInt8 → List (List UInt8)) (k v : List UInt8) : List UInt8 → List (List UInt8) := fun x => if x = k then F k ++ [v] else F x
/-- .. one alone. -/
def setF (F : List UInt8 → List (List UInt8)) (k v : List UInt8) : List UInt8 → List (List UInt8) := fun x => if x = k then [v] else F x
/-- .. none. -/
def delF (F : List UInt8 → List (List UInt8)) (k : List UInt8) : List UInt8 → List (List UInt8) := fun x => if x = k then [] else F x

theorem canon_len (l : List UInt8) : (canon l).length = l.length := by
  unfold canon
  split
  · exact canL_length _ _
  · rfl
section
variable {w : World} {base b n : Nat} {D : DataW Value} {F : List UInt8 → List (List UInt8)} {L : List Nat}
/-- A slice of one text, made anew. -/
theorem one_sv (w : World) (x : List UInt8) (base : Nat) (hb : base ≤ w.heap.size) : SV (w.alloc (.cells #[tv x] 9)) base (.slice (some ⟨w.heap.size, 0, none⟩) 1 1) [x] := by
  refine .inr ⟨w.heap.size, 0, 1, rfl, Nat.le_refl _, hb, by simp, fun j z hj => ?_, fun h => absurd h (by simp)⟩
  have h1 := cell_one_new w (tv x) 9 j (tv z)
  match j, hj with
  | 0, hj =>
    simp at hj
    subst hj
    have h2 := h1 rfl
    rw [Nat.zero_add]
    exact h2
/-- Behind the store of what an append gave. -/
theorem HM.added {w1 wa w2 w3 : World} {k v : List UInt8} {v' : Value} (h : HM w base b n D F L) (h1 : Turned [] w w1) (ha : Turned [] w1 wa) (hs : SV w2 base v' (F k ++ [v])) (hg : wa.grownBy w2 (roomOf (look D k)))
    (hat : v'.ownBlock = some wa.heap.size ∨ ∃ g, roomOf (look D k) = some g ∧ v'.ownBlock = some g)
    (h2 : w3.ownsMap Try.prog 9 RS b (n + 1) (D.put (kl k) (.held v'))) (hg2 : w2.grownBy w3 (some b)) : PutPost w base b n D (addF F k v) L (.returned (.tuple #[])) w3 := by
  have hM := h.keepNew (h1.trans ha)
  obtain ⟨p1, p2, p3⟩ := hM.put (zs' := F k ++ [v]) hg hs (by have := h.cnt k; simp; omega) (fun g hgb => by
    rcases hat with e | ⟨g', e1, e2⟩
    · rw [e] at hgb; cases hgb; exact .inl (Nat.le_refl _)
    · rw [e2] at hgb; cases hgb; exact .inr e1) h2 hg2
  have HSZ := (h1.trans ha).size
  refine ⟨rfl, _, _, p1, ((h1.trans ha).mono (by simp)).trans p2, fun g hgl => ?_, fun x g hx => (p3 x g hx).imp id (fun h => Nat.le_trans HSZ h)⟩
  rcases List.mem_append.1 hgl with hgl | hgl
  · exact .inl hgl
  · have hr : roomOf v' = some g := by simpa using hgl
    have hb := room_own hr
    rcases hat with e | ⟨g', e1, e2⟩
    · rw [e] at hb; cases hb
      exact .inr (h1.trans ha).size
    · rw [e2] at hb; cases hb
      exact .inl (h.room k _ e1)
theorem HM.setted {w1 w3 : World} {k v : List UInt8} (h : HM w base b n D F L) (h1 : Turned [] w w1) (hb : base ≤ w.heap.size)
    (h2 : w3.ownsMap Try.prog 9 RS b (n + 1) (D.put (kl k) (.held (.slice (some ⟨w1.heap.size, 0, none⟩) 1 1)))) (hg2 : (w1.alloc (.cells #[tv v] 9)).grownBy w3 (some b)) : PutPost w base b n D (setF F k v) L (.returned (.tuple #[])) w3 := by
  have hM := h.keepNew h1
  obtain ⟨p1, p2, p3⟩ := hM.put (zs' := [v]) (World.grownBy_alloc _ _ _) (one_sv w1 v base (Nat.le_trans hb h1.size)) (by simp) (fun g hgb => by cases hgb; exact .inl (Nat.le_refl _)) h2 hg2
  have HSZ := h1.size
  refine ⟨rfl, _, _, p1, (h1.mono (by simp)).trans p2, fun g hgl => ?_, fun x g hx => (p3 x g hx).imp id (fun h => Nat.le_trans HSZ h)⟩
  rcases List.mem_append.1 hgl with hgl | hgl
  · exact .inl hgl
  · simp [room_slice] at hgl
/-- Behind a delete. -/
theorem HM.struck {w1 w2 : World} {k : List UInt8} (h : HM w base b n D F L) (h1 : Turned [] w w1) (h2 : w2.ownsMap Try.prog 9 RS b n (D.del (kl k))) (ht : w1.mapTurned w2 b) : PutPost w base b n D (delF F k) L (.returned (.tuple #[])) w2 := by
  have hT : Turned [b] w1 w2 := by
    obtain ⟨es, clock, es', clock', hb, rfl⟩ := ht
    exact ⟨rfl, rfl, rfl, by simp [setBlock], fun k _ hk => heap_setBlock_other hb _ (by simpa using hk)⟩
  obtain ⟨hd, hdl⟩ := (h.keepNew h1).del h2 hT
  exact ⟨rfl, _, L, ⟨hd.own.mono (Nat.le_succ n), hd.sv, hd.apart, hd.room, hd.lower, fun k => Nat.le_succ_of_le (hd.cnt k), hd.ll⟩, (h1.mono (by simp)).trans (hT.mono (by simp)), fun g hg => .inl hg, fun x g hx => .inl (hdl x g hx)⟩
end

theorem cell_new (w : World) (x : Value) (t : TypeId) : (w.alloc (.cells #[x] t)).cell? ⟨w.heap.size, 0, none⟩ = some x := by
  have h := cell_one_new w x t 0 x rfl
  exact h
theorem SV.slice {w : World} {base : Nat} {v : Value} {zs : List (List UInt8)} (h : SV w base v zs) : ∃ p n c, v = .slice p n c := by
  obtain ⟨p, c, h, _⟩ := h.form
  exact ⟨p, _, c, h⟩
/-- The map behind an append. -/
theorem HM.own_room {w w1 w2 : World} {base b n : Nat} {D : DataW Value} {F : List UInt8 → List (List UInt8)} {L : List Nat} (h : HM w base b n D F L) (ht : Turned [] w w1) (k : List UInt8) (hg : w1.grownBy w2 (roomOf (look D k))) :
    w2.ownsMap Try.prog 9 RS b n D :=
  (h.keepNew ht).own.kept hg (fun e => by
    have := (h.keepNew ht).ne k b (room_own e.symm)
    exact this rfl)

set_option maxRecDepth 100000 in
set_option maxHeartbeats 2000000 in
theorem add_any (s v : ByteArray) (w : World) (base b n : Nat) (D : DataW Value) (F : List UInt8 → List (List UInt8)) (L : List Nat) (hs : s.size ≤ 2147483647) (h : HM w base b n D F L) (hn : n ≤ 1000000) (hb : base ≤ w.heap.size) :
    Calls Try.prog 31 #[.map (some b), .string s, .string v] w (PutPost w base b n D (addF F (canon (lst s)) (lst v)) L) := by
  have CA := mimeKey_any s w (by omega)
  obtain ⟨i0, hi, hz0, hz1, hz2⟩ := info_parts str_row
  have HC : Hid ((canon (lst s)).length = s.size) := by show _ = _; rw [canon_len, lst_length]
  generalize hk : canon (lst s) = k at *
  go_enter Try.func31, Try.ntmps31
  go_wp2_with fail
  go_at_call 29
  refine CA.mono ?_
  rintro e w1 ⟨rfl, hb1⟩
  have hT1 : Turned [] w w1 := Turned.of_below hb1
  have h1 := h.keepNew hT1
  have hsz : (⟨k.toArray⟩ : ByteArray).size ≤ maxLen := by
    have := HC.out
    show k.toArray.size ≤ _
    unfold maxLen
    simp
    omega
  have LK := h1.look_run Try.underlying46 (zero_strs w1) ⟨k.toArray⟩ hsz
  have hky := key_of ⟨k.toArray⟩ hsz
  rw [lst_mk] at LK hky
  have hsv := h1.sv k
  have hcnt := h.cnt k
  have hform := hsv.form
  obtain ⟨p, c, hform, _, _⟩ := hform
  have HX := Lib.hid (fun w2 w3 v' => h.added (w1 := w1) (wa := w1.alloc (.cells #[.string v] 9)) (w2 := w2) (w3 := w3) (k := k) (v := lst v) (v' := v') hT1 ((Turned.refl [] w1).alloc _))
  have HO := Lib.hid (fun w2 => h1.own_room (w1 := w1.alloc (.cells #[.string v] 9)) (w2 := w2) ((Turned.refl [] w1).alloc _) k)
  have HS : Hid (SV (w1.alloc (.cells #[.string v] 9)) base (look D k) (F k)) := hsv.turned ((Turned.refl [] w1).alloc _) (by simp)
  have HN : Hid ((F k).length + 1 ≤ 1048576) := by show _ ≤ _; omega
  have HB : Hid (base ≤ (w1.alloc (.cells #[.string v] 9)).heap.size) := by have := hT1.size; show _ ≤ _; simp; omega
  rw [hform] at LK HX HS HO
  have HNN : Hid (n < maxLen) := by show _ < _; unfold maxLen; omega
  clear CA hb1 h1 h hT1 hsv hcnt hb hform hn hs hsz
  go_wp2_with (first
    | (at_builtin; refine wpList_append_sv _ rfl (.tmp 12) (.tmp 14) 38 rfl base i0 (.string ⟨#[]⟩) Try.underlying38 hi hz0 hz1 hz2 rfl _ (F k) rfl HS.out ⟨w1.heap.size, 0, none⟩ 1 (lst v) rfl (by rw [tv_of]; exact cell_new _ _ _) HN.out HB.out ?_; intro v' w2 hs2 hg2 hat2; have HXX := Lib.hid (fun w3 => HX.out w2 w3 v' hs2 hg2 hat2); have HOO := Lib.hid (HO.out w2 hg2); obtain ⟨p', n', c', rfl⟩ := hs2.slice; clear hs2 hg2 hat2 HX HO HS HN HB LK)
    | (at_mapUpdate; refine wpList_mapUpdate_own _ rfl _ _ _ 46 rfl _ _ keyed Try.underlying46 RS b n D rfl HOO.out HNN.out _ _ (kl k) rfl rfl hky (.held _) [] rfl ?_; intro w3 hown3 hg3)
    | go_in)
  have HF := Lib.hid (HXX.out w3 hown3 hg3)
  clear HXX HOO hown3 hg3
  first | refine bodyPost_ret (results_none rfl _ _ _) rfl ?_ | refine bodyPost_end (results_none rfl _ _ _) rfl ?_
  exact HF.out

set_option maxRecDepth 100000 in
set_option maxHeartbeats 2000000 in
theorem set_any (s v : ByteArray) (w : World) (base b n : Nat) (D : DataW Value) (F : List UInt8 → List (List UInt8)) (L : List Nat) (hs : s.size ≤ 2147483647) (h : HM w base b n D F L) (hn : n ≤ 1000000) (hb : base ≤ w.heap.size) :
    Calls Try.prog 32 #[.map (some b), .string s, .string v] w (PutPost w base b n D (setF F (canon (lst s)) (lst v)) L) := by
  have CA := mimeKey_any s w (by omega)
  have HC : Hid ((canon (lst s)).length = s.size) := by show _ = _; rw [canon_len, lst_length]
  generalize hk : canon (lst s) = k at *
  go_enter Try.func32, Try.ntmps32
  go_wp2_with fail
  go_at_call 29
  refine CA.mono ?_
  rintro e w1 ⟨rfl, hb1⟩
  have hT1 : Turned [] w w1 := Turned.of_below hb1
  have h1 := h.keepNew hT1
  have hsz : (⟨k.toArray⟩ : ByteArray).size ≤ maxLen := by
    have := HC.out
    show k.toArray.size ≤ _
    unfold maxLen
    simp
    omega
  have hky := key_of ⟨k.toArray⟩ hsz
  rw [lst_mk] at hky
  have HX := Lib.hid (fun w3 => h.setted (w1 := w1) (w3 := w3) (k := k) (v := lst v) hT1 hb)
  have HO : Hid ((w1.alloc (.cells #[.string v] 9)).ownsMap Try.prog 9 RS b n D) := h1.own.alloc _
  rw [tv_of] at HX
  have HNN : Hid (n < maxLen) := by show _ < _; unfold maxLen; omega
  clear CA hb1 h1 h hT1 hb hn hs hsz
  go_wp2_with (first
    | (at_mapUpdate; refine wpList_mapUpdate_own _ rfl _ _ _ 46 rfl _ _ keyed Try.underlying46 RS b n D rfl HO.out HNN.out _ _ (kl k) rfl rfl hky (.held _) [] rfl ?_; intro w3 hown3 hg3)
    | go_in)
  have HF := Lib.hid (HX.out w3 hown3 hg3)
  clear HX HO hown3 hg3
  first | refine bodyPost_ret (results_none rfl _ _ _) rfl ?_ | refine bodyPost_end (results_none rfl _ _ _) rfl ?_
  exact HF.out

set_option maxRecDepth 100000 in
set_option maxHeartbeats 2000000 in
theorem del_any (s : ByteArray) (w : World) (base b n : Nat) (D : DataW Value) (F : List UInt8 → List (List UInt8)) (L : List Nat) (hs : s.size ≤ 2147483647) (h : HM w base b n D F L) :
    Calls Try.prog 33 #[.map (some b), .string s] w (PutPost w base b n D (delF F (canon (lst s))) L) := by
  have CA := mimeKey_any s w (by omega)
  have HC : Hid ((canon (lst s)).length = s.size) := by show _ = _; rw [canon_len, lst_length]
  generalize hk : canon (lst s) = k at *
  go_enter Try.func33, Try.ntmps33
  go_wp2_with fail
  go_at_call 29
  refine CA.mono ?_
  rintro e w1 ⟨rfl, hb1⟩
  have hT1 : Turned [] w w1 := Turned.of_below hb1
  have h1 := h.keepNew hT1
  have hsz : (⟨k.toArray⟩ : ByteArray).size ≤ maxLen := by
    have := HC.out
    show k.toArray.size ≤ _
    unfold maxLen
    simp
    omega
  have hky := key_of ⟨k.toArray⟩ hsz
  rw [lst_mk] at hky
  have HX := Lib.hid (fun w2 => h.struck (w1 := w1) (w2 := w2) (k := k) hT1)
  have HO := Lib.hid h1.own
  clear CA hb1 h1 h hT1 hs hsz
  go_wp2_with (first
    | (at_delete; refine wpList_delete_own _ rfl _ _ 46 _ rfl _ keyed Try.underlying46 RS b n D rfl HO.out _ (kl k) rfl hky ?_; intro w3 hown3 hg3)
    | go_in)
  have HF := Lib.hid (HX.out w3 hown3 hg3)
  clear HX HO hown3 hg3
  first | refine bodyPost_ret (results_none rfl _ _ _) rfl ?_ | refine bodyPost_end (results_none rfl _ _ _) rfl ?_
  exact HF.out

theorem map_not_nil (b : Nat) (W : World) : (binOp BinOp.eql 46 (Value.map (some b)) (Value.map none)).run Try.prog W = .ok (.bool false) W := by kernel_rfl
/-- What Get and Values leave. -/
def GetPost (w : World) (x : Value) (e : Ending) (w' : World) : Prop := e = .returned x ∧ Turned [] w w'

set_option maxRecDepth 100000 in
set_option maxHeartbeats 2000000 in
theorem values_any (s : ByteArray) (w : World) (base b n : Nat) (D : DataW Value) (F : List UInt8 → List (List UInt8)) (L : List Nat) (hs : s.size ≤ 2147483647) (h : HM w base b n D F L) :
    Calls Try.prog 35 #[.map (some b), .string s] w (GetPost w (look D (canon (lst s)))) := by
  have CA := mimeKey_any s w (by omega)
  have HC : Hid ((canon (lst s)).length = s.size) := by show _ = _; rw [canon_len, lst_length]
  generalize hk : canon (lst s) = k at *
  have hmn := map_not_nil b
  go_enter Try.func35, Try.ntmps35
  go_wp2_with fail
  go_at_call 29
  refine CA.mono ?_
  rintro e w1 ⟨rfl, hb1⟩
  have hT1 : Turned [] w w1 := Turned.of_below hb1
  have h1 := h.keepNew hT1
  have hsz : (⟨k.toArray⟩ : ByteArray).size ≤ maxLen := by
    have := HC.out
    show k.toArray.size ≤ _
    unfold maxLen
    simp
    omega
  have hky := key_of ⟨k.toArray⟩ hsz
  rw [lst_mk] at hky
  have LK := h1.look_run Try.underlying46 (zero_strs w1) ⟨k.toArray⟩ hsz
  rw [lst_mk] at LK
  have HT := Lib.hid hT1
  obtain ⟨p, n', c', hl⟩ := (h1.sv k).slice
  rw [hl] at LK
  have HL := Lib.hid hl
  clear CA hb1 h1 h hT1 hs hsz hky hl
  go_wp2_with fail
  go_ret
  exact ⟨by rw [HL.out]; rfl, HT.out⟩

set_option maxRecDepth 100000 in
set_option maxHeartbeats 2000000 in
theorem get_any (s : ByteArray) (w : World) (base b n : Nat) (D : DataW Value) (F : List UInt8 → List (List UInt8)) (L : List Nat) (hs : s.size ≤ 2147483647) (h : HM w base b n D F L) :
    Calls Try.prog 34 #[.map (some b), .string s] w (GetPost w (tv ((F (canon (lst s))).headD []))) := by
  have CA := mimeKey_any s w (by omega)
  have HC : Hid ((canon (lst s)).length = s.size) := by show _ = _; rw [canon_len, lst_length]
  generalize hk : canon (lst s) = k at *
  have hmn := map_not_nil b
  go_enter Try.func34, Try.ntmps34
  go_wp2_with fail
  go_at_call 29
  refine CA.mono ?_
  rintro e w1 ⟨rfl, hb1⟩
  have hT1 : Turned [] w w1 := Turned.of_below hb1
  have h1 := h.keepNew hT1
  have hsz : (⟨k.toArray⟩ : ByteArray).size ≤ maxLen := by
    have := HC.out
    show k.toArray.size ≤ _
    unfold maxLen
    simp
    omega
  have hky := key_of ⟨k.toArray⟩ hsz
  rw [lst_mk] at hky
  have LK := h1.look_run Try.underlying46 (zero_strs w1) ⟨k.toArray⟩ hsz
  rw [lst_mk] at LK
  have HT := Lib.hid hT1
  have hsv := h1.sv k
  obtain ⟨p, c, hl, _, hcell⟩ := hsv.form
  rw [hl] at LK
  clear CA hb1 h1 h hT1 hs hsz hky hl hsv
  cases hF : F k with
  | nil =>
    rw [hF] at LK
    have LK2 : (Instr.lookup 46 (.map (some b)) (.string ⟨k.toArray⟩) false).run Try.prog w1 = .ok (.slice p 0 c) w1 := LK
    have HL := Lib.hid hF
    clear LK hcell hF
    go_wp2_with fail
    go_ret
    exact ⟨by rw [HL.out]; rfl, HT.out⟩
  | cons z r =>
    rw [hF] at LK hcell
    obtain ⟨g, off, rfl, _, hc0⟩ := hcell 0 z rfl
    have LK2 : (Instr.lookup 46 (.map (some b)) (.string ⟨k.toArray⟩) false).run Try.prog w1 = .ok (.slice (some ⟨g, off, none⟩) (r.length + 1) c) w1 := LK
    unfold tv at hc0
    rw [Nat.add_zero] at hc0
    have HL := Lib.hid hF
    have b0 : (((r.length : Int) + 1) == 0) = false := by simp; omega
    have b1 : (0 : Int) < (r.length : Int) + 1 := by omega
    clear LK hcell hF
    go_wp2_with fail
    go_ret
    exact ⟨by rw [HL.out]; rfl, HT.out⟩
end Go.Proofs.Ytdhdcgliefjonaa
