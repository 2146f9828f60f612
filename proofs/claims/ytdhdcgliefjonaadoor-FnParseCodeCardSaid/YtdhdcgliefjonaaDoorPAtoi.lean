/-
  The contracts of internal/strconv.Atoi and strconv.Atoi at strings of three bytes.
-/
import Derived.Test.YtdhdcgliefjonaaDoorPCodeLaw
import Derived.Lib.UnsafeStr
import Derived.Lib.IfaceEq
import Derived.Lib.BufferWrite
import Derived.Lib.Walk
import Derived.Laws.MakeOwn
import Derived.Deep.RegionWith
namespace Go.Proofs.YtdhdcgliefjonaaDoor
open Go.RowKit

/-- The number of a row of digits. -/
def numL (l : List UInt8) : Int := l.foldl (fun n c => n * 10 + ((c.toNat : Int) - 48)) 0
theorem numL_snoc (l : List UInt8) (c : UInt8) : numL (l ++ [c]) = numL l * 10 + ((c.toNat : Int) - 48) := by unfold numL; rw [List.foldl_append]; rfl
def allDig (l : List UInt8) : Bool := l.all digB
theorem allDig_snoc (l : List UInt8) (c : UInt8) : allDig (l ++ [c]) = (allDig l && digB c) := by unfold allDig; rw [List.all_append]; simp
theorem allDig_false {l : List UInt8} {k : Nat} {c : UInt8} (h : l[k]? = some c) (hc : digB c = false) : allDig l = false := by
  cases ha : allDig l with
  | false => rfl
  | true =>
    unfold allDig at ha
    rw [List.all_eq_true] at ha
    rw [ha c (List.mem_of_getElem? h)] at hc
    cases hc
theorem next_take {l : List UInt8} {k : Nat} {c : UInt8} (h : l[k]? = some c) : l.take (k + 1) = l.take k ++ [c] := by rw [List.take_add_one, h]; rfl

/-- What the inner Atoi answers of three bytes. -/
def IA (l : List UInt8) (n : Int) (er : Value) : Prop :=
  (allDig l = true ∧ n = numL l ∧ er = .nilIface) ∨ (allDig l = false ∧ ((er = .nilIface ∧ n < 100) ∨ (n = 0 ∧ er = .iface 39 (.int .i64 2))))
def IAPost (l : List UInt8) (w : World) (e : Ending) (w' : World) : Prop := ∃ n er, e = .returned (.tuple #[.int .i64 n, er]) ∧ Turned [] w w' ∧ IA l n er

/-- What a round keeps. -/
structure IAR (l : List UInt8) (k : Nat) (n : Int) : Prop where
  dig : allDig (l.take k) = true
  num : n = numL (l.take k)
  lo : 0 ≤ n
  hi : n < 10 ^ k
theorem IAR.next {l : List UInt8} {k : Nat} {n : Int} {c : UInt8} (h : IAR l k n) (hc : l[k]? = some c) (hd : digB c = true) : IAR l (k + 1) (n * 10 + ((c.toNat : Int) - 48)) := by
  have h1 := digB_iff.1 hd
  have h2 := h.lo
  have h3 := h.hi
  refine ⟨by rw [next_take hc, allDig_snoc, h.dig, hd]; rfl, by rw [next_take hc, numL_snoc, h.num], by omega, ?_⟩
  rw [Int.pow_succ]
  omega
theorem IAR.small {l : List UInt8} {k : Nat} {n : Int} (h : IAR l k n) (hk : k ≤ 3) : 0 ≤ n ∧ n ≤ 999 := by
  refine ⟨h.lo, ?_⟩
  have h1 := h.hi
  match k, hk, h1 with
  | 0, _, h1 => simp at h1; omega
  | 1, _, h1 => simp at h1; omega
  | 2, _, h1 => simp at h1; omega
  | 3, _, h1 => simp at h1; omega
theorem IAR.two {l : List UInt8} {k : Nat} {n : Int} (h : IAR l k n) (hk : k ≤ 2) : n < 100 := by
  have h1 := h.hi
  match k, hk, h1 with
  | 0, _, h1 => simp at h1; omega
  | 1, _, h1 => simp at h1; omega
  | 2, _, h1 => simp at h1; omega
theorem conv_str8 (w : World) (s : ByteArray) : (convert 9 40 (.string s)).run Tryd.prog w = .ok (.slice (some ⟨w.heap.size, 0, none⟩) s.size (grownCap w s.size 0 5)) (Lib.bytesWorld w 5 s) :=
  Lib.run_convert_string_bytes w 9 40 5 s Tryd.underlying9 Tryd.underlying40 Tryd.underlying5
theorem turned_bytes (w : World) (e : TypeId) (s : ByteArray) : Turned [] w (Lib.bytesWorld w e s) := Turned.of_below (bytes_below w e s)

set_option maxRecDepth 100000 in
set_option maxHeartbeats 4000000 in
/-- Without a sign: three digits, or an error. -/
theorem iatoi_plain (s : ByteArray) (w : World) (hs : s.size = 3) (h0 : 0 < s.size) (h45 : s[0] ≠ 45) (h43 : s[0] ≠ 43) : Calls Tryd.prog 11 #[.string s] w (IAPost (lst s) w) := by
  have t45 : ((s[0].toNat : Int) == 45) = false := u8_not (c := 45) h45
  have t43 : ((s[0].toNat : Int) == 43) = false := u8_not (c := 43) h43
  have b0 : (0 : Int) < (s.size : Int) := by omega
  have b1 : (s.size : Int) < 19 := by omega
  have hconv := conv_str8 w s
  have hrow := bytes_row w 5 s
  have hT := turned_bytes w 5 s
  generalize Lib.bytesWorld w 5 s = w1 at *
  generalize grownCap w s.size 0 5 = cap at *
  have HS := Lib.hid hs
  clear hs h45 h43
  go_enter Tryd.func11, Tryd.ntmps11
  go_wp2_with fail
  go_loopg [6, 49] s.size (fun g n i wr => ∃ (k : Nat) (m : Int), k ≤ s.size ∧ i = .int .i64 (k : Int) ∧ n = .int .i64 m ∧ wr = w1 ∧ IAR (lst s) k m ∧ s.size - k ≤ g)
  case atStart => exact ⟨0, 0, Nat.zero_le _, rfl, rfl, rfl, ⟨rfl, rfl, Int.le_refl _, by decide⟩, Nat.le_refl _⟩
  case round =>
    obtain ⟨k, m, hk, rfl, rfl, rfl, hr, hg⟩ := hrel
    obtain ⟨m0, m1⟩ := hr.small (by rw [← HS.out]; exact hk)
    have HR := Lib.hid hr
    clear hr
    by_cases hlt : k < s.size
    · have d0 : (k : Int) < (s.size : Int) := by omega
      have hget := lst_get s k hlt
      have hcell := hrow _ _ hget
      rw [Nat.zero_add] at hcell
      have hc := u8_le s[k]
      have HG := Lib.hid hget
      have HM : Hid (s.size - (k + 1) ≤ gk - 1 ∧ 0 < gk) := ⟨by omega, by omega⟩
      clear hget hg
      cases hd : digB s[k] with
      | true =>
        obtain ⟨g1, g2⟩ := digB_iff.1 hd
        have e1 : ((s[k].toNat : Int) - 48) % 256 = (s[k].toNat : Int) - 48 := by omega
        have e2 : (s[k].toNat : Int) - 48 ≤ 9 := by omega
        have e3 : (0 : Int) ≤ (s[k].toNat : Int) - 48 := by omega
        have HN := Lib.hid (HR.out.next HG.out hd)
        clear hd
        go_wp2_with fail
        go_roundg (gk - 1)
        case rel => exact ⟨k + 1, _, hlt, by go_num, by go_num, rfl, HN.out, HM.out.1⟩
        case measure => have := HM.out; omega
      | false =>
        have hnd : ¬ (48 ≤ s[k].toNat ∧ s[k].toNat ≤ 57) := fun h => by rw [digB_iff.2 h] at hd; cases hd
        have HF : Hid (IAPost (lst s) w (.returned (.tuple #[.int .i64 0, .iface 39 (.int .i64 2)])) wr) := ⟨0, _, rfl, hT, .inr ⟨allDig_false HG.out hd, .inr ⟨rfl, rfl⟩⟩⟩
        have e2 : (9 : Int) < ((s[k].toNat : Int) - 48) % 256 := by omega
        clear hd hnd
        go_wp2_with fail
        go_ret2
        exact HF.out
    · have d0 : ¬ (k : Int) < (s.size : Int) := by omega
      have hk3 : k = s.size := by omega
      have HF : Hid (IAPost (lst s) w (.returned (.tuple #[.int .i64 m, .nilIface])) wr) := by
        have h1 := HR.out.dig
        have h2 := HR.out.num
        rw [hk3, List.take_of_length_le (by rw [lst_length]; exact Nat.le_refl _)] at h1 h2
        exact ⟨m, _, rfl, hT, .inl ⟨h1, h2, rfl⟩⟩
      clear hk3 hg
      go_wp2_with fail
      go_ret2
      exact HF.out

theorem allDig_sign {s : ByteArray} (h0 : 0 < s.size) (hsg : s[0] = 45 ∨ s[0] = 43) : allDig (lst s) = false :=
  allDig_false (lst_get s 0 h0) (by rcases hsg with h | h <;> (rw [h]; rfl))

set_option maxRecDepth 100000 in
set_option maxHeartbeats 4000000 in
/-- With a sign: a number of two digits, or an error. -/
theorem iatoi_sign (s : ByteArray) (w : World) (hs : s.size = 3) (h0 : 0 < s.size) (hsg : s[0] = 45 ∨ s[0] = 43) (sg : Bool) (hsg' : ((s[0].toNat : Int) == 45) = sg) (hsp : sg = false → ((s[0].toNat : Int) == 43) = true) : Calls Tryd.prog 11 #[.string s] w (IAPost (lst s) w) := by
  have HA := Lib.hid (allDig_sign h0 hsg)
  have b0 : (0 : Int) < (s.size : Int) := by omega
  have b1 : (s.size : Int) < 19 := by omega
  have hsz : (s.extract 1 s.size).size = s.size - 1 := by rw [ByteArray.size_extract]; simp
  have hconv := conv_str8 w (s.extract 1 s.size)
  have hrow := bytes_row w 5 (s.extract 1 s.size)
  have hT := turned_bytes w 5 (s.extract 1 s.size)
  have hgets := fun k => lst_get (s.extract 1 s.size) k
  rw [hsz] at hconv
  have HS : Hid (s.size = 3) := hs
  have HTS := Lib.hid hsz
  have e3 : s.size - 1 = 2 := by omega
  rw [e3] at hconv
  generalize Lib.bytesWorld w 5 (s.extract 1 s.size) = w1 at *
  generalize grownCap w 2 0 5 = cap at *
  obtain ⟨L, hL⟩ : ∃ L, L = lst (s.extract 1 s.size) := ⟨_, rfl⟩
  rw [← hL] at hrow
  have HL : Hid (L.length = 2) := by show _ = _; rw [hL, lst_length, hsz]; exact e3
  clear hs hsg hsz hgets hL
  cases sg
  all_goals
    have t43 := hsp
    simp only [forall_const, reduceCtorEq, false_implies] at t43
    go_enter Tryd.func11, Tryd.ntmps11
    go_wp2_with fail
    go_loopg [6, 49] 2 (fun g n i wr => ∃ (k : Nat) (m : Int), k ≤ 2 ∧ i = .int .i64 (k : Int) ∧ n = .int .i64 m ∧ wr = w1 ∧ IAR L k m ∧ 2 - k ≤ g)
    case atStart => exact ⟨0, 0, Nat.zero_le _, rfl, rfl, rfl, ⟨rfl, rfl, Int.le_refl _, by decide⟩, Nat.le_refl _⟩
    case round =>
      obtain ⟨k, m, hk, rfl, rfl, rfl, hr, hg⟩ := hrel
      obtain ⟨m0, _⟩ := hr.small (by omega)
      have m1 := hr.two hk
      have HR := Lib.hid hr
      clear hr
      by_cases hlt : k < 2
      · have d0 : (k : Int) < 2 := by omega
        obtain ⟨c, hget⟩ : ∃ c, L[k]? = some c := ⟨_, List.getElem?_eq_getElem (by rw [HL.out]; exact hlt)⟩
        have hcell := hrow _ _ hget
        rw [Nat.zero_add] at hcell
        have hc := u8_le c
        have HG := Lib.hid hget
        have HM : Hid (2 - (k + 1) ≤ gk - 1 ∧ 0 < gk) := ⟨by omega, by omega⟩
        clear hget hg
        cases hd : digB c with
        | true =>
          obtain ⟨g1, g2⟩ := digB_iff.1 hd
          have e1 : ((c.toNat : Int) - 48) % 256 = (c.toNat : Int) - 48 := by omega
          have e2 : (c.toNat : Int) - 48 ≤ 9 := by omega
          have e3 : (0 : Int) ≤ (c.toNat : Int) - 48 := by omega
          have HN := Lib.hid (HR.out.next HG.out hd)
          clear hd
          go_wp2_with fail
          go_roundg (gk - 1)
          case rel => exact ⟨k + 1, _, hlt, by go_num, by go_num, rfl, HN.out, HM.out.1⟩
          case measure => have := HM.out; omega
        | false =>
          have hnd : ¬ (48 ≤ c.toNat ∧ c.toNat ≤ 57) := fun h => by rw [digB_iff.2 h] at hd; cases hd
          have HF : Hid (IAPost (lst s) w (.returned (.tuple #[.int .i64 0, .iface 39 (.int .i64 2)])) wr) := ⟨0, _, rfl, hT, .inr ⟨HA.out, .inr ⟨rfl, rfl⟩⟩⟩
          have e2 : (9 : Int) < ((c.toNat : Int) - 48) % 256 := by omega
          clear hd hnd
          go_wp2_with fail
          go_ret2
          exact HF.out
      · have d0 : ¬ (k : Int) < 2 := by omega
        have HF : Hid (∀ x : Int, x < 100 → IAPost (lst s) w (.returned (.tuple #[.int .i64 x, .nilIface])) wr) := fun x hx => ⟨x, _, rfl, hT, .inr ⟨HA.out, .inl ⟨rfl, hx⟩⟩⟩
        clear hg
        go_wp2_with fail
        go_ret2
        exact HF.out _ (by omega)
theorem iatoi_any (s : ByteArray) (w : World) (hs : s.size = 3) : Calls Tryd.prog 11 #[.string s] w (IAPost (lst s) w) := by
  have h0 : 0 < s.size := by omega
  by_cases h45 : s[0] = 45
  · exact iatoi_sign s w hs h0 (.inl h45) true (u8_is (c := 45) h45) (fun h => by cases h)
  · by_cases h43 : s[0] = 43
    · exact iatoi_sign s w hs h0 (.inr h43) false (u8_not (c := 45) h45) (fun _ => u8_is (c := 43) h43)
    · exact iatoi_plain s w hs h0 h45 h43

set_option maxRecDepth 100000 in
set_option maxHeartbeats 2000000 in
/-- stringslite.Clone of a string that is not empty. -/
theorem sclone_any (s : ByteArray) (w : World) (h0 : 0 < s.size) (hlim : s.size ≤ 4294967296) : Calls Tryd.prog 19 #[.string s] w fun e w' => e = .returned (.string s) ∧ Turned [] w w' := by
  obtain ⟨i0, hi, hz0, hz1, hz2⟩ := info_parts u8_info
  have hinfo : (Tryd.prog.info? 5).map (·.size) = some 1 := by rw [hi]; simp [hz1]
  have hco : Tryd.prog.cellsOf 5 = 1 := by simp [Program.cellsOf, hi, hz1]
  obtain ⟨M, hM⟩ : ∃ M, M = madeCells (Value.int .u8 0).cells (((s.size : Nat) : Int).toNat * i0.size) := ⟨_, rfl⟩
  have hMs : M.size = s.size := by rw [hM, size_madeCells, hz1]; simp
  have hmk : ∀ W : World, (Instr.makeSlice 40 (.int .i64 (s.size : Int)) (.int .i64 (s.size : Int))).run Tryd.prog W = .ok (.slice (some ⟨W.heap.size, 0, none⟩) s.size s.size) (W.alloc (.cells M 5)) := fun W => by
    have h := run_make (P := Tryd.prog) W 40 5 i0 (.int .u8 0) Tryd.underlying40 hi hz0 .i64 .i64 (s.size : Int) (s.size : Int) (by omega) (by omega) (by rw [hz2]; omega) (by omega)
    rw [← hM] at h
    simpa using h
  clear hM
  have hcp := Lib.run_copy_row_string (P := Tryd.prog) (w.alloc (.cells M 5)) 40 9 3 5 w.heap.size 0 s.size s.size s M 5 Tryd.underlying40 hinfo (heap_alloc_new w _) (Nat.le_refl _) (by omega)
  obtain ⟨Y, hY⟩ : ∃ Y, Y = (M.toList.take 0 ++ Lib.byteCells s.data.toList ++ M.toList.drop (0 + s.size)).toArray := ⟨_, rfl⟩
  rw [← hY] at hcp
  have hYl : Y.toList = Lib.byteCells s.data.toList := by
    rw [hY, List.toList_toArray, List.take_zero, List.nil_append, List.drop_of_length_le (by rw [Array.length_toList]; omega), List.append_nil]
  have hYs : Y.size = s.size := by rw [← Array.length_toList, hYl, Lib.byteCells_length, ← Lib.size_eq]
  have hgY : ((w.alloc (.cells M 5)).setRow w.heap.size Y).heap[w.heap.size]? = some (.cells Y 5 (0, 0)) := setRow_heap _ _ M _ 5 (0, 0) (heap_alloc_new w _)
  have hne : s.data.toList ≠ [] := fun e => by
    have := Lib.size_eq s
    rw [e, List.length_nil] at this
    omega
  have hUS := Lib.run_unsafeString_row (P := Tryd.prog) ((w.alloc (.cells M 5)).setRow w.heap.size Y) 57 3 9 5 Tryd.underlying57 hco w.heap.size Y.size (by unfold World.shape?; rw [hgY]) s.data.toList hne (by rw [← Lib.size_eq]; omega) (by rw [← Lib.size_eq]; omega)
    (fun j x hx => Lib.cells_of_row hgY Y.size j _ (by rw [List.take_of_length_le (by rw [Array.length_toList]; exact Nat.le_refl _), hYl]; simp [Lib.byteCells, hx]))
  rw [← Lib.size_eq] at hUS
  clear hY
  have d0 : ((s.size : Int) == 0) = false := beq_eq_false_iff_ne.2 (by omega)
  go_enter Tryd.func19, Tryd.ntmps19
  go_wp2_with fail
  go_ret
  have hb1 : Below w.heap.size w (w.alloc (.cells M 5)) := (Below.refl _ w).alloc (Nat.le_refl _) _
  have hb2 : Below w.heap.size (w.alloc (.cells M 5)) ((w.alloc (.cells M 5)).setRow w.heap.size Y) := ⟨rfl, rfl, rfl, by simp, fun k hk => setRow_other _ _ _ _ (by omega)⟩
  exact ⟨rfl, Turned.of_below (Lib.below_freeze (hb1.trans hb2) (p := ⟨w.heap.size, 0, none⟩) (Nat.le_refl _) _)⟩

theorem cell_lt {w : World} {a : Addr} {v : Value} (h : w.cell? a = some v) : a.block < w.heap.size := by
  rcases Nat.lt_or_ge a.block w.heap.size with h' | h'
  · exact h'
  · unfold World.cell? at h; rw [Array.getElem?_eq_none h'] at h; cases h
theorem outer_syntax (w : World) : (binOp .eql 28 (.iface 39 (.int .i64 2)) (.iface 39 (.int .i64 2))).run Tryd.prog w = .ok (.bool true) w :=
  Lib.run_eql_iface_int w 2 2 Tryd.underlying28 (by kernel_rfl) Tryd.underlying39

set_option maxRecDepth 100000 in
set_option maxHeartbeats 4000000 in
theorem syntaxError_any (fn s : ByteArray) (K : Nat) (se : Addr) (w : World) (h0 : 0 < s.size) (hlim : s.size ≤ 4294967296) (hE : Sent w K 2 se) :
    Calls Tryd.prog 14 #[.string fn, .string s] w fun e w' => ∃ N, e = .returned (.pointer (some ⟨N, 0, none⟩)) ∧ Turned [] w w' := by
  have hvd : w.drew.cell? ⟨2, 0, none⟩ = some _ := hE.cell
  have HC : Hid (∀ w2, Turned [] w.drew w2 → w2.cell? ⟨2, 0, none⟩ = some (errAt se)) := fun w2 h => (h.cell (cell_lt hvd) (by simp)).trans hvd
  have SC := Lib.hid (sclone_any s w.drew h0 hlim)
  go_enter Tryd.func14, Tryd.ntmps14
  go_wp2_with fail
  go_region_held3 (fun w' => w'.cell? ⟨2, 0, none⟩ = some (errAt se)) (go_keep)
    ((first | (go_at_call 19; (with_reducible refine SC.out.mono ?_); rintro e w2 ⟨rfl, hT2⟩; have hv2 := HC.out w2 hT2)))
  have HF : Hid (∀ x, Turned [] w (w2.alloc x)) := fun x => (((Turned.refl [] w).drew).trans hT2).alloc x
  go_wp2_with fail
  go_ret
  exact ⟨_, rfl, HF.out _⟩

set_option maxRecDepth 100000 in
set_option maxHeartbeats 2000000 in
theorem toError_any (fn s : ByteArray) (K : Nat) (se : Addr) (w : World) (h0 : 0 < s.size) (hlim : s.size ≤ 4294967296) (hE : Sent w K 2 se) :
    Calls Tryd.prog 12 #[.string fn, .string s, .int .i64 0, .int .i64 0, .iface 39 (.int .i64 2)] w fun e w' => ∃ N, e = .returned (.iface 43 (.pointer (some ⟨N, 0, none⟩))) ∧ Turned [] w w' := by
  have heq := outer_syntax
  have SE := Lib.hid (syntaxError_any fn s K se w h0 hlim hE)
  clear hE
  go_enter Tryd.func12, Tryd.ntmps12
  go_wp2_with (go_at_call 14; (with_reducible refine SE.out.mono ?_); rintro e w2 ⟨N, rfl, hT2⟩)
  go_ret
  exact ⟨N, rfl, hT2⟩

/-- What strconv.Atoi answers of three bytes. -/
def A3Post (l : List UInt8) (w : World) (e : Ending) (w' : World) : Prop :=
  ∃ n er, e = .returned (.tuple #[.int .i64 n, er]) ∧ Turned [] w w' ∧
    ((allDig l = true ∧ n = numL l ∧ er = .nilIface) ∨ (allDig l = false ∧ ((er = .nilIface ∧ n < 100) ∨ (n = 0 ∧ ∃ N, er = .iface 43 (.pointer (some ⟨N, 0, none⟩))))))
set_option maxRecDepth 100000 in
set_option maxHeartbeats 2000000 in
theorem atoi3_any (s : ByteArray) (K : Nat) (se : Addr) (w : World) (hs : s.size = 3) (hE : Sent w K 2 se) (hK : K ≤ w.heap.size) : Calls Tryd.prog 10 #[.string s] w (A3Post (lst s) w) := by
  have IAC := Lib.hid (iatoi_any s w hs)
  have HE := Lib.hid hE
  have HS : Hid (s.size = 3) := hs
  have HK : Hid (K ≤ w.heap.size) := hK
  clear hE hs hK
  go_enter Tryd.func10, Tryd.ntmps10
  go_wp2_with fail
  go_at_call 11
  (with_reducible refine IAC.out.mono ?_)
  rintro e w1 ⟨n, er, rfl, hT1, hor⟩
  rcases hor with ⟨h1, h2, rfl⟩ | ⟨h1, ⟨rfl, h2⟩ | ⟨rfl, rfl⟩⟩
  · have HF : Hid (A3Post (lst s) w (.returned (.tuple #[.int .i64 n, .nilIface])) w1) := ⟨n, _, rfl, hT1, .inl ⟨h1, h2, rfl⟩⟩
    clear hT1 h1 h2
    go_wp2_with fail
    go_ret2
    exact HF.out
  · have HF : Hid (A3Post (lst s) w (.returned (.tuple #[.int .i64 n, .nilIface])) w1) := ⟨n, _, rfl, hT1, .inr ⟨h1, .inl ⟨rfl, h2⟩⟩⟩
    clear hT1 h1 h2
    go_wp2_with fail
    go_ret2
    exact HF.out
  · have TE := Lib.hid (toError_any ⟨#[65, 116, 111, 105]⟩ s K se w1 (by have := HS.out; omega) (by have := HS.out; omega) (HE.out.keep (hT1.below HK.out (by simp))))
    have HF : Hid (∀ N w2, Turned [] w1 w2 → A3Post (lst s) w (.returned (.tuple #[.int .i64 0, .iface 43 (.pointer (some ⟨N, 0, none⟩))])) w2) := fun N w2 h => ⟨0, _, rfl, hT1.trans h, .inr ⟨h1, .inr ⟨rfl, N, rfl⟩⟩⟩
    clear hT1 h1
    go_wp2_with (go_at_call 12; (with_reducible refine TE.out.mono ?_); rintro e w2 ⟨N, rfl, hT2⟩)
    go_ret2
    exact HF.out N _ hT2
end Go.Proofs.YtdhdcgliefjonaaDoor
