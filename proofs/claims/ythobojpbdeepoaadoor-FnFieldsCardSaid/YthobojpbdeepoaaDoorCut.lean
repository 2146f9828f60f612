/-
  The contracts of bytesIndex and bytesCut at a separator of one byte, and of mustHaveFieldNameColon.
-/
import Derived.Test.YthobojpbdeepoaaDoorIndexByte
import Derived.Test.YthobojpbdeepoaaDoorLineSlice
import Derived.Test.YthobojpbdeepoaaDoorPeek
import Derived.Test.YthobojpbdeepoaaDoorFnLineWalk
import Derived.Deep.QuietTactic
import Derived.BigQuiet
import Derived.Deep.LoopGhost
namespace Go.Proofs.YthobojpbdeepoaaDoor
open Go.RowKit

/-- The byte c does not stand among the first n. -/
def NoC (l : List UInt8) (c : UInt8) (n : Nat) : Prop := ∀ i, i < n → l[i]? ≠ some c
theorem first_c {l : List UInt8} {c : UInt8} {i j : Nat} (hi : l[i]? = some c) (hni : NoC l c i) (hj : l[j]? = some c) (hnj : NoC l c j) : i = j := by
  rcases Nat.lt_trichotomy i j with h | h | h
  · exact absurd hi (hnj i h)
  · exact h
  · exact absurd hj (hni j h)
theorem NoC.succ {l : List UInt8} {c : UInt8} {n : Nat} (h : NoC l c n) (hn : l[n]? ≠ some c) : NoC l c (n + 1) := fun i hi => by
  rcases Nat.lt_or_ge i n with h1 | h1
  · exact h i h1
  · rw [show i = n by omega]; exact hn
/-- What bytesIndex answers. -/
def IdxPost (l : List UInt8) (c : UInt8) (w : World) (e : Ending) (w' : World) : Prop :=
  (∃ n, w' = w.drewN n) ∧ ((∃ j : Nat, l[j]? = some c ∧ NoC l c j ∧ e = .returned (.int .i64 (j : Int))) ∨ (NoC l c l.length ∧ e = .returned (.int .i64 (-1))))

theorem one_str (b off cap : Nat) (x : UInt8) (w : World) (h : w.cell? ⟨b, off, none⟩ = some (.int .u8 (x.toNat : Int))) : (convert 22 9 (.slice (some ⟨b, off, none⟩) 1 cap)).run Tryd.prog w = .ok (.string ⟨#[x]⟩) w := by
  have hr : Row8 w b off [x] := fun j u hj => by
    match j, hj with
    | 0, hj =>
      simp at hj
      subst hj
      simpa using h
  exact string_of_row hr 22 9 5 cap Tryd.underlying22 Tryd.underlying5 Tryd.underlying9

set_option maxRecDepth 100000 in
set_option maxHeartbeats 4000000 in
theorem bytesIndex_any (b off cap B sc : Nat) (l : List UInt8) (c : UInt8) (w : World) (hr : Row8 w b off l) (hs : w.cell? ⟨B, 0, none⟩ = some (.int .u8 (c.toNat : Int))) (hc : l.length ≤ cap) (hl : l.length ≤ 4294967296) :
    Calls Tryd.prog 117 #[.slice (some ⟨b, off, none⟩) l.length cap, .slice (some ⟨B, 0, none⟩) 1 sc] w (IdxPost l c w) := by
  have HR := Lib.hid hr
  have S1 := fun q => one_str B 0 sc c (w.drewN q) hs
  clear hr hs
  go_enter Tryd.func117, Tryd.ntmps117
  go_wp2_with fail
  go_loopg [5] l.length (fun g v wr => ∃ m : Nat, v = .int .i64 (m : Int) ∧ m ≤ l.length ∧ (∃ q, wr = w.drewN q) ∧ NoC l c m ∧ l.length - m ≤ g)
  case atStart => exact ⟨0, rfl, Nat.zero_le _, ⟨0, rfl⟩, (fun i hi => by omega), Nat.le_refl _⟩
  case round =>
    obtain ⟨m, rfl, hm, ⟨q, rfl⟩, hno, hg⟩ := hrel
    have HNo := Lib.hid hno
    have HG : Hid (l.length - (m + 1) ≤ gk - 1 ∧ (m < l.length → 0 < gk)) := ⟨by omega, fun _ => by omega⟩
    have e1 : IntKind.i64.wrap ((m : Int) + 1) = (m : Int) + 1 := IntWalk.i64_in _ (by omega)
    clear hno hg
    by_cases hlt : m < l.length
    · obtain ⟨x, hx⟩ : ∃ x, l[m]? = some x := ⟨_, List.getElem?_eq_getElem hlt⟩
      have S2 := fun q => one_str b (off + m) (cap - m) x (w.drewN q) (HR.out m x hx)
      have d0 : (m : Int) + 1 ≤ (l.length : Int) := by omega
      have d1 : (0 : Int) ≤ (m : Int) := by omega
      have d2 : (m : Int) ≤ (m : Int) + 1 := by omega
      have d3 : (m : Int) + 1 ≤ (cap : Int) := by omega
      have d4 : ¬ cap = m := by omega
      have d5 : ((m : Int) + 1).toNat = m + 1 := by omega
      have d6 : m + 1 - m = 1 := by omega
      have d7 : m < cap := by omega
      have d8 : m + 1 ≤ l.length := by omega
      by_cases hxc : x = c
      · subst hxc
        have HF := Lib.hid hx
        clear hx
        go_wp2_with fail
        go_quiet (fail)
        go_wp2_with fail
        go_ret
        exact ⟨⟨_, World.drewN_drewN ..⟩, .inl ⟨m, HF.out, HNo.out, rfl⟩⟩
      · have bF : (x == c) = false := by simpa using hxc
        have HF : Hid (l[m]? ≠ some c) := by show _ ≠ _; rw [hx]; intro e; exact hxc (Option.some.inj e)
        clear hx hxc
        go_wp2_with fail
        go_quiet (fail)
        go_wp2_with fail
        go_roundg (gk - 1)
        case rel => exact ⟨m + 1, rfl, hlt, ⟨_, rfl⟩, HNo.out.succ HF.out, HG.out.1⟩
        case measure => exact Nat.sub_lt (HG.out.2 hlt) Nat.one_pos
    · obtain rfl : m = l.length := by omega
      have d0 : ¬ (l.length : Int) + 1 ≤ (l.length : Int) := by omega
      go_wp2_with fail
      go_ret
      exact ⟨⟨q, rfl⟩, .inr ⟨HNo.out, rfl⟩⟩

theorem slice_fromC (b off cap i n : Nat) (hi : i ≤ n) (hn : n ≤ cap) : ∃ q : Option Addr, (∀ W, (Instr.slice 22 (.slice (some ⟨b, off, none⟩) n cap) (some (.int .i64 (i : Int))) none none).run Tryd.prog W = .ok (.slice q (n - i) (cap - i)) W) ∧ q.isSome ∧ (i < n → q = some ⟨b, off + i, none⟩) := by
  refine ⟨if cap = i then some ⟨b, off, none⟩ else some ⟨b, off + i, none⟩, fun W => ?_, ?_, ?_⟩
  · rw [run_slice_l (P := Tryd.prog) (t := 22) (ht := by kernel_rfl) (kl := .i64) (l := (i : Int)) (h0 := by omega) (h1 := by omega)]
    simp [go_sem, Addr.add]
    by_cases h0 : i = 0
    · subst h0; simp
    · simp [h0]
  · split <;> rfl
  · intro h; rw [if_neg (by omega)]

/-- What bytesCut answers. -/
def CutPost (b off cap : Nat) (l : List UInt8) (c : UInt8) (w : World) (e : Ending) (w' : World) : Prop :=
  (∃ n, w' = w.drewN n) ∧ ((∃ (j : Nat) (qa : Addr), l[j]? = some c ∧ NoC l c j ∧ e = .returned (.tuple #[.slice (some ⟨b, off, none⟩) j cap, .slice (some qa) (l.length - (j + 1)) (cap - (j + 1)), .bool true]) ∧ (0 < l.length - (j + 1) → qa = ⟨b, off + (j + 1), none⟩)) ∨
    (NoC l c l.length ∧ e = .returned (.tuple #[.slice (some ⟨b, off, none⟩) l.length cap, .slice none 0 0, .bool false])))

set_option maxRecDepth 100000 in
set_option maxHeartbeats 4000000 in
theorem bytesCut_any (b off cap B sc : Nat) (l : List UInt8) (c : UInt8) (w : World) (hr : Row8 w b off l) (hs : w.cell? ⟨B, 0, none⟩ = some (.int .u8 (c.toNat : Int))) (hc : l.length ≤ cap) (hl : l.length ≤ 4294967296) :
    Calls Tryd.prog 104 #[.slice (some ⟨b, off, none⟩) l.length cap, .slice (some ⟨B, 0, none⟩) 1 sc] w (CutPost b off cap l c w) := by
  have BI := bytesIndex_any b off cap B sc l c w hr hs hc hl
  clear hr hs
  go_enter Tryd.func104, Tryd.ntmps104
  go_wp2_with fail
  go_at_call 117
  refine BI.mono ?_
  rintro e w1 ⟨⟨q, rfl⟩, hor⟩
  clear BI
  rcases hor with ⟨j, hj, hno, rfl⟩ | ⟨hno, rfl⟩
  · have hjl := (List.getElem?_eq_some_iff.1 hj).1
    obtain ⟨q2, hq, hqs, hq3⟩ := slice_fromC b off cap (j + 1) l.length hjl hc
    obtain ⟨qa, rfl⟩ := Option.isSome_iff_exists.1 hqs
    have HF : Hid (∀ n, CutPost b off cap l c w (.returned (.tuple #[.slice (some ⟨b, off, none⟩) j cap, .slice (some qa) (l.length - (j + 1)) (cap - (j + 1)), .bool true])) (w.drewN n)) := fun n => ⟨⟨n, rfl⟩, .inl ⟨j, qa, hj, hno, rfl, fun h => by have := hq3 (by omega); injection this⟩⟩
    have e1 : IntKind.i64.wrap ((j : Int) + 1) = (j : Int) + 1 := IntWalk.i64_in _ (by omega)
    have d1 : (0 : Int) ≤ (j : Int) := by omega
    have d2 : (j : Int) ≤ (cap : Int) := by omega
    have hq' : ∀ W, (Instr.slice 22 (.slice (some ⟨b, off, none⟩) l.length cap) (some (.int .i64 ((j : Int) + 1))) none none).run Tryd.prog W = .ok (.slice (some qa) (l.length - (j + 1)) (cap - (j + 1))) W := hq
    have hq0 : ∀ W, (Instr.slice 22 (.slice (some ⟨b, off, none⟩) l.length cap) none (some (.int .i64 (j : Int))) none).run Tryd.prog W = .ok (.slice (some ⟨b, off, none⟩) j cap) W := fun W => by
      rw [run_slice_h (P := Tryd.prog) (t := 22) (ht := by kernel_rfl) (kh := .i64) (h := (j : Int)) (h0 := by omega) (h2 := by omega)]
      simp [go_sem, Addr.add]
    clear hj hno hq hq3 hqs
    go_wp2_with fail
    go_quiet (fail)
    go_wp2_with fail
    go_ret3
    rw [World.drewN_drewN]
    exact HF.out _
  · have HF : Hid (∀ n, CutPost b off cap l c w (.returned (.tuple #[.slice (some ⟨b, off, none⟩) l.length cap, .slice none 0 0, .bool false])) (w.drewN n)) := fun n => ⟨⟨n, rfl⟩, .inr ⟨hno, rfl⟩⟩
    clear hno
    go_wp2_with fail
    go_ret3
    exact HF.out _

/-- The error of a first line. -/
def erMsg : ByteArray := ⟨#[109, 97, 108, 102, 111, 114, 109, 101, 100, 32, 77, 73, 77, 69, 32, 104, 101, 97, 100, 101, 114, 58, 32, 109, 105, 115, 115, 105, 110, 103, 32, 99, 111, 108, 111, 110]⟩
def erCol (l : List UInt8) : Value := if (58 : UInt8) ∈ l then .nilIface else .iface 125 (.string erMsg)
theorem erCol_or (l : List UInt8) : erCol l = .nilIface ∨ ∃ t x, erCol l = .iface t x := by
  unfold erCol
  split
  · exact .inl rfl
  · exact .inr ⟨_, _, rfl⟩

set_option maxRecDepth 100000 in
set_option maxHeartbeats 4000000 in
theorem mustColon_any (b off cap : Nat) (l : List UInt8) (w : World) (hr : Row8 w b off l) :
    Calls Tryd.prog 103 #[.slice (some ⟨b, off, none⟩) l.length cap] w fun e w' => e = .returned (erCol l) ∧ w = w' := by
  have IB := indexByte_any b off cap l 58 w hr
  have e58 : (((58 : UInt8).toNat : Nat) : Int) = 58 := rfl
  rw [e58] at IB
  clear hr
  by_cases h : (58 : UInt8) ∈ l
  · have hi : ¬ Lib.indexByte l 58 < 0 := by
      intro hn
      have h1 := Lib.indexByte_ge l 58
      obtain ⟨i, hi⟩ := List.getElem?_of_mem h
      exact Lib.indexByte_none (show Lib.indexByte l 58 = -1 by omega) i hi
    have HE : Hid (erCol l = .nilIface) := by show _ = _; unfold erCol; rw [if_pos h]
    clear h
    go_enter Tryd.func103, Tryd.ntmps103
    go_wp2_with fail
    go_at_call 116
    refine IB.mono ?_
    rintro e w1 ⟨rfl, rfl⟩
    clear IB
    go_wp2_with fail
    go_ret
    exact ⟨by rw [HE.out]; rfl, rfl⟩
  · have hi : Lib.indexByte l 58 < 0 := by
      rcases (show Lib.indexByte l 58 < 0 ∨ 0 ≤ Lib.indexByte l 58 from by omega) with h1 | h1
      · exact h1
      · obtain ⟨o, ho⟩ := Int.eq_ofNat_of_zero_le h1
        exact absurd (List.mem_of_getElem? (Lib.indexByte_some ho).1) h
    have HE : Hid (erCol l = .iface 125 (.string erMsg)) := by show _ = _; unfold erCol; rw [if_neg h]
    clear h
    go_enter Tryd.func103, Tryd.ntmps103
    go_wp2_with fail
    go_at_call 116
    refine IB.mono ?_
    rintro e w1 ⟨rfl, rfl⟩
    clear IB
    go_wp2_with fail
    go_ret
    exact ⟨by rw [HE.out]; rfl, rfl⟩
end Go.Proofs.YthobojpbdeepoaaDoor
