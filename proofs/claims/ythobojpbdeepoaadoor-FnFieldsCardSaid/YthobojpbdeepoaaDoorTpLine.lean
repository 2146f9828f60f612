/-
  The contracts of textproto's ReadLine and of impl's rest.
-/
import Derived.Test.YthobojpbdeepoaaDoorLineSlice
namespace Go.Proofs.YthobojpbdeepoaaDoor
open Go.RowKit

/-- What ReadLine leaves. -/
def TLPost (k : RK) (s : RS) (w : World) (e : Ending) (w' : World) : Prop :=
  ∃ s', Rd w' k s' ∧ Turned k.blocks w w' ∧
   ((e = .returned (.tuple #[.string ⟨#[]⟩, errAt k.ae]) ∧ (s.pos = k.d.length ∨ s.pos + 4095 ≤ k.d.length) ∧ NoNl k.d s.pos (k.d.length - s.pos) ∧ s'.pos = k.d.length) ∨
    (∃ l : List UInt8, e = .returned (.tuple #[.string ⟨l.toArray⟩, .nilIface]) ∧ l.length ≤ k.d.length ∧
     ((∃ j, k.d[s.pos + j]? = some 10 ∧ NoNl k.d s.pos j ∧ l = trimCR ((k.d.drop s.pos).take j) ∧ s'.pos = s.pos + j + 1) ∨
      (l ≠ [] ∧ l = k.d.drop s.pos ∧ NoNl k.d s.pos (k.d.length - s.pos) ∧ s'.pos = k.d.length))))

theorem string_of_rowP {w : World} {p : Option Addr} {l : List UInt8} (h : RowP w p l) (cap : Nat) : (convert 22 9 (.slice p l.length cap)).run Tryd.prog w = .ok (.string ⟨l.toArray⟩) w := by
  rcases h with rfl | ⟨b, off, rfl, hr⟩
  · cases p with
    | none => exact run_convert_bytes_nil w 22 5 Tryd.underlying22 Tryd.underlying5 0 cap 9 Tryd.underlying9
    | some a => exact run_convert_bytes_back w 22 9 5 a cap [] Tryd.underlying22 Tryd.underlying5 Tryd.underlying9 (fun j hj => absurd hj (Nat.not_lt_zero j))
  · exact string_of_row hr _ _ _ cap Tryd.underlying22 Tryd.underlying5 Tryd.underlying9

set_option maxRecDepth 100000 in
set_option maxHeartbeats 2000000 in
theorem tpLine_gen (k : RK) (w : World) (fe : Addr) (T : Nat) (Q : World → RS → Prop) (hfe : k.ae ≠ fe)
    (CD : Calls Tryd.prog 82 #[.pointer (some ⟨T, 0, none⟩)] w fun e w1 => e = .returned (.tuple #[]) ∧ ∃ s, Hid (Q w1 s) ∧ Rd w1 k s ∧ Tp w1 k T ∧ Sent w1 k.K 6 fe) :
    Calls Tryd.prog 63 #[.pointer (some ⟨T, 0, none⟩)] w fun e w' => ∃ w1 s, Q w1 s ∧ Rd w1 k s ∧ Tp w1 k T ∧ TLPost k s w1 e w' := by
  have RL := readLineSlice_gen k w fe T (-1) (.inl rfl) Q hfe CD
  go_enter Tryd.func63, Tryd.ntmps63
  go_wp2_with fail
  go_at_call 84
  refine RL.mono ?_
  rintro e w1 ⟨w0, s, hQ, hR0, hT0, s', hR, hTu, hor⟩
  have HQ := Lib.hid (⟨hQ, hR0, hT0⟩ : Q w0 s ∧ Rd w0 k s ∧ Tp w0 k T)
  clear hQ hR0 hT0 RL CD hfe
  rcases hor with ⟨rfl, h1⟩ | ⟨p, l, cap, rfl, hp, _, _, hl, hor⟩
  · have hs : (convert 22 9 (.slice none 0 0)).run Tryd.prog w1 = .ok (.string ⟨#[]⟩) w1 := string_of_rowP (w := w1) (p := none) (l := []) (.inl rfl) 0
    have HF : Hid (TLPost k s w0 (.returned (.tuple #[.string ⟨#[]⟩, errAt k.ae])) w1) := ⟨s', hR, hTu, .inl ⟨rfl, h1⟩⟩
    clear h1 hR hTu
    go_wp2_with fail
    go_ret2
    exact ⟨w0, s, HQ.out.1, HQ.out.2.1, HQ.out.2.2, HF.out⟩
  · have hs := string_of_rowP hp.rowP cap
    have HF : Hid (TLPost k s w0 (.returned (.tuple #[.string ⟨l.toArray⟩, .nilIface])) w1) := ⟨s', hR, hTu, .inr ⟨l, rfl, hl, hor⟩⟩
    clear hor hR hTu hp hl
    go_wp2_with fail
    go_ret2
    exact ⟨w0, s, HQ.out.1, HQ.out.2.1, HQ.out.2.2, HF.out⟩

theorem tpLine_any (k : RK) (s : RS) (w : World) (fe : Addr) (T : Nat) (h : Rd w k s) (hF : Sent w k.K 6 fe) (hfe : k.ae ≠ fe) (hT : Tp w k T) :
    Calls Tryd.prog 63 #[.pointer (some ⟨T, 0, none⟩)] w (TLPost k s w) :=
  (tpLine_gen k w fe T (fun w1 s1 => w1 = w ∧ s1 = s) hfe ((closeDot_nil k T w hT).mono fun e w1 ⟨he, hw⟩ => ⟨he, s, ⟨hw.symm, rfl⟩, hw ▸ h, hw ▸ hT, hw ▸ hF⟩)).mono fun e w' ⟨w1, s1, ⟨hw, hs⟩, _, _, hP⟩ => by rw [hw, hs] at hP; exact hP

/-- What a round of rest's loop keeps. -/
def RestRel (k : RK) (s : RS) (w : World) (g : Nat) (v : Value) (wr : World) : Prop :=
  ∃ l s1, Rd wr k s1 ∧ Turned k.blocks w wr ∧ wr.ownsRow w.heap.size 5 1 v l.length (by8 l) ∧ l ++ k.d.drop s1.pos = k.d.drop s.pos ∧ l.length + s.pos = s1.pos ∧ k.d.length - s1.pos ≤ g

def RestPost (k : RK) (s : RS) (w : World) (e : Ending) (w' : World) : Prop :=
  ∃ v, e = .returned v ∧ Turned k.blocks w w' ∧ w'.ownsRow w.heap.size 5 1 v (k.d.drop s.pos).length (by8 (k.d.drop s.pos))

section
variable {k : RK} {s s1 s2 : RS} {w wr w1 w2 : World} {l : List UInt8} {v v' : Value}
theorem rest_more {x : Value} {t : TypeId} {e : TypeId} (h : Rd w k s) (hT : Turned k.blocks w wr) (hR2 : Rd w1 k s2) (hT2 : Turned k.blocks wr w1) (hO : w1.ownsRow w.heap.size e 1 v l.length (by8 l))
    (hg : (w1.alloc (.cells #[x] t)).grownBy w2 v.ownBlock) : Rd w2 k s2 ∧ Turned k.blocks w w2 := by
  have hT3 : Turned k.blocks w (w1.alloc (.cells #[x] t)) := (hT.trans hT2).alloc _
  refine ⟨(hR2.grown h (by simp) (fun y hy => Below.heap_alloc _ _ _ (Nat.lt_of_lt_of_le hy (hT.trans hT2).size))).grown h hg.size (fun y hy => hg.block y (Nat.lt_of_lt_of_le hy hT3.size) (own_ne hO y hy)), hT3.grown hg (fun y hy => ?_)⟩
  right
  rcases Nat.lt_or_ge y w.heap.size with h1 | h1
  · exact absurd hy.symm (own_ne hO y h1)
  · exact h1
end

set_option maxRecDepth 100000 in
set_option maxHeartbeats 4000000 in
theorem rest_any (k : RK) (s : RS) (w : World) (T : Nat) (h : Rd w k s) (hT : Tp w k T) :
    Calls Tryd.prog 49 #[.pointer (some ⟨T, 0, none⟩)] w (RestPost k s w) := by
  go_enter Tryd.func49, Tryd.ntmps49
  go_wp2_with fail
  go_loopg [3] (k.d.length - s.pos) (fun g v wr => RestRel k s w g v wr)
  case atStart => exact ⟨[], s, h, Turned.refl _ _, ⟨rfl, .inl ⟨rfl, rfl⟩⟩, rfl, Nat.zero_add _, Nat.le_refl _⟩
  case round =>
    obtain ⟨l, s1, hR, hTu, hO, he, hp, hg⟩ := hrel
    have hTr := hT.keep h hTu
    obtain ⟨buf, hTb⟩ := hTr.blk
    have cT : wr.cell? ⟨T, 0, none⟩ = some (.pointer (some ⟨k.B, 0, none⟩)) := by rw [hTb.cell]; rfl
    have hpl := hR.pos_le
    have hil := hR.il
    have hdl := h.dl
    by_cases hd : s1.pos = k.d.length
    · have BL := readByte_eof k s1 wr hR hd
      go_wp2_with fail
      go_at_call 74
      refine BL.mono ?_
      rintro e w1 ⟨rfl, hT2, _⟩
      have hO1 := own_keep hO hT2 (by
        have b1 := h.bb.lt
        have b2 := h.cb.lt
        have b3 := h.yb.lt
        intro x hx
        simp [RK.blocks] at hx
        omega)
      have HF : Hid (RestPost k s w (.returned u3) w1) := ⟨u3, rfl, hTu.trans hT2, by rw [hd, List.drop_length, List.append_nil] at he; rw [← he]; exact hO1⟩
      clear h hT hR hTu hO he hp hg hTr hTb BL hT2 hO1
      go_wp2_with fail
      go_ret
      exact HF.out
    · obtain ⟨c, hc⟩ : ∃ c, k.d[s1.pos]? = some c := ⟨_, List.getElem?_eq_getElem (by omega)⟩
      have BL := readByte_some k s1 wr hR c hc
      go_wp2_with fail
      go_at_call 74
      refine BL.mono ?_
      rintro e w1 ⟨rfl, hT2, s2, hR2, hp2, _⟩
      have hO1 := own_keep hO hT2 (by
        have b1 := h.bb.lt
        have b2 := h.cb.lt
        have b3 := h.yb.lt
        intro x hx
        simp [RK.blocks] at hx
        omega)
      have hsz : w.heap.size ≤ w1.heap.size := (hTu.trans hT2).size
      have HD : Hid (∀ v' w2, w2.ownsRow w.heap.size 5 1 v' (l.length + 1) (by8 l ++ [.int .u8 (c.toNat : Int)]) → (w1.alloc (.cells #[.int .u8 (c.toNat : Int)] 5)).grownBy w2 u3.ownBlock → RestRel k s w (gk - 1) v' w2 ∧ 1 ≤ gk) := by
        intro v' w2 ho hg2
        obtain ⟨g1, g2⟩ := rest_more h hTu hR2 hT2 hO1 hg2
        have hlt : s1.pos < k.d.length := (List.getElem?_eq_some_iff.1 hc).1
        refine ⟨⟨l ++ [c], s2, g1, g2, ?_, ?_, ?_, by omega⟩, by omega⟩
        · rw [List.length_append]
          unfold by8 at ho ⊢
          rw [List.map_append]
          exact ho
        · rw [hp2, List.append_assoc, ← he]
          congr 1
          have h5 : k.d[s1.pos] = c := by rw [List.getElem?_eq_getElem hlt] at hc; exact Option.some.inj hc
          rw [List.drop_eq_getElem_cons hlt, h5]
          rfl
        · rw [List.length_append, hp2]
          show l.length + 1 + s.pos = _
          omega
      have HO1 := Lib.hid (hO1.alloc (.cells #[.int .u8 (c.toNat : Int)] 5))
      obtain ⟨i0, hi, hz0, hz1, hz2⟩ := info_parts u8_info
      have L2 : Hid (l.length + 1 ≤ maxLen) := by show _ ≤ _; unfold maxLen; omega
      have L3 : Hid ((l.length + 1) * 1 ≤ 140737488355328) := by show _ ≤ _; omega
      have HS : Hid (w.heap.size ≤ (w1.alloc (.cells #[.int .u8 (c.toNat : Int)] 5)).heap.size) := by show _ ≤ _; simp; omega
      clear h hT hR hTu hO he hp hg hTr hTb BL hT2 hO1 hR2 hp2 hc hd hsz
      go_wp2_with (at_builtin; refine wpList_append_own_at _ rfl (.tmp 17) (.tmp 19) 22 rfl w.heap.size 5 i0 (.int .u8 0) 1 1 Tryd.underlying22 hi hz0 hz1 hz2 rfl (by decide) _ _ _ rfl HO1.out ⟨w1.heap.size, 0, none⟩ 1 1 [.int .u8 (c.toNat : Int)] rfl rfl (cell_one_new _ _ _) (by simp [Value.oneCell']) L2.out L3.out HS.out ?_; intro v' w2 hown hgrow hnil hat)
      have HR := Lib.hid (HD.out _ _ hown hgrow)
      go_roundg (gk - 1)
      case rel => exact HR.out.1
      case measure => have := HR.out.2; omega
end Go.Proofs.YthobojpbdeepoaaDoor
