/-
  The contract of laws.sameLines, at two lists of the same lines.
-/
import Derived.Test.YthobojpbdeepoaaDoorDotLines
import Derived.Test.YthobojpbdeepoaaDoorSpecDotted
namespace Go.Proofs.YthobojpbdeepoaaDoor
open Go.RowKit

/-- The lines lie in a slice. -/
def LinesAt (w : World) (p : Option Addr) (ls : List (List UInt8)) : Prop := ∀ i l, ls[i]? = some l → ∃ g, p = some ⟨g, 0, none⟩ ∧ w.cell? ⟨g, i, none⟩ = some (sv l)
theorem lines_own {w : World} {base : Nat} {v : Value} {ls : List (List UInt8)} (h : w.ownsRow base 9 1 v ls.length (ls.map sv)) : ∃ p cap, v = .slice p ls.length cap ∧ LinesAt w p ls := by
  obtain ⟨p, cap, h1, h2⟩ := own_cells h
  refine ⟨p, cap, h1, fun i l hi => ?_⟩
  obtain ⟨g, h3, _, h4⟩ := h2 i (sv l) (by rw [List.getElem?_map, hi]; rfl)
  exact ⟨g, h3, h4⟩

set_option maxRecDepth 100000 in
set_option maxHeartbeats 2000000 in
theorem sameLines_any (p q : Option Addr) (c d : Nat) (ls : List (List UInt8)) (w : World) (h : LinesAt w p ls) (h' : LinesAt w q ls) (hn : ls.length ≤ 2147483647) :
    Calls Tryd.prog 35 #[.slice p ls.length c, .slice q ls.length d] w fun e w' => e = .returned (.bool true) ∧ ∃ n, w' = w.drewN n := by
  have HP := Lib.hid h
  have HQ := Lib.hid h'
  have HN := Lib.hid hn
  clear h h' hn
  go_enter Tryd.func35, Tryd.ntmps35
  go_wp2_with fail
  go_loopg [13] ls.length (fun g i wr => ∃ m : Nat, i = .int .i64 (m : Int) ∧ m ≤ ls.length ∧ (∃ n, wr = w.drewN n) ∧ ls.length - m ≤ g)
  case atStart => exact ⟨0, rfl, Nat.zero_le _, ⟨0, rfl⟩, Nat.le_refl _⟩
  case round =>
    obtain ⟨m, rfl, hm, ⟨n, rfl⟩, hg⟩ := hrel
    by_cases hlt : m < ls.length
    · obtain ⟨l, hl⟩ : ∃ l, ls[m]? = some l := ⟨_, List.getElem?_eq_getElem hlt⟩
      obtain ⟨g1, rfl, c1⟩ := HP.out m l hl
      obtain ⟨g2, rfl, c2⟩ := HQ.out m l hl
      have d0 : (m : Int) < (ls.length : Int) := by omega
      have d1 : (0 : Int) ≤ (m : Int) := by omega
      have e1 : IntKind.i64.wrap ((m : Int) + 1) = (m : Int) + 1 := IntWalk.i64_in _ (by have := HN.out; omega)
      have HG : Hid (ls.length - (m + 1) ≤ gk - 1 ∧ 0 < gk ∧ m + 1 ≤ ls.length) := ⟨by omega, by omega, by omega⟩
      unfold sv at c1 c2
      have c3 : ∀ n, (w.drewN n).cell? ⟨g1, m, none⟩ = some (.string ⟨l.toArray⟩) := fun _ => c1
      have c4 : ∀ n, (w.drewN n).cell? ⟨g2, m, none⟩ = some (.string ⟨l.toArray⟩) := fun _ => c2
      clear hl c1 c2 hg
      go_wp2_with fail
      go_quiet (fail)
      go_wp2_with fail
      go_roundg (gk - 1)
      case rel => exact ⟨m + 1, rfl, HG.out.2.2, ⟨_, rfl⟩, HG.out.1⟩
      case measure => have := HG.out; omega
    · have d0 : ¬ (m : Int) < (ls.length : Int) := by omega
      go_wp2_with fail
      go_ret
      exact ⟨rfl, n, rfl⟩
end Go.Proofs.YthobojpbdeepoaaDoor
