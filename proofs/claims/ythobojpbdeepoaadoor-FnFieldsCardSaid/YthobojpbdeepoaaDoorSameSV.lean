/-
  The contracts of laws.sameLines and laws.fields at two lists that hold the same.
-/
import Derived.Test.YthobojpbdeepoaaDoorSpecInsert
namespace Go.Proofs.YthobojpbdeepoaaDoor
open Go.RowKit

set_option maxRecDepth 100000 in
set_option maxHeartbeats 2000000 in
theorem sameSV_any (u v : Value) (b1 b2 : Nat) (ls : List (List UInt8)) (w : World) (h : SV w b1 u ls) (h' : SV w b2 v ls) (hn : ls.length ≤ 2147483647) :
    Calls Tryd.prog 35 #[u, v] w fun e w' => e = .returned (.bool true) ∧ ∃ n, w' = w.drewN n := by
  obtain ⟨p, c, rfl, _, hp⟩ := h.form
  obtain ⟨q, d, rfl, _, hq⟩ := h'.form
  have HP := Lib.hid hp
  have HQ := Lib.hid hq
  have HN := Lib.hid hn
  clear h h' hn hp hq
  go_enter Tryd.func35, Tryd.ntmps35
  go_wp2_with fail
  go_loopg [13] ls.length (fun g i wr => ∃ m : Nat, i = .int .i64 (m : Int) ∧ m ≤ ls.length ∧ (∃ n, wr = w.drewN n) ∧ ls.length - m ≤ g)
  case atStart => exact ⟨0, rfl, Nat.zero_le _, ⟨0, rfl⟩, Nat.le_refl _⟩
  case round =>
    obtain ⟨m, rfl, hm, ⟨n, rfl⟩, hg⟩ := hrel
    by_cases hlt : m < ls.length
    · obtain ⟨l, hl⟩ : ∃ l, ls[m]? = some l := ⟨_, List.getElem?_eq_getElem hlt⟩
      obtain ⟨g1, o1, rfl, _, c1⟩ := HP.out m l hl
      obtain ⟨g2, o2, rfl, _, c2⟩ := HQ.out m l hl
      have d0 : (m : Int) < (ls.length : Int) := by omega
      have d1 : (0 : Int) ≤ (m : Int) := by omega
      have e1 : IntKind.i64.wrap ((m : Int) + 1) = (m : Int) + 1 := IntWalk.i64_in _ (by have := HN.out; omega)
      have HG : Hid (ls.length - (m + 1) ≤ gk - 1 ∧ 0 < gk ∧ m + 1 ≤ ls.length) := ⟨by omega, by omega, by omega⟩
      unfold tv at c1 c2
      have c3 : ∀ n, (w.drewN n).cell? ⟨g1, o1 + m, none⟩ = some (.string ⟨l.toArray⟩) := fun _ => c1
      have c4 : ∀ n, (w.drewN n).cell? ⟨g2, o2 + m, none⟩ = some (.string ⟨l.toArray⟩) := fun _ => c2
      clear hl c1 c2 hg
      go_wp2_with fail
      go_quiet (fail)
      go_wp2_with fail
      go_roundg (gk - 1)
      case rel => exact ⟨m + 1, rfl, HG.out.2.2, ⟨_, rfl⟩, HG.out.1⟩
      case measure => have := HG.out; omega
    · have d0 : ¬ (m : Int) < (ls.length : Int) := by omega
      go_wp2_with fail
      go_ret
      exact ⟨rfl, n, rfl⟩

set_option maxRecDepth 100000 in
set_option maxHeartbeats 2000000 in
theorem lawFields_any (u v : Value) (b1 b2 : Nat) (l : List Fd) (w : World) (h : w.ownsRow b1 117 2 u l.length (fc l)) (h' : w.ownsRow b2 67 2 v l.length (fc l)) (hn : l.length ≤ 2147483647) :
    Calls Tryd.prog 41 #[u, v] w fun e w' => e = .returned (.bool true) ∧ ∃ n, w' = w.drewN n := by
  obtain ⟨p, c, rfl, _, _, _, _, hp⟩ := ownsN_slice h
  obtain ⟨q, d, rfl, _, _, _, _, hq⟩ := ownsN_slice h'
  have HP := Lib.hid hp
  have HQ := Lib.hid hq
  have HN := Lib.hid hn
  clear h h' hn hp hq
  go_enter Tryd.func41, Tryd.ntmps41
  go_wp2_with fail
  go_loopg [13] l.length (fun g i wr => ∃ m : Nat, i = .int .i64 (m : Int) ∧ m ≤ l.length ∧ (∃ n, wr = w.drewN n) ∧ l.length - m ≤ g)
  case atStart => exact ⟨0, rfl, Nat.zero_le _, ⟨0, rfl⟩, Nat.le_refl _⟩
  case round =>
    obtain ⟨m, rfl, hm, ⟨n, rfl⟩, hg⟩ := hrel
    by_cases hlt : m < l.length
    · obtain ⟨f, hl⟩ : ∃ f, l[m]? = some f := ⟨_, List.getElem?_eq_getElem hlt⟩
      obtain ⟨k1, k2⟩ := fc_at hl
      obtain ⟨g1, rfl, c1⟩ := HP.out _ _ k1
      obtain ⟨g1', e1', c1'⟩ := HP.out _ _ k2
      obtain ⟨g2, rfl, c2⟩ := HQ.out _ _ k1
      obtain ⟨g2', e2', c2'⟩ := HQ.out _ _ k2
      injection e1' with e1'
      injection e1' with e1'
      subst e1'
      injection e2' with e2'
      injection e2' with e2'
      subst e2'
      have d0 : (m : Int) < (l.length : Int) := by omega
      have d1 : (0 : Int) ≤ (m : Int) := by omega
      have e1 : IntKind.i64.wrap ((m : Int) + 1) = (m : Int) + 1 := IntWalk.i64_in _ (by have := HN.out; omega)
      have HG : Hid (l.length - (m + 1) ≤ gk - 1 ∧ 0 < gk ∧ m + 1 ≤ l.length) := ⟨by omega, by omega, by omega⟩
      unfold tv at c1 c2 c1' c2'
      have c3 : ∀ n, (w.drewN n).cell? ⟨g1, m * 2, none⟩ = some (.string ⟨f.1.toArray⟩) := fun _ => c1
      have c4 : ∀ n, (w.drewN n).cell? ⟨g2, m * 2, none⟩ = some (.string ⟨f.1.toArray⟩) := fun _ => c2
      have c5 : ∀ n, (w.drewN n).cell? ⟨g1, m * 2 + 1, none⟩ = some (.string ⟨f.2.toArray⟩) := fun _ => c1'
      have c6 : ∀ n, (w.drewN n).cell? ⟨g2, m * 2 + 1, none⟩ = some (.string ⟨f.2.toArray⟩) := fun _ => c2'
      clear hl c1 c2 c1' c2' hg k1 k2
      go_wp2_with fail
      go_quiet (fail)
      go_wp2_with fail
      go_roundg (gk - 1)
      case rel => exact ⟨m + 1, rfl, HG.out.2.2, ⟨_, rfl⟩, HG.out.1⟩
      case measure => have := HG.out; omega
    · have d0 : ¬ (m : Int) < (l.length : Int) := by omega
      go_wp2_with fail
      go_ret
      exact ⟨rfl, n, rfl⟩
end Go.Proofs.YthobojpbdeepoaaDoor
