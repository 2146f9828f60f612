/-
  The contract of (*bytes.Reader).Read into a row of bytes.
-/
import Derived.Test.YthobojpbdeepoaaDoorFrame
import Derived.Test.YthobojpbdeepoaaDoorMem8
import Derived.Laws.CopyOwn
import Derived.Deep.RegionLaw
import Derived.StillTailTactics
namespace Go.Proofs.YthobojpbdeepoaaDoor
open Go.RowKit

def by8 (l : List UInt8) : List Value := l.map fun u => Value.int .u8 (u.toNat : Int)
theorem by8_length (l : List UInt8) : (by8 l).length = l.length := by unfold by8; simp
theorem by8_get {l : List UInt8} {j : Nat} {u : UInt8} (h : l[j]? = some u) : (by8 l)[j]? = some (.int .u8 (u.toNat : Int)) := by unfold by8; rw [List.getElem?_map, h]; rfl
theorem by8_one (l : List UInt8) : ∀ v ∈ by8 l, v.oneCell' = true := by
  intro v hv
  unfold by8 at hv
  obtain ⟨u, _, rfl⟩ := List.mem_map.1 hv
  rfl
theorem part_length {d : List UInt8} {i m : Nat} (h : m ≤ d.length - i) : ((d.drop i).take m).length = m := by rw [List.length_take, List.length_drop]; omega
theorem part_cells {w : World} {S so i m : Nat} {d : List UInt8} (h : Row8 w S so d) : ∀ j v, (by8 ((d.drop i).take m))[j]? = some v → w.cell? ((⟨S, so + i, none⟩ : Addr).add j) = some v := by
  intro j v hv
  unfold by8 at hv
  rw [List.getElem?_map] at hv
  obtain ⟨u, hu, rfl⟩ := Option.map_eq_some_iff.1 hv
  have h1 := (h.drop i).take m j u hu
  unfold Addr.add
  split
  · subst_vars; simpa using h1
  · exact h1

theorem read_eof (Y D o n cap : Nat) (sa : Option Addr) (sl scap i : Nat) (pr : Int) (w : World) (K : Nat) (ae : Addr) (hY : Blk w Y 161 #[.slice sa sl scap, .int .i64 (i : Int), .int .i64 pr])
    (hE : Sent w K 0 ae) (hi : sl ≤ i) :
    Calls Tryd.prog 181 #[.pointer (some ⟨Y, 0, none⟩), .slice (some ⟨D, o, none⟩) n cap] w fun e w' => e = .returned (.tuple #[.int .i64 0, errAt ae]) ∧ Turned [] w w' := by
  have c0 := hY.cell 0
  have c1 := hY.cell 1
  have cE := hE.cell
  simp at c0 c1
  have d0 : (sl : Int) ≤ (i : Int) := by omega
  go_enter Tryd.func181, Tryd.ntmps181
  go_wp2_with fail
  go_quiet (fail)
  go_wp2_with fail
  go_quiet (fail)
  go_wp2_with fail
  go_ret2
  exact ⟨rfl, ((Turned.refl _ _).drewN _).drewN _⟩

theorem u8_size : (Tryd.prog.info? 5).map (·.size) = some 1 := by kernel_rfl

set_option maxHeartbeats 1000000 in
theorem read_some (Y D o n cap S so : Nat) (d : List UInt8) (scap i : Nat) (pr : Int) (cur : List Value) (w : World) (hY : Blk w Y 161 #[.slice (some ⟨S, so, none⟩) d.length scap, .int .i64 (i : Int), .int .i64 pr])
    (hD : Blk w D 5 cur.toArray) (hfit : o + n ≤ cur.length) (hS : Row8 w S so d) (hYD : Y ≠ D) (hSY : S ≠ Y) (hi : i < d.length) (hcap : d.length ≤ scap) (hn : n ≤ 9223372036854775807) (hlen : d.length ≤ 4611686018427387904) (m : Nat) (hm : m = min (d.length - i) n) :
    Calls Tryd.prog 181 #[.pointer (some ⟨Y, 0, none⟩), .slice (some ⟨D, o, none⟩) n cap] w fun e w' =>
      e = .returned (.tuple #[.int .i64 (m : Int), .nilIface]) ∧ Turned [Y, D] w w' ∧ Blk w' Y 161 #[.slice (some ⟨S, so, none⟩) d.length scap, .int .i64 ((i + m : Nat) : Int), .int .i64 (-1)] ∧
      Blk w' D 5 (splice cur o (by8 ((d.drop i).take m))).toArray := by
  have c0 := hY.cell 0
  have c1 := hY.cell 1
  have c2 := hY.cell 2
  have f2 := hY.frozen 2
  have f1 := hY.frozen 1
  simp at c0 c1 c2
  have HM := Lib.hid hm
  clear hm
  have hne : ¬ scap = i := by omega
  have hile : i ≤ d.length := by omega
  go_enter Tryd.func181, Tryd.ntmps181
  go_wp2_with fail
  go_quiet (fail)
  go_wp2_with fail
  have F : ∀ q W, (w.drewN q).setCell ⟨Y, 2, none⟩ (.int .i64 (-1)) = W → Turned [Y, D] w W ∧ Blk W Y 161 #[.slice (some ⟨S, so, none⟩) d.length scap, .int .i64 (i : Int), .int .i64 (-1)] ∧
      Blk W D 5 cur.toArray ∧ Row8 W S so d := fun q W hW => by
    subst hW
    exact ⟨((Turned.refl _ _).drewN q).setCell (.inl (by simp)) _, (hY.drewN q).set_ 2 _, (hD.drewN q).far (by simpa using hYD.symm) _, hS.of_block (Below.heap_setCell _ _ _ _ hSY)⟩
  generalize hw1 : World.setCell (World.drewN w _) ⟨Y, 2, none⟩ (.int .i64 (-1)) = w1
  obtain ⟨hT, hY1, hD1, hS1⟩ := F _ _ hw1
  clear F hw1 c0 c1 c2 f2 f1 hY hD hS
  have c0 := hY1.cell 0
  have c1 := hY1.cell 1
  simp at c0 c1
  have h1 : m ≤ n := by have := HM.out; omega
  have h2 : m ≤ d.length - i := by have := HM.out; omega
  have SN : Hid ((by8 ((d.drop i).take m)).length = Nat.min (d.length - i) n) := by
    show (by8 ((d.drop i).take m)).length = min (d.length - i) n
    rw [by8_length, part_length h2]; exact HM.out
  have SF : Hid (o + (by8 ((d.drop i).take m)).length ≤ cur.length) := by
    show o + (by8 ((d.drop i).take m)).length ≤ cur.length
    rw [by8_length, part_length h2]; omega
  have SC := Lib.hid (part_cells (w := w1.drew) (i := i) (m := m) hS1)
  have S1 := Lib.hid (by8_one ((d.drop i).take m))
  have SD := Lib.hid hD1.drew
  have SL : Hid ((by8 ((d.drop i).take m)).length = m) := by rw [by8_length]; exact part_length h2
  go_region_law (refine step_copy8 rfl (.tmp 20) (.tmp 29) 22 22 rfl 5 Tryd.underlying22 u8_size (some ⟨D, o, none⟩) (some ⟨S, so + i, none⟩) n cap (d.length - i) (scap - i) (by simp [Act.eval, Act.put]) (by simp [Act.eval, Act.put]) D o cur 5 SD.out (by8 ((d.drop i).take m)) SN.out (fun _ => ⟨rfl, _, rfl, SC.out⟩) SF.out S1.out ?_; intro w2 hD2 hT2; rw [SL.out])
  all_goals
    have hY2 := hT2.out.blk hY1.drew (by simpa using hYD)
    have hD3 := hD2.out
    have hT3 := hT.trans (((Turned.refl [Y, D] w1).drew).trans (hT2.out.mono (fun k hk => by simp at hk ⊢; exact .inr hk)))
    clear hT2 hD2 hY1 hD1 hS1 c0 c1 SN SF SC S1 SD SL
    have c1 := hY2.cell 1
    have f1 := hY2.frozen 1
    simp at c1
    go_wp2_with fail
    go_ret2
    exact ⟨rfl, hT3.setCell (.inl (by simp)) _, by simpa using hY2.set_ 1 (.int .i64 ((i : Int) + (m : Int))), hD3.far (by simpa using hYD.symm) _⟩
end Go.Proofs.YthobojpbdeepoaaDoor
