/-
  The contract of bytes.IndexByte over a row of bytes.
-/
import Derived.Test.YthobojpbdeepoaaDoorFrame
import Derived.Test.YthobojpbdeepoaaDoorMem8
import Derived.Shelf.Bytes.SlIndexAt
import Derived.Lib.IndexLaws
namespace Go.Proofs.YthobojpbdeepoaaDoor
open Go.RowKit

theorem bytesOf_map (l : List UInt8) : Lib.bytesOf (l.map fun u => (u.toNat : Int)) = l := by
  unfold Lib.bytesOf
  rw [List.map_map]
  conv => rhs; rw [← List.map_id l]
  refine List.map_congr_left fun u _ => ?_
  show UInt8.ofNat ((u.toNat : Int)).toNat = u
  simp

set_option maxHeartbeats 2000000 in
set_option maxRecDepth 1000000 in
theorem indexByte_any (b off cap : Nat) (l : List UInt8) (c : UInt8) (w : World) (hr : Row8 w b off l) :
    Calls Tryd.prog 116 #[.slice (some ⟨b, off, none⟩) l.length cap, .int .u8 (c.toNat : Int)] w fun e w' => e = .returned (.int .i64 (Lib.indexByte l c)) ∧ w = w' := by
  have hrun := Lib.run_indexByteAt (P := Tryd.prog) w ⟨b, off, none⟩ l.length cap (l.map fun u => (u.toNat : Int)) (by simp) (fun i hi => by
    have h1 := hr i l[i] (List.getElem?_eq_getElem hi)
    have h2 : (l.map fun u => (u.toNat : Int)).getD i 0 = (l[i].toNat : Int) := by rw [List.getD_eq_getElem?_getD, List.getElem?_map, List.getElem?_eq_getElem hi]; rfl
    rw [h2]
    unfold Addr.add
    split
    · subst_vars; simpa using h1
    · exact h1) (c.toNat : Int)
  rw [bytesOf_map] at hrun
  have hc : ((c.toNat : Int)).toNat.toUInt8 = c := by simp
  rw [hc] at hrun
  go_enter Tryd.func116, Tryd.ntmps116
  go_wp2
  rw [run_callFunc_extern Tryd.func130 (by kernel_rfl) (by kernel_rfl) (by kernel_rfl) (e := Extern.BytealgIndexByte.indexByte) (by kernel_rfl), hrun]
  simp only [Result.andThen]
  rw [Oper.upon_value]
  go_wp2
  go_ret
  exact ⟨rfl, rfl⟩
end Go.Proofs.YthobojpbdeepoaaDoor
