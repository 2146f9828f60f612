/-
  The contract of bytes.TrimLeft at the set of a space and a tab: the shelf's contract, laid at this program (the table of numbers and the fields as the kit's lay-plain writes them), in this seat's words.
-/
import Derived.Shelf.Bytes.SlTrim
import Derived.Test.YthobojpbdeepoaaDoorBlank
namespace Go.Proofs.YthobojpbdeepoaaDoor
open Go.Shelf Go.RowKit
def trimL_ren : Go.Shelf.Ren := ⟨fun | 8 => 107 | 9 => 119 | 11 => 120 | 12 => 121 | 14 => 122 | 16 => 131 | 17 => 132 | 18 => 133 | 20 => 137 | n => n, fun | 22 => 22 | 9 => 9 | 3 => 3 | 4 => 4 | 5 => 5 | 28 => 191 | 27 => 190 | 0 => 0 | 31 => 194 | 33 => 201 | 21 => 21 | 36 => 211 | 37 => 206 | 40 => 214 | 39 => 213 | n => n, fun | 0 => 12 | 1 => 13 | n => n⟩
theorem trimL_lay : SlLaysV.n8 Tryd.prog trimL_ren := {
  mixed := by kernel_rfl
  f8 := Tryd.func107.trans (congrArg some (by kernel_rfl))
  f9 := Tryd.func119.trans (congrArg some (by kernel_rfl))
  f11 := Tryd.func120.trans (congrArg some (by kernel_rfl))
  f12 := Tryd.func121.trans (congrArg some (by kernel_rfl))
  f14 := Tryd.func122.trans (congrArg some (by kernel_rfl))
  f16 := Tryd.func131.trans (congrArg some (by kernel_rfl))
  f17 := Tryd.func132.trans (congrArg some (by kernel_rfl))
  f18 := Tryd.func133.trans (congrArg some (by kernel_rfl))
  f20 := Tryd.func137.trans (congrArg some (by kernel_rfl))
  t0 := Tryd.underlying0
  a0 := Tryd.isAgg0
  z0 := Tryd.sizeOf0
  v0 := Tryd.zeroValue0
  t3 := Tryd.underlying3
  a3 := Tryd.isAgg3
  z3 := Tryd.sizeOf3
  v3 := Tryd.zeroValue3
  t4 := Tryd.underlying4
  a4 := Tryd.isAgg4
  z4 := Tryd.sizeOf4
  v4 := Tryd.zeroValue4
  t5 := Tryd.underlying5
  a5 := Tryd.isAgg5
  z5 := Tryd.sizeOf5
  v5 := Tryd.zeroValue5
  t9 := Tryd.underlying9
  a9 := Tryd.isAgg9
  z9 := Tryd.sizeOf9
  v9 := Tryd.zeroValue9
  t21 := Tryd.underlying21
  a21 := Tryd.isAgg21
  z21 := Tryd.sizeOf21
  v21 := Tryd.zeroValue21
  t22 := Tryd.underlying22
  a22 := Tryd.isAgg22
  z22 := Tryd.sizeOf22
  v22 := Tryd.zeroValue22
  t27 := Tryd.underlying190
  a27 := Tryd.isAgg190
  z27 := Tryd.sizeOf190
  t28 := Tryd.underlying191
  a28 := Tryd.isAgg191
  z28 := Tryd.sizeOf191
  v28 := Tryd.zeroValue191
  t31 := Tryd.underlying194
  a31 := Tryd.isAgg194
  z31 := Tryd.sizeOf194
  v31 := Tryd.zeroValue194
  t33 := Tryd.underlying201
  a33 := Tryd.isAgg201
  z33 := Tryd.sizeOf201
  v33 := Tryd.zeroValue201
  t36 := Tryd.underlying211
  a36 := Tryd.isAgg211
  z36 := Tryd.sizeOf211
  t37 := Tryd.underlying206
  a37 := Tryd.isAgg206
  z37 := Tryd.sizeOf206
  v37 := Tryd.zeroValue206
  t39 := Tryd.underlying213
  a39 := Tryd.isAgg213
  z39 := Tryd.sizeOf213
  v39 := Tryd.zeroValue213
  t40 := Tryd.underlying214
  a40 := Tryd.isAgg214
  z40 := Tryd.sizeOf214
  v40 := Tryd.zeroValue214 }
theorem set_info : (Tryd.prog.info? (trimL_ren.t 27)).map (fun i => (i.zero, i.size)) = some (some (.agg (Array.replicate 256 (.bool false))), 256) := by kernel_rfl
theorem set_two : (⟨#[32, 9]⟩ : ByteArray).data.toList = [32, 9] := rfl
theorem set_ascii : ∀ (j : Nat) b, (⟨#[32, 9]⟩ : ByteArray).data.toList[j]? = some b → b.toNat < 128 := by
  intro j b h
  rw [set_two] at h
  match j, h with
  | 0, h => simp at h; subst h; decide
  | 1, h => simp at h; subst h; decide
theorem trim_set (l : List UInt8) : Lib.trimLeftS l [32, 9] = trimL blB l := by
  unfold Lib.trimLeftS trimL
  congr 1
  funext c
  have h1 : ∀ n : Fin 256, ([32, 9].contains (UInt8.ofNat n.val)) = blB (UInt8.ofNat n.val) := by decide +kernel
  have h2 := h1 ⟨c.toNat, c.toNat_lt⟩
  have h3 : UInt8.ofNat c.toNat = c := by rw [← UInt8.toNat_inj, UInt8.toNat_ofNat']; exact Nat.mod_eq_of_lt c.toNat_lt
  simpa [h3] using h2
theorem trimL_suffix (l : List UInt8) : trimL blB l = l.drop (l.length - (trimL blB l).length) := by
  have h : trimL blB l <:+ l := List.dropWhile_suffix _
  exact (List.suffix_iff_eq_drop.1 h)

theorem trimLeft_any (p : Option Addr) (c : Nat) (l : List UInt8) (w : World) (hr : RowP w p l) (hc : l.length ≤ c) (hb : c ≤ 9223372036854775807) :
    Calls Tryd.prog 107 #[.slice p l.length c, .string ⟨#[32, 9]⟩] w fun e w' => (∃ q c', e = .returned (.slice q (trimL blB l).length c') ∧ RowP w' q (trimL blB l)) ∧ Below w.heap.size w w' := by
  have hbs : Lib.BytesAt w p l.length l := by
    intro hn
    rcases hr with rfl | ⟨b, o, rfl, hrow⟩
    · simp at hn
    · refine ⟨b, o, rfl, fun i hi => ?_⟩
      rw [hrow i _ (List.getElem?_eq_getElem hi)]
      simp [List.getD, List.getElem?_eq_getElem hi]
  have T := Any.bytes_TrimLeft_ascii trimL_lay (zero_of_info set_info).1 (zero_of_info set_info).2 p l.length c l ⟨#[32, 9]⟩ w rfl hc hb hbs (by decide) set_ascii
  refine T.mono fun e w' ⟨h1, h2⟩ => ⟨?_, h2⟩
  rw [set_two, trim_set] at h1
  have hle : (trimL blB l).length ≤ l.length := by
    have h : trimL blB l <:+ l := List.dropWhile_suffix _
    exact h.length_le
  by_cases h0 : trimL blB l = []
  · rw [h0] at h1 ⊢
    have e0 : Lib.leftV p l.length c (l.length - ([] : List UInt8).length) = .slice none 0 0 := by unfold Lib.leftV; rw [if_pos (by simp)]
    rw [e0] at h1
    exact ⟨none, 0, h1, .inl rfl⟩
  · have hpos : 0 < (trimL blB l).length := List.length_pos_iff.2 h0
    have e0 : Lib.leftV p l.length c (l.length - (trimL blB l).length) = Lib.fromV p l.length c (l.length - (trimL blB l).length) := by unfold Lib.leftV; rw [if_neg (by omega)]
    rw [e0] at h1
    unfold Lib.fromV at h1
    rcases hr with hnil | ⟨b, o, rfl, hrow⟩
    · rw [hnil] at hpos; simp [trimL] at hpos
    · rw [if_neg (by omega), show l.length - (l.length - (trimL blB l).length) = (trimL blB l).length by omega] at h1
      refine ⟨_, _, h1, .inr ⟨b, o + (l.length - (trimL blB l).length), ?_, ?_⟩⟩
      · simp only [Option.map]; rw [Addr.add_lit]
      · have hsuf := trimL_suffix l
        intro j u hj
        rw [hsuf, List.getElem?_drop] at hj
        have hh := hrow _ u hj
        have hlt := World.block_lt_of_cell? _ _ hh
        rw [h2.cell (p := ⟨b, o + (l.length - (trimL blB l).length) + j, none⟩) hlt, Nat.add_assoc]
        exact hh
end Go.Proofs.YthobojpbdeepoaaDoor
