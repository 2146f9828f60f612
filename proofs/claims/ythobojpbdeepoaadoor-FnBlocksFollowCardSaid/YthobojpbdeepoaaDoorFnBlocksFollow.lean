/-
  laws.FnBlocksFollow returns true for every input, where the listed package variables hold what their text lays: the row and its tied card; the frame by the kit's proof-skeleton, turned by a program.
-/
import Derived.Test.YthobojpbdeepoaaDoorRows
import Derived.WalkKit
import Derived.ProofKit
import Derived.OpenShut
import Derived.ShutString
import Derived.Test.YthobojpbdeepoaaDoorFollow
import Derived.ChangeOld
import Derived.Below
import Derived.Lay
import Derived.SevenTiedAt
import Derived.Handy
import Derived.Test.YthobojpbdeepoaaDoorCards
import Derived.Test.YthobojpbdeepoaaDoorTie
import Derived.Test.YthobojpbdeepoaaDoorSentinels
import Derived.Test.YthobojpbdeepoaaDoorDataIn
import Derived.Test.YthobojpbdeepoaaDoorPartsIn
import Derived.Deep.Matrix
namespace Go.Proofs.YthobojpbdeepoaaDoor.fnBlocksFollow
open Go.ChangeShapes Go.WideShapes Go.ChangeAt Go.RowKit
open Go.ChangeMaps (open_string shut_string)
set_option linter.unusedVariables false

theorem own : ownKnob Tryd.prog.godebug = none := by kernel_rfl
theorem laidOut : laidOutB Tryd.prog = true := by kernel_rfl

theorem ends_of {W : World} (h : laidMetH Tryd.prog Rows.fnBlocksFollowRow.laid W) : ∃ ae ue, EndsC W W.heap.size ae ue := by
  rw [MakeChecks.laidMetH_plain _ _ _ (by kernel_rfl)] at h
  obtain ⟨a, a', h1, h2, h3⟩ := sent_two (n := "io.EOF") (n' := "io.ErrUnexpectedEOF") h (by simp [Rows.fnBlocksFollowRow, Rows.laid_io_EOF]; rfl) (by simp [Rows.fnBlocksFollowRow, Rows.laid_io_ErrUnexpectedEOF]; rfl) (by decide) (by kernel_rfl) (by kernel_rfl) (by kernel_rfl) (by kernel_rfl)
  exact ⟨a, a', h1, h2, h3⟩

set_option maxRecDepth 100000 in
theorem lifted (os : Os) (started : os.Started) (H : Type) (enc : TypeId × Value → H) :
    ReturnsInHanded {} Tryd.checked os 12 .any (fun w args => (Rows.fnBlocksFollowSpec.pre enc Tryd.prog Tryd.f12 [] false w args ∧ laidMetH Tryd.prog Rows.fnBlocksFollowRow.laid w) ∧ sizedMet enc Tryd.prog Tryd.f12 (OpenSpec.ofChange Rows.fnBlocksFollowSpec) false w args) (Rows.fnBlocksFollowSpec.post enc Tryd.prog Tryd.f12 false true false false) := by
  refine returnsInHanded_of_change_and (C := Tryd.checked) (X := fun w _ => laidMetH Tryd.prog Rows.fnBlocksFollowRow.laid w) (fun _ _ _ hh h => h.of_heap hh) own started (by kernel_rfl) Tryd.func12
    (ChangeSpec.witness_shaped (enc := enc) (C := Tryd.checked) (os := os) (X := fun w _ => laidMetH Tryd.prog Rows.fnBlocksFollowRow.laid w) false (World.laidAll Tryd.prog os Rows.fnBlocksFollowRow.laid) #[.slice none 0 0, .slice none 0 0] 8 (World.laidAll_os _ _ _)
      (World.shaped_of_ZipB (by kernel_rfl) (by kernel_rfl)) (by kernel_rfl) (by kernel_rfl) (by kernel_rfl)
      (by rw [MakeChecks.laidMetH_plain _ _ _ (by kernel_rfl)]; exact laidMet_laidAll _ (by kernel_rfl) (by kernel_rfl))) ?_
  intro W base args ds gs before hval0 hW _ _ hL _
  have hval : ∀ (j : Nat) t v, Tryd.f12.params[j]? = some t → args[j]? = some v → Value.okWide Tryd.prog W .any base t v := hval0
  have hW' := hW
  obtain ⟨p, q, hA0, hV, rfl, hfz, hnd⟩ := hW
  have hA : DataW.TrodAll enc Tryd.prog W 0 (fun _ => true) true Tryd.f12.params.toList args.toList ds p := hA0
  rw [Tryd.params12] at hA hval
  obtain ⟨v0, vs0, d0, ds0, p0, q0, hargs, rfl, rfl, h0, r0⟩ := trodAll_cons hA
  obtain ⟨v1, vs1, d1, ds1, p1, q1, rfl, rfl, rfl, h1, r1⟩ := trodAll_cons r0
  obtain ⟨rfl, rfl, rfl⟩ := trodAll_nil r1
  obtain rfl : args = #[v0, v1] := by cases args; simp_all
  obtain ⟨rfl, rfl⟩ := trodVars_none hV
  obtain ⟨a0, len0, cap0, rfl⟩ := okWide_slice Tryd.underlying34 (hval 0 34 v0 rfl rfl)
  have k0 := h0
  have lt0 : ∀ x ∈ p0, x.block < W.heap.size := by obtain ⟨m, hm⟩ := k0; exact DataW.trod_lt m _ _ _ hm
  obtain ⟨xs0, rfl, hP0⟩ : ∃ xs : List (List UInt8), xs.length = len0 ∧ PartsAt W a0 xs := by
    obtain ⟨fuel, hf⟩ := h0
    rcases Go.Deep.open_int_rows Tryd.underlying34 Tryd.underlying22 Tryd.underlying5 (by kernel_rfl) (by kernel_rfl) hf with ⟨hcs, _⟩ | ⟨x, l, c, A, L, C, Z, hcs, _, hl, _, _, hr⟩
    · simp [Value.cells] at hcs
      obtain ⟨rfl, rfl, rfl⟩ := hcs
      exact ⟨[], rfl, fun i x h => by simp at h⟩
    · simp [Value.cells] at hcs
      obtain ⟨rfl, rfl, rfl⟩ := hcs
      exact parts_of_rows hl hr
  obtain ⟨a1, len1, cap1, rfl⟩ := okWide_slice Tryd.underlying34 (hval 1 34 v1 rfl rfl)
  have k1 := h1
  have lt1 : ∀ x ∈ p1, x.block < W.heap.size := by obtain ⟨m, hm⟩ := k1; exact DataW.trod_lt m _ _ _ hm
  obtain ⟨xs1, rfl, hP1⟩ : ∃ xs : List (List UInt8), xs.length = len1 ∧ PartsAt W a1 xs := by
    obtain ⟨fuel, hf⟩ := h1
    rcases Go.Deep.open_int_rows Tryd.underlying34 Tryd.underlying22 Tryd.underlying5 (by kernel_rfl) (by kernel_rfl) hf with ⟨hcs, _⟩ | ⟨x, l, c, A, L, C, Z, hcs, _, hl, _, _, hr⟩
    · simp [Value.cells] at hcs
      obtain ⟨rfl, rfl, rfl⟩ := hcs
      exact ⟨[], rfl, fun i x h => by simp at h⟩
    · simp [Value.cells] at hcs
      obtain ⟨rfl, rfl, rfl⟩ := hcs
      exact parts_of_rows hl hr
  clear hA0 hval0
  obtain ⟨ae, ue, hE⟩ := ends_of hL
  refine (fnBlocksFollow_any a0 xs0 cap0 a1 xs1 cap1 ae ue W hP0 hP1 hE).mono fun e W' ⟨he, ht⟩ => ?_
  have bel : Below W.heap.size W W' := ht.below (Nat.le_refl _) (by simp)
  subst he
  exact ⟨_, rfl, _, _, _, [], _, [], hW', trodAll_mk1 (shut_bool Tryd.underlying4 _), (trodAll_cons_mk (Below.trod laidOut (by kernel_rfl) (of_decide_eq_true (by kernel_rfl)) k0 bel lt0) (trodAll_cons_mk (Below.trod laidOut (by kernel_rfl) (of_decide_eq_true (by kernel_rfl)) k1 bel lt1) trodAll_mk0)), rfl, bel.frame _, fun h => by cases h⟩

theorem over : Rows.fnBlocksFollowRow.holds Tryd.pinned (OpenSpec.ofChange Rows.fnBlocksFollowSpec) :=
  OpenClaim.holds_of_wide 12 Tryd.f12 rfl rfl rfl rfl rfl rfl rfl ⟨rfl, rfl, rfl, rfl, rfl⟩ rfl rfl rfl rfl rfl (by kernel_rfl) Tryd.func12 (by kernel_rfl)
    (of_decide_eq_true (by kernel_rfl)) (by unfold Func.isWrapper; first | (rw [if_pos (by decide +kernel)]; kernel_rfl) | (rw [if_neg (by decide +kernel)]; exact ⟨rfl, rfl⟩))
    (fun os started H enc _ => lifted os started H enc)

theorem said : Rows.FnBlocksFollowSaid := over
theorem proved : Rows.FnBlocksFollowCardSaid :=
  Claim7.holds_tied_plain_at .later [] [.sentinel, .sentinel, .sentinel, .sentinel, .sentinel, .sentinel] true (true, "0c6351116538077d799161ffdcac9916ed9d5c43d4811a248526642e6eac45e2") true said (fun _ h => by cases h) (by kernel_rfl) (fun _ h => by cases h) fnBlocksFollow_row_tie rfl ⟨rfl, rfl⟩ (by kernel_rfl) rfl
    (fun f fn hf hfn => by
      obtain rfl : f = 12 := Option.some.inj ((show Tryd.prog.funcNamed "protocollines/laws.FnBlocksFollow" = some 12 by kernel_rfl).symm.trans hf) |>.symm
      obtain rfl : fn = Tryd.f12 := (Option.some.inj (Tryd.func12.symm.trans hfn)).symm
      exact ⟨by kernel_rfl, fun j t ht => by
        rw [Tryd.params12] at ht
        have hm : t ∈ [34, 34] := by simpa using Array.mem_of_getElem? ht
        have hall : ([34, 34].all fun u => !Tryd.prog.wantsStandIn u) = true := by kernel_rfl
        exact (show Tryd.prog.wantsStandIn t = false by simpa using List.all_eq_true.1 hall t hm)⟩)
    (by kernel_rfl)
#print axioms proved
end Go.Proofs.YthobojpbdeepoaaDoor.fnBlocksFollow
