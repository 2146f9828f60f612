/-
  laws.FnFields returns true for every input, where the listed package variables hold what their text lays: the row and its tied card; the frame by the kit's proof-skeleton, turned by a program.
-/
import Derived.Test.YthobojpbdeepoaaDoorRows
import Derived.WalkKit
import Derived.ProofKit
import Derived.OpenShut
import Derived.ShutString
import Derived.Test.YthobojpbdeepoaaDoorFieldsAll
import Derived.ChangeOld
import Derived.Below
import Derived.Lay
import Derived.SevenTiedAt
import Derived.Handy
import Derived.Test.YthobojpbdeepoaaDoorCards
import Derived.Test.YthobojpbdeepoaaDoorTie
import Derived.Test.YthobojpbdeepoaaDoorSentinels
import Derived.Test.YthobojpbdeepoaaDoorDataIn
namespace Go.Proofs.YthobojpbdeepoaaDoor.fnFields
open Go.ChangeShapes Go.WideShapes Go.ChangeAt Go.RowKit
open Go.ChangeMaps (open_string shut_string)
set_option linter.unusedVariables false

theorem own : ownKnob Tryd.prog.godebug = none := by kernel_rfl
theorem laidOut : laidOutB Tryd.prog = true := by kernel_rfl

/-- What the walk is told of a slice of integers that came in. -/
def IsRow (k : IntKind) (w : World) (a : Option Addr) (len cap : Nat) (zs : List Int) : Prop :=
  (a = none ∧ len = 0 ∧ cap = 0 ∧ zs = []) ∨
  ∃ x, a = some x ∧ len ≤ cap ∧ cap ≤ maxLen ∧ zs.length = cap ∧ (∀ i, i < zs.length → w.cell? (x.add i) = some (.int k (zs.getD i 0))) ∧ ∀ n ∈ zs, (Lit.int k n).wf = true

theorem ends_of {W : World} (h : laidMetH Tryd.prog Rows.fnFieldsRow.laid W) : ∃ ae fe ue me, EndsM W W.heap.size ae fe ue me := by
  rw [MakeChecks.laidMetH_plain _ _ _ (by kernel_rfl)] at h
  obtain ⟨a, a', h1, h2, h3⟩ := sent_two (n := "io.EOF") (n' := "bufio.ErrBufferFull") h (by simp [Rows.fnFieldsRow, Rows.laid_io_EOF]; rfl) (by simp [Rows.fnFieldsRow, Rows.laid_bufio_ErrBufferFull]; rfl) (by decide) (by kernel_rfl) (by kernel_rfl) (by kernel_rfl) (by kernel_rfl)
  obtain ⟨b, b', g1, g2, g3⟩ := sent_two (n := "io.EOF") (n' := "io.ErrUnexpectedEOF") h (by simp [Rows.fnFieldsRow, Rows.laid_io_EOF]; rfl) (by simp [Rows.fnFieldsRow, Rows.laid_io_ErrUnexpectedEOF]; rfl) (by decide) (by kernel_rfl) (by kernel_rfl) (by kernel_rfl) (by kernel_rfl)
  obtain ⟨c, c', i1, i2, i3⟩ := sent_two (n := "io.EOF") (n' := "protocollines/pub/textproto.errMessageTooLarge") h (by simp [Rows.fnFieldsRow, Rows.laid_io_EOF]; rfl) (by simp [Rows.fnFieldsRow, Rows.laid_protocollines_pub_textproto_errMessageTooLarge]; rfl) (by decide) (by kernel_rfl) (by kernel_rfl) (by kernel_rfl) (by kernel_rfl)
  obtain ⟨d, d', j1, j2, j3⟩ := sent_two (n := "io.ErrUnexpectedEOF") (n' := "protocollines/pub/textproto.errMessageTooLarge") h (by simp [Rows.fnFieldsRow, Rows.laid_io_ErrUnexpectedEOF]; rfl) (by simp [Rows.fnFieldsRow, Rows.laid_protocollines_pub_textproto_errMessageTooLarge]; rfl) (by decide) (by kernel_rfl) (by kernel_rfl) (by kernel_rfl) (by kernel_rfl)
  exact ⟨a, a', b', c', ⟨⟨h1, h2, h3⟩, g2, by rw [← g1.same h1]; exact g3⟩, i2, by rw [← i1.same h1]; exact fun x => i3 x.symm, by rw [← j1.same g2, ← j2.same i2]; exact fun x => j3 x.symm⟩

set_option maxRecDepth 100000 in
theorem lifted (os : Os) (started : os.Started) (H : Type) (enc : TypeId × Value → H) :
    ReturnsInHanded {} Tryd.checked os 15 .any (fun w args => (Rows.fnFieldsSpec.pre enc Tryd.prog Tryd.f15 [] false w args ∧ laidMetH Tryd.prog Rows.fnFieldsRow.laid w) ∧ sizedMet enc Tryd.prog Tryd.f15 (OpenSpec.ofChange Rows.fnFieldsSpec) false w args) (Rows.fnFieldsSpec.post enc Tryd.prog Tryd.f15 false true false false) := by
  refine returnsInHanded_of_change_and (C := Tryd.checked) (X := fun w _ => laidMetH Tryd.prog Rows.fnFieldsRow.laid w) (fun _ _ _ hh h => h.of_heap hh) own started (by kernel_rfl) Tryd.func15
    (ChangeSpec.witness_shaped (enc := enc) (C := Tryd.checked) (os := os) (X := fun w _ => laidMetH Tryd.prog Rows.fnFieldsRow.laid w) false (World.laidAll Tryd.prog os Rows.fnFieldsRow.laid) #[.slice none 0 0] 8 (World.laidAll_os _ _ _)
      (World.shaped_of_ZipB (by kernel_rfl) (by kernel_rfl)) (by kernel_rfl) (by kernel_rfl) (by kernel_rfl)
      (by rw [MakeChecks.laidMetH_plain _ _ _ (by kernel_rfl)]; exact laidMet_laidAll _ (by kernel_rfl) (by kernel_rfl))) ?_
  intro W base args ds gs before hval0 hW _ _ hL _
  have hval : ∀ (j : Nat) t v, Tryd.f15.params[j]? = some t → args[j]? = some v → Value.okWide Tryd.prog W .any base t v := hval0
  have hW' := hW
  obtain ⟨p, q, hA0, hV, rfl, hfz, hnd⟩ := hW
  have hA : DataW.TrodAll enc Tryd.prog W 0 (fun _ => true) true Tryd.f15.params.toList args.toList ds p := hA0
  rw [Tryd.params15] at hA hval
  obtain ⟨v0, vs0, d0, ds0, p0, q0, hargs, rfl, rfl, h0, r0⟩ := trodAll_cons hA
  obtain ⟨rfl, rfl, rfl⟩ := trodAll_nil r0
  obtain rfl : args = #[v0] := by cases args; simp_all
  obtain ⟨rfl, rfl⟩ := trodVars_none hV
  obtain ⟨a0, len0, cap0, rfl⟩ := okWide_slice Tryd.underlying22 (hval 0 22 v0 rfl rfl)
  have k0 := h0
  have lt0 : ∀ x ∈ p0, x.block < W.heap.size := by obtain ⟨m, hm⟩ := k0; exact DataW.trod_lt m _ _ _ hm
  obtain ⟨z0, w0⟩ : ∃ zs, IsRow .u8 W a0 len0 cap0 zs := by
    obtain ⟨fuel, hf⟩ := h0
    rcases open_ints Tryd.underlying22 Tryd.underlying5 (by kernel_rfl) hf with ⟨hcs, _⟩ | ⟨x, l, c, zs, hcs, _, hl, hm, hz, _, hcell, hwz⟩
    · simp [Value.cells] at hcs
      obtain ⟨rfl, rfl, rfl⟩ := hcs
      exact ⟨[], .inl ⟨rfl, rfl, rfl, rfl⟩⟩
    · simp [Value.cells] at hcs
      obtain ⟨rfl, rfl, rfl⟩ := hcs
      exact ⟨zs, .inr ⟨_, rfl, hl, hm, by simpa using hz, hcell, hwz⟩⟩
  clear hA0 hval0
  obtain ⟨ae, fe, ue, me, hE⟩ := ends_of hL
  obtain ⟨l0, rfl, hD0⟩ := data_of_row w0
  refine (fnFields_any a0 l0 cap0 ae fe ue me W hD0 hE).mono fun e W' ⟨he, ht⟩ => ?_
  have bel : Below W.heap.size W W' := ht.below (Nat.le_refl _) (by simp)
  subst he
  exact ⟨_, rfl, _, _, _, [], _, [], hW', trodAll_mk1 (shut_bool Tryd.underlying4 _), (trodAll_cons_mk (Below.trod laidOut (by kernel_rfl) (of_decide_eq_true (by kernel_rfl)) k0 bel lt0) trodAll_mk0), rfl, bel.frame _, fun h => by cases h⟩

theorem over : Rows.fnFieldsRow.holds Tryd.pinned (OpenSpec.ofChange Rows.fnFieldsSpec) :=
  OpenClaim.holds_of_wide 15 Tryd.f15 rfl rfl rfl rfl rfl rfl rfl ⟨rfl, rfl, rfl, rfl, rfl⟩ rfl rfl rfl rfl rfl (by kernel_rfl) Tryd.func15 (by kernel_rfl)
    (of_decide_eq_true (by kernel_rfl)) (by unfold Func.isWrapper; first | (rw [if_pos (by decide +kernel)]; kernel_rfl) | (rw [if_neg (by decide +kernel)]; exact ⟨rfl, rfl⟩))
    (fun os started H enc _ => lifted os started H enc)

theorem said : Rows.FnFieldsSaid := over
theorem proved : Rows.FnFieldsCardSaid :=
  Claim7.holds_tied_plain_at .later [] [.data, .sentinel, .sentinel, .sentinel, .sentinel, .sentinel, .sentinel, .sentinel, .sentinel, .pinned] true (true, "0c6351116538077d799161ffdcac9916ed9d5c43d4811a248526642e6eac45e2") true said (fun _ h => by cases h) (by kernel_rfl) (fun _ h => by cases h) fnFields_row_tie rfl ⟨rfl, rfl⟩ (by kernel_rfl) rfl
    (fun f fn hf hfn => by
      obtain rfl : f = 15 := Option.some.inj ((show Tryd.prog.funcNamed "protocollines/laws.FnFields" = some 15 by kernel_rfl).symm.trans hf) |>.symm
      obtain rfl : fn = Tryd.f15 := (Option.some.inj (Tryd.func15.symm.trans hfn)).symm
      exact ⟨by kernel_rfl, fun j t ht => by
        rw [Tryd.params15] at ht
        have hm : t ∈ [22] := by simpa using Array.mem_of_getElem? ht
        have hall : ([22].all fun u => !Tryd.prog.wantsStandIn u) = true := by kernel_rfl
        exact (show Tryd.prog.wantsStandIn t = false by simpa using List.all_eq_true.1 hall t hm)⟩)
    (by kernel_rfl)
#print axioms proved
end Go.Proofs.YthobojpbdeepoaaDoor.fnFields
