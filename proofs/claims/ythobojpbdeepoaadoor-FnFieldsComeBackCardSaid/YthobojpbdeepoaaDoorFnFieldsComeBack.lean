/-
  laws.FnFieldsComeBack returns true for every input, where the listed package variables hold what their text lays: the row and its tied card; the frame by the kit's proof-skeleton, turned by a program.
-/
import Derived.Test.YthobojpbdeepoaaDoorRows
import Derived.WalkKit
import Derived.ProofKit
import Derived.OpenShut
import Derived.ShutString
import Derived.Test.YthobojpbdeepoaaDoorHdrBack
import Derived.ChangeOld
import Derived.Below
import Derived.Lay
import Derived.SevenTiedAt
import Derived.Handy
import Derived.Test.YthobojpbdeepoaaDoorCards
import Derived.Test.YthobojpbdeepoaaDoorTie
import Derived.Test.YthobojpbdeepoaaDoorSentinels
import Derived.Test.YthobojpbdeepoaaDoorDataIn
namespace Go.Proofs.YthobojpbdeepoaaDoor.fnFieldsComeBack
open Go.ChangeShapes Go.WideShapes Go.ChangeAt Go.RowKit
open Go.ChangeMaps (open_string shut_string)
set_option linter.unusedVariables false

theorem own : ownKnob Tryd.prog.godebug = none := by kernel_rfl
theorem laidOut : laidOutB Tryd.prog = true := by kernel_rfl

/-- What the walk is told of a slice of integers that came in. -/
def IsRow (k : IntKind) (w : World) (a : Option Addr) (len cap : Nat) (zs : List Int) : Prop :=
  (a = none ∧ len = 0 ∧ cap = 0 ∧ zs = []) ∨
  ∃ x, a = some x ∧ len ≤ cap ∧ cap ≤ maxLen ∧ zs.length = cap ∧ (∀ i, i < zs.length → w.cell? (x.add i) = some (.int k (zs.getD i 0))) ∧ ∀ n ∈ zs, (Lit.int k n).wf = true

theorem ends_of {W : World} (h : laidMetH Tryd.prog Rows.fnFieldsComeBackRow.laid W) : ∃ ae fe ue, Ends3 W W.heap.size ae fe ue := by
  rw [MakeChecks.laidMetH_plain _ _ _ (by kernel_rfl)] at h
  obtain ⟨a, a', h1, h2, h3⟩ := sent_two (n := "io.EOF") (n' := "bufio.ErrBufferFull") h (by simp [Rows.fnFieldsComeBackRow, Rows.laid_io_EOF]; rfl) (by simp [Rows.fnFieldsComeBackRow, Rows.laid_bufio_ErrBufferFull]; rfl) (by decide) (by kernel_rfl) (by kernel_rfl) (by kernel_rfl) (by kernel_rfl)
  obtain ⟨b, b', g1, g2, g3⟩ := sent_two (n := "io.EOF") (n' := "io.ErrUnexpectedEOF") h (by simp [Rows.fnFieldsComeBackRow, Rows.laid_io_EOF]; rfl) (by simp [Rows.fnFieldsComeBackRow, Rows.laid_io_ErrUnexpectedEOF]; rfl) (by decide) (by kernel_rfl) (by kernel_rfl) (by kernel_rfl) (by kernel_rfl)
  have e := g1.same h1
  subst e
  exact ⟨b, a', b', ⟨h1, h2, h3⟩, g2, g3⟩

set_option maxRecDepth 100000 in
theorem lifted (os : Os) (started : os.Started) (H : Type) (enc : TypeId × Value → H) :
    ReturnsInHanded {} Tryd.checked os 16 .any (fun w args => (Rows.fnFieldsComeBackSpec.pre enc Tryd.prog Tryd.f16 [] false w args ∧ laidMetH Tryd.prog Rows.fnFieldsComeBackRow.laid w) ∧ sizedMet enc Tryd.prog Tryd.f16 (OpenSpec.ofChange Rows.fnFieldsComeBackSpec) false w args) (Rows.fnFieldsComeBackSpec.post enc Tryd.prog Tryd.f16 false true false false) := by
  refine returnsInHanded_of_change_and (C := Tryd.checked) (X := fun w _ => laidMetH Tryd.prog Rows.fnFieldsComeBackRow.laid w) (fun _ _ _ hh h => h.of_heap hh) own started (by kernel_rfl) Tryd.func16
    (ChangeSpec.witness_shaped (enc := enc) (C := Tryd.checked) (os := os) (X := fun w _ => laidMetH Tryd.prog Rows.fnFieldsComeBackRow.laid w) false (World.laidAll Tryd.prog os Rows.fnFieldsComeBackRow.laid) #[.slice none 0 0, .slice none 0 0, .bool false, .slice none 0 0] 8 (World.laidAll_os _ _ _)
      (World.shaped_of_ZipB (by kernel_rfl) (by kernel_rfl)) (by kernel_rfl) (by kernel_rfl) (by kernel_rfl)
      (by rw [MakeChecks.laidMetH_plain _ _ _ (by kernel_rfl)]; exact laidMet_laidAll _ (by kernel_rfl) (by kernel_rfl))) ?_
  intro W base args ds gs before hval0 hW _ _ hL _
  have hval : ∀ (j : Nat) t v, Tryd.f16.params[j]? = some t → args[j]? = some v → Value.okWide Tryd.prog W .any base t v := hval0
  have hW' := hW
  obtain ⟨p, q, hA0, hV, rfl, hfz, hnd⟩ := hW
  have hA : DataW.TrodAll enc Tryd.prog W 0 (fun _ => true) true Tryd.f16.params.toList args.toList ds p := hA0
  rw [Tryd.params16] at hA hval
  obtain ⟨v0, vs0, d0, ds0, p0, q0, hargs, rfl, rfl, h0, r0⟩ := trodAll_cons hA
  obtain ⟨v1, vs1, d1, ds1, p1, q1, rfl, rfl, rfl, h1, r1⟩ := trodAll_cons r0
  obtain ⟨v2, vs2, d2, ds2, p2, q2, rfl, rfl, rfl, h2, r2⟩ := trodAll_cons r1
  obtain ⟨v3, vs3, d3, ds3, p3, q3, rfl, rfl, rfl, h3, r3⟩ := trodAll_cons r2
  obtain ⟨rfl, rfl, rfl⟩ := trodAll_nil r3
  obtain rfl : args = #[v0, v1, v2, v3] := by cases args; simp_all
  obtain ⟨rfl, rfl⟩ := trodVars_none hV
  obtain ⟨a0, len0, cap0, rfl⟩ := okWide_slice Tryd.underlying29 (hval 0 29 v0 rfl rfl)
  have k0 := h0
  have lt0 : ∀ x ∈ p0, x.block < W.heap.size := by obtain ⟨m, hm⟩ := k0; exact DataW.trod_lt m _ _ _ hm
  obtain ⟨xs0, rfl, hP0⟩ : ∃ xs : List ByteArray, xs.length = len0 ∧ StrsAt W a0 xs := by
    obtain ⟨fuel, hf⟩ := h0
    exact strs_in Tryd.underlying29 Tryd.underlying9 (by kernel_rfl) (by simpa [Value.cells] using hf) (fun _ => rfl)
  obtain ⟨a1, len1, cap1, rfl⟩ := okWide_slice Tryd.underlying29 (hval 1 29 v1 rfl rfl)
  have k1 := h1
  have lt1 : ∀ x ∈ p1, x.block < W.heap.size := by obtain ⟨m, hm⟩ := k1; exact DataW.trod_lt m _ _ _ hm
  obtain ⟨xs1, rfl, hP1⟩ : ∃ xs : List ByteArray, xs.length = len1 ∧ StrsAt W a1 xs := by
    obtain ⟨fuel, hf⟩ := h1
    exact strs_in Tryd.underlying29 Tryd.underlying9 (by kernel_rfl) (by simpa [Value.cells] using hf) (fun _ => rfl)
  obtain ⟨a2, rfl, rfl, rfl⟩ := open_bool Tryd.underlying4 (hval 2 4 v2 rfl rfl) h2
  obtain ⟨a3, len3, cap3, rfl⟩ := okWide_slice Tryd.underlying22 (hval 3 22 v3 rfl rfl)
  have k3 := h3
  have lt3 : ∀ x ∈ p3, x.block < W.heap.size := by obtain ⟨m, hm⟩ := k3; exact DataW.trod_lt m _ _ _ hm
  obtain ⟨z3, w3⟩ : ∃ zs, IsRow .u8 W a3 len3 cap3 zs := by
    obtain ⟨fuel, hf⟩ := h3
    rcases open_ints Tryd.underlying22 Tryd.underlying5 (by kernel_rfl) hf with ⟨hcs, _⟩ | ⟨x, l, c, zs, hcs, _, hl, hm, hz, _, hcell, hwz⟩
    · simp [Value.cells] at hcs
      obtain ⟨rfl, rfl, rfl⟩ := hcs
      exact ⟨[], .inl ⟨rfl, rfl, rfl, rfl⟩⟩
    · simp [Value.cells] at hcs
      obtain ⟨rfl, rfl, rfl⟩ := hcs
      exact ⟨zs, .inr ⟨_, rfl, hl, hm, by simpa using hz, hcell, hwz⟩⟩
  have hn3 : a3 = none → cap3 = 0 := by
    rcases w3 with ⟨_, _, h, _⟩ | ⟨x, h, _⟩
    · exact fun _ => h
    · intro h2
      rw [h] at h2
      cases h2
  obtain ⟨l3, rfl, hD3⟩ := data_of_row w3
  clear hA0 hval0
  obtain ⟨ae, fe, ue, hE⟩ := ends_of hL
  refine (fnBack_any a0 xs0 cap0 a1 xs1 cap1 a2 a3 l3 cap3 ae fe ue W hP0 hP1 hD3 hn3 hE).mono fun e W' ⟨he, ht⟩ => ?_
  have bel : Below W.heap.size W W' := ht.below (Nat.le_refl _) (by simp)
  subst he
  exact ⟨_, rfl, _, _, _, [], _, [], hW', trodAll_mk1 (shut_bool Tryd.underlying4 _), (trodAll_cons_mk (Below.trod laidOut (by kernel_rfl) (of_decide_eq_true (by kernel_rfl)) k0 bel lt0) (trodAll_cons_mk (Below.trod laidOut (by kernel_rfl) (of_decide_eq_true (by kernel_rfl)) k1 bel lt1) (trodAll_cons_mk (shut_bool Tryd.underlying4 _) (trodAll_cons_mk (Below.trod laidOut (by kernel_rfl) (of_decide_eq_true (by kernel_rfl)) k3 bel lt3) trodAll_mk0)))), rfl, bel.frame _, fun h => by cases h⟩

theorem over : Rows.fnFieldsComeBackRow.holds Tryd.pinned (OpenSpec.ofChange Rows.fnFieldsComeBackSpec) :=
  OpenClaim.holds_of_wide 16 Tryd.f16 rfl rfl rfl rfl rfl rfl rfl ⟨rfl, rfl, rfl, rfl, rfl⟩ rfl rfl rfl rfl rfl (by kernel_rfl) Tryd.func16 (by kernel_rfl)
    (of_decide_eq_true (by kernel_rfl)) (by unfold Func.isWrapper; first | (rw [if_pos (by decide +kernel)]; kernel_rfl) | (rw [if_neg (by decide +kernel)]; exact ⟨rfl, rfl⟩))
    (fun os started H enc _ => lifted os started H enc)

theorem said : Rows.FnFieldsComeBackSaid := over
theorem proved : Rows.FnFieldsComeBackCardSaid :=
  Claim7.holds_tied_plain_at .later [] [.data, .sentinel, .sentinel, .sentinel, .sentinel, .sentinel, .sentinel, .sentinel, .sentinel, .pinned] true (true, "0c6351116538077d799161ffdcac9916ed9d5c43d4811a248526642e6eac45e2") true said (fun _ h => by cases h) (by kernel_rfl) (fun _ h => by cases h) fnFieldsComeBack_row_tie rfl ⟨rfl, rfl⟩ (by kernel_rfl) rfl
    (fun f fn hf hfn => by
      obtain rfl : f = 16 := Option.some.inj ((show Tryd.prog.funcNamed "protocollines/laws.FnFieldsComeBack" = some 16 by kernel_rfl).symm.trans hf) |>.symm
      obtain rfl : fn = Tryd.f16 := (Option.some.inj (Tryd.func16.symm.trans hfn)).symm
      exact ⟨by kernel_rfl, fun j t ht => by
        rw [Tryd.params16] at ht
        have hm : t ∈ [29, 29, 4, 22] := by simpa using Array.mem_of_getElem? ht
        have hall : ([29, 29, 4, 22].all fun u => !Tryd.prog.wantsStandIn u) = true := by kernel_rfl
        exact (show Tryd.prog.wantsStandIn t = false by simpa using List.all_eq_true.1 hall t hm)⟩)
    (by kernel_rfl)
#print axioms proved
end Go.Proofs.YthobojpbdeepoaaDoor.fnFieldsComeBack
