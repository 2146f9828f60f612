/-
  The contract of impl.DotLines.
-/
import Derived.Test.YthobojpbdeepoaaDoorReadLines
import Derived.Test.YthobojpbdeepoaaDoorDotsWalk
namespace Go.Proofs.YthobojpbdeepoaaDoor
open Go.RowKit

/-- What impl.DotLines answers. -/
def DLPost (l : List UInt8) (w : World) (e : Ending) (w' : World) : Prop :=
  ∃ v p2 cap2 n kd out ok, e = .returned (.tuple #[v, .slice p2 (l.drop n).length cap2, .int .i64 kd]) ∧ Turned [] w w' ∧ w'.ownsRow w.heap.size 9 1 v (out : List (List UInt8)).length (out.map sv) ∧ RowP w' p2 (l.drop n) ∧
    DL l out (l.drop n) ok ∧ ((ok = true ∧ kd = 0) ∨ (ok = false ∧ kd = 2))

set_option maxRecDepth 100000 in
set_option maxHeartbeats 2000000 in
theorem implDotLines_any (p : Option Addr) (l : List UInt8) (cap : Nat) (ae fe ue : Addr) (w : World) (h : DataAt w p l) (hl : l.length ≤ 1048576) (hE : Ends3 w w.heap.size ae fe ue) :
    Calls Tryd.prog 34 #[.slice p l.length cap] w (DLPost l w) := by
  have MR := mkReader_any p l cap ae w h (by omega) hE.e2.eof
  go_enter Tryd.func34, Tryd.ntmps34
  go_wp2_with fail
  go_at_call 47
  refine MR.mono ?_
  rintro e w1 ⟨k, s, T, rfl, hT1, hkd, hkK, hka, hR1, hTp1, hpos, _, _⟩
  subst hkd
  subst hka
  have hb1 := hT1.below (Nat.le_refl _) (by simp)
  have hE1 : Ends3 w1 k.K k.ae fe ue := by rw [hkK]; exact ⟨⟨hE.e2.eof.keep hb1, hE.e2.full.keep hb1, hE.e2.ne⟩, hE.cut.keep hb1, hE.neu⟩
  have RD := Lib.hid (readDotLines_any k s w1 T fe ue hR1 hTp1 hl hE1)
  have HEC : Hid (∀ wr, Turned [] w wr → EndsC wr k.K k.ae ue) := fun wr hx => by
    have hb := hx.below (Nat.le_refl _) (by simp)
    rw [hkK]
    exact ⟨hE.e2.eof.keep hb, hE.cut.keep hb, hE.neu⟩
  have HK : Hid (k.K = w.heap.size ∧ w.heap.size ≤ w1.heap.size ∧ s.pos = 0) := ⟨hkK, hT1.size, hpos⟩
  have HT := Lib.hid hT1
  have H1 := Lib.hid hR1
  have HTp := Lib.hid hTp1
  have hl0 : ∀ x, x ∈ k.blocks → x < w1.heap.size := by
    have b1 := hR1.bb.lt
    have b2 := hR1.cb.lt
    have b3 := hR1.yb.lt
    intro x hx
    simp [RK.blocks] at hx
    omega
  have HL := Lib.hid hl0
  clear h hl hE MR hT1 hR1 hTp1 hE1 hpos hkK hl0 hb1
  go_wp2_with fail
  go_at_call 64
  (with_reducible refine RD.out.mono ?_)
  rintro e w2 ⟨v, er, out, s', ok, rfl, hR2, hT2, hO2, hdl, hor⟩
  have hTp2 := HTp.out.keep H1.out hT2
  have hTw2 : Turned [] w w2 := HT.out.fresh hT2 (fun x hx => by rw [← HK.out.1]; exact H1.out.blocks_new x hx)
  rw [HK.out.2.2, List.drop_zero] at hdl
  have RS := Lib.hid (rest_any k s' w2 T hR2 hTp2)
  have HF : Hid (∀ w3 v3 kd, Turned k.blocks w2 w3 → w3.ownsRow w2.heap.size 5 1 v3 (k.d.drop s'.pos).length (by8 (k.d.drop s'.pos)) → ((ok = true ∧ kd = 0) ∨ (ok = false ∧ kd = 2)) → DLPost k.d w (.returned (.tuple #[v, v3, .int .i64 kd])) w3 ∧ EndsC w3 k.K k.ae ue) := by
    intro w3 v3 kd hT3 hO3 hk
    have hTT : Turned [] w w3 := hTw2.fresh hT3 (fun x hx => by rw [← HK.out.1]; exact hR2.blocks_new x hx)
    have hO2' := own_base (own_keep hO2 hT3 (fun x hx => HL.out x hx)) HK.out.2.1
    obtain ⟨p2, cap2, rfl, hp2⟩ := own_slice hO3
    exact ⟨⟨v, p2, cap2, s'.pos, kd, out, ok, rfl, hTT, hO2', hp2, hdl, hk⟩, HEC.out _ hTT⟩
  clear hR2 hT2 hTp2 hO2 hTw2 hdl RD
  rcases hor with ⟨rfl, rfl⟩ | ⟨rfl, rfl⟩
  · go_wp2_with fail
    go_at_call 49
    (with_reducible refine RS.out.mono ?_)
    rintro e w3 ⟨v3, rfl, hT3, hO3⟩
    obtain ⟨hF, hE3⟩ := HF.out w3 v3 0 hT3 hO3 (by simp)
    have HG := Lib.hid hF
    have KD := kind_nil w3
    clear hF hE3 hT3 hO3 RS HF
    go_wp2_with (go_at_call 50; (with_reducible refine KD.mono ?_); rintro e w4 ⟨rfl, rfl⟩)
    go_ret3
    exact HG.out
  · go_wp2_with fail
    go_at_call 49
    (with_reducible refine RS.out.mono ?_)
    rintro e w3 ⟨v3, rfl, hT3, hO3⟩
    obtain ⟨hF, hE3⟩ := HF.out w3 v3 2 hT3 hO3 (by simp)
    have HG := Lib.hid hF
    have KD := kind_cut w3 hE3
    clear hF hE3 hT3 hO3 RS HF
    go_wp2_with (go_at_call 50; (with_reducible refine KD.mono ?_); rintro e w4 ⟨rfl, rfl⟩)
    go_ret3
    exact HG.out
end Go.Proofs.YthobojpbdeepoaaDoor
