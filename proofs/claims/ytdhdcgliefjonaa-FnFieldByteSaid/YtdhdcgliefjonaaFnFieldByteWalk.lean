/-
  The walk of laws.FnFieldByte: it returns true for every byte.
-/
import Derived.Test.YtdhdcgliefjonaaIsKey
import Derived.Deep.RegionWith
namespace Go.Proofs.Ytdhdcgliefjonaa
open Go.RowKit

theorem fieldByte_any (c : Int) (w : World) (h0 : 0 ≤ c) (h1 : c ≤ 255) :
    Calls Try.prog 13 #[.int .u8 c] w fun e w' => e = .returned (.bool (keyB c)) ∧ w = w' := by
  go_enter Try.func13, Try.ntmps13
  go_wp2_with (first | (go_at_call 39; refine (vfield_any _ _ h0 h1).mono ?_; rintro e w' ⟨rfl, rfl⟩) | go_in)
  go_ret
  exact ⟨rfl, rfl⟩

theorem byte_of {c : Int} (h0 : 0 ≤ c) (h1 : c ≤ 255) : ∃ b : UInt8, c = (b.toNat : Int) :=
  ⟨UInt8.ofNat c.toNat, by rw [UInt8.toNat_ofNat']; omega⟩

theorem one_string (b : UInt8) (w : World) : (convert 26 9 (.slice (some ⟨w.heap.size, 0, none⟩) 1 1)).run Try.prog (w.alloc (.cells #[.int .u8 b.toNat] 5)).drew = .ok (.string ⟨#[b]⟩) (w.alloc (.cells #[.int .u8 b.toNat] 5)).drew := by
  have h := run_convert_bytes_back (P := Try.prog) (w.alloc (.cells #[.int .u8 b.toNat] 5)).drew 26 9 5 ⟨w.heap.size, 0, none⟩ 1 [b] Try.underlying26 Try.underlying5 Try.underlying9 (fun j hj => by
    have : j = 0 := by simpa using hj
    subst this
    simp [Addr.add])
  simpa using h

theorem isKey_one (b : UInt8) (w : World) :
    Calls Try.prog 14 #[.string ⟨#[b]⟩] w fun e w' => e = .returned (.bool (keyB b.toNat)) ∧ w = w' := by
  have h := isKey_any ⟨#[b]⟩ w (by rw [show (⟨#[b]⟩ : ByteArray).size = 1 from rfl]; omega)
  rwa [show isKey (lst ⟨#[b]⟩) = keyB b.toNat from by show ([b].all fun b => keyB b.toNat) = _; simp] at h

set_option maxHeartbeats 1000000 in
theorem fnFieldByte_walk (c : Int) (hc : (Lit.int .u8 c).wf = true) (w : World) :
    Calls Try.prog 5 #[.int .u8 c] w fun e w' => e = .returned (.bool true) ∧ Below w.heap.size w w' := by
  have hb := hc
  simp only [Lit.wf, Bool.and_eq_true, decide_eq_true_eq] at hb
  obtain ⟨b, rfl⟩ := byte_of hb.1 hb.2
  have h1 : (b.toNat : Int) ≤ 255 := hb.2
  clear hb hc
  have ha : keyB 97 = true := by decide
  have hone := one_string b w
  go_enter Try.func5, Try.ntmps5
  go_wp2_with fail
  go_region_with (first
    | (go_at_call 13; (with_reducible refine (fieldByte_any _ _ (by omega) (by omega)).mono ?_); rintro e w' ⟨rfl, rfl⟩)
    | (go_at_call 14; (with_reducible refine (isKey_one _ _).mono ?_); rintro e w' ⟨rfl, rfl⟩))
  all_goals
    go_wp2
    go_ret
    exact ⟨rfl, ((Below.refl _ _).alloc (Nat.le_refl _) _).drew⟩
end Go.Proofs.Ytdhdcgliefjonaa
