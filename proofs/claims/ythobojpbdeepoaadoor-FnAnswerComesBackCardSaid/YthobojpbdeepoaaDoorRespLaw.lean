/-
  What an answer's reader keeps from line to line: plain laws.
-/
import Derived.Test.YthobojpbdeepoaaDoorBuilder
namespace Go.Proofs.YthobojpbdeepoaaDoor
open Go.RowKit

theorem lineAt_pos {k : RK} {s s' : RS} {l : List UInt8} (h : LineAt k s s' l) : s.pos < s'.pos ∧ l.length + s.pos ≤ s'.pos := by
  rcases h with ⟨j, h1, _, rfl, h4⟩ | ⟨h1, h2, _, h4⟩
  · have h5 := trimCR_length ((k.d.drop s.pos).take j)
    rw [List.length_take] at h5
    omega
  · have h5 : l.length = k.d.length - s.pos := by rw [h2, List.length_drop]
    have h6 : 0 < l.length := List.length_pos_iff.2 h1
    omega
theorem lineAt_no10 {k : RK} {s s' : RS} {l : List UInt8} (h : LineAt k s s' l) : 10 ∉ l := by
  have gen : ∀ (d : List UInt8) (p j : Nat), NoNl d p j → 10 ∉ (d.drop p).take j := fun d p j hn hm => by
    obtain ⟨i, hi, he⟩ := List.mem_iff_getElem.1 hm
    rw [List.length_take, List.length_drop] at hi
    rw [List.getElem_take, List.getElem_drop] at he
    exact hn i (by omega) (by rw [List.getElem?_eq_getElem (by omega), he])
  rcases h with ⟨j, _, h2, rfl, _⟩ | ⟨_, h2, h3, _⟩
  · intro hm
    unfold trimCR at hm
    split at hm
    · exact gen _ _ _ h2 (List.mem_of_mem_take hm)
    · exact gen _ _ _ h2 hm
  · rw [h2]
    intro hm
    exact gen _ _ _ h3 (by rw [List.take_of_length_le (by rw [List.length_drop]; exact Nat.le_refl _)]; exact hm)
theorem nl_drop {d : List UInt8} {p j : Nat} (h : d[p + j]? = some 10) : (d.drop p)[j]? = some 10 := by rw [List.getElem?_drop]; exact h
theorem no_drop {d : List UInt8} {p j : Nat} (h : NoNl d p j) : NoNl (d.drop p) 0 j := fun i hi => by rw [Nat.zero_add, List.getElem?_drop]; exact h i hi
theorem no_dropAll {d : List UInt8} {p : Nat} (h : NoNl d p (d.length - p)) : NoNl (d.drop p) 0 (d.drop p).length := by
  have h1 := no_drop h
  rwa [← List.length_drop] at h1

section
variable {k : RK} {s1 s2 : RS} {l msg : List UInt8} {n : Int} {P0 : Res → Prop}
/-- A line of this very code. -/
theorem j_same (hJ : ∀ r, P0 r → r = .left ∨ SResp n true (k.d.drop s1.pos) msg r) (hl : LineAt k s1 s2 l) {x : Bool} {m : List UInt8} (hc : code3 l = some (n, x, m)) :
    ∀ r, P0 r → r = .left ∨ SResp n x (k.d.drop s2.pos) (msg ++ 10 :: m) r := by
  intro r hr
  rcases hJ r hr with h | h
  · exact .inl h
  · rcases hl with ⟨j, h1, h2, rfl, h4⟩ | ⟨h1, h2, h3, h4⟩
    · rcases h.line (nl_drop h1) (no_drop h2) with h5 | ⟨_, ⟨x', m', h6, h7⟩ | ⟨h6, _⟩⟩
      · exact .inl h5
      · rw [hc] at h6
        injection h6 with h6
        injection h6 with _ h6
        injection h6 with h6 h8
        subst h6 h8
        rw [List.drop_drop] at h7
        rw [h4]
        exact .inr h7
      · exact absurd hc (h6 _ _)
    · exact .inl (h.none (by rw [← h2]; exact h1) (no_dropAll h3))
/-- Any other line, its end trimmed. -/
theorem j_other (hJ : ∀ r, P0 r → r = .left ∨ SResp n true (k.d.drop s1.pos) msg r) (hl : LineAt k s1 s2 l) (hc0 : ∀ r, P0 r → ∀ x m, code3 l ≠ some (n, x, m)) {t : List UInt8} (ht : 13 ∉ l → t = l) :
    ∀ r, P0 r → r = .left ∨ SResp n true (k.d.drop s2.pos) (msg ++ 10 :: t) r := by
  intro r hr
  have hc := hc0 r hr
  rcases hJ r hr with h | h
  · exact .inl h
  · rcases hl with ⟨j, h1, h2, rfl, h4⟩ | ⟨h1, h2, h3, h4⟩
    · rcases h.line (nl_drop h1) (no_drop h2) with h5 | ⟨h13, ⟨x', m', h6, h7⟩ | ⟨h6, h7⟩⟩
      · exact .inl h5
      · exact absurd h6 (hc _ _)
      · rw [List.drop_drop] at h7
        rw [ht h13, h4]
        exact .inr h7
    · exact .inl (h.none (by rw [← h2]; exact h1) (no_dropAll h3))
theorem j_eof (hJ : ∀ r, P0 r → r = .left ∨ SResp n true (k.d.drop s1.pos) msg r) (hn : NoNl k.d s1.pos (k.d.length - s1.pos)) : ∀ r, P0 r → r = .left ∨ r = .bad := by
  intro r hr
  rcases hJ r hr with h | h
  · exact .inl h
  · by_cases hd : k.d.drop s1.pos = []
    · rw [hd] at h
      exact .inr h.nil
    · exact .inl (h.none hd (no_dropAll hn))
theorem j_done (hJ : ∀ r, P0 r → r = .left ∨ SResp n false (k.d.drop s1.pos) msg r) : ∀ r, P0 r → r = .left ∨ r = .good msg (k.d.drop s1.pos) := fun r hr => (hJ r hr).imp id (fun h => h.done)
end

/-- An error of a reader, not nil. -/
def EK (ae : Addr) (er : Value) : Prop := er = errAt ae ∨ (∃ N, er = .iface 131 (.pointer (some ⟨N, 0, none⟩))) ∨ ∃ z, er = .iface 125 (.string z)
theorem EK.kind {ae ue : Addr} {er : Value} (h : EK ae er) : ∃ kd, ErrK ae ue er kd ∧ kd ≠ 0 := by
  rcases h with rfl | ⟨N, rfl⟩ | ⟨z, rfl⟩
  · exact ⟨1, .inr (.inl ⟨rfl, rfl⟩), by decide⟩
  · exact ⟨3, .inr (.inr (.inr (.inl ⟨N, rfl, rfl⟩))), by decide⟩
  · exact ⟨4, .inr (.inr (.inr (.inr ⟨z, rfl, rfl⟩))), by decide⟩
/-- What ReadResponse answers, its first line being l, which ends at s1. -/
def RROut (k : RK) (l : List UInt8) (s1 s' : RS) (x n : Int) (t : ByteArray) (er : Value) : Prop :=
  ((∀ n b m, code3 l = some (n, b, m) → n < 100) ∧ EK k.ae er) ∨
  (∃ n0 b m, code3 l = some (n0, b, m) ∧ 100 ≤ n0 ∧ (er = .nilIface ∨ EK k.ae er) ∧ ∀ r, SResp n0 b (k.d.drop s1.pos) m r → r = .left ∨ (r = .bad ∧ EK k.ae er) ∨
    (r = .good (lst t) (k.d.drop s'.pos) ∧ n = n0 ∧ ((fitsB n0 x = true ∧ er = .nilIface) ∨ (fitsB n0 x = false ∧ ∃ N, er = .iface 131 (.pointer (some ⟨N, 0, none⟩))))))
def RRPost (k : RK) (s : RS) (x : Int) (w : World) (e : Ending) (w' : World) : Prop :=
  ∃ s' n t er, e = .returned (.tuple #[.int .i64 n, .string t, er]) ∧ Rd w' k s' ∧ Turned k.blocks w w' ∧
   ((er = errAt k.ae ∧ NoNl k.d s.pos (k.d.length - s.pos)) ∨ ∃ l s1, LineAt k s s1 l ∧ RROut k l s1 s' x n t er)

theorem neq_nil (W : World) : (binOp .neq 74 .nilIface .nilIface).run Tryd.prog W = .ok (.bool false) W := by simp [go_sem]
theorem neq_some (u : TypeId) (v : Value) (W : World) : (binOp .neq 74 (.iface u v) .nilIface).run Tryd.prog W = .ok (.bool true) W := by simp [go_sem]

/-- The ways of the first line, in one form. -/
theorem rr_cases {k : RK} {s s1 : RS} {x n : Int} {b : Bool} {t : ByteArray} {er : Value} {w w1 : World} (hT : Turned k.blocks w w1)
    (ho : (n = 0 ∧ b = false ∧ t = ⟨#[]⟩ ∧ er = errAt k.ae ∧ NoNl k.d s.pos (k.d.length - s.pos)) ∨ ∃ l, LineAt k s s1 l ∧ PCOut l x n b t er) :
    ∃ (q : Bool) (P0 : Res → Prop), ((er = .nilIface ∧ q = false) ∨ ∃ u v, er = .iface u v ∧ q = true) ∧ (lst t).length ≤ 2 * s1.pos ∧ (∀ r, P0 r → SResp n b (k.d.drop s1.pos) (lst t) r) ∧ (∀ r, P0 r → 100 ≤ n) ∧
      (∀ w5 s5 msg er', Rd w5 k s5 → Turned k.blocks w1 w5 → (∀ r, P0 r → r = .left ∨ r = .good msg (k.d.drop s5.pos)) → (er' = er ∨ (q = true ∧ b = true ∧ ∃ N, er' = .iface 131 (.pointer (some ⟨N, 0, none⟩)))) →
        RRPost k s x w (.returned (.tuple #[.int .i64 n, .string ⟨msg.toArray⟩, er'])) w5) ∧
      (∀ w5 s5, b = true → Rd w5 k s5 → Turned k.blocks w1 w5 → (∀ r, P0 r → r = .left ∨ r = .bad) → RRPost k s x w (.returned (.tuple #[.int .i64 0, .string ⟨#[]⟩, errAt k.ae])) w5) := by
  rcases ho with ⟨rfl, rfl, rfl, rfl, hn⟩ | ⟨l, hl, ⟨m, h1, h2, rfl, h3⟩ | ⟨h1, rfl, z, rfl⟩⟩
  · refine ⟨true, fun _ => False, .inr ⟨_, _, rfl, rfl⟩, by simp [lst], fun r h => h.elim, fun r h => h.elim, fun w5 s5 msg er' hR h5 _ he => ?_, fun _ _ h => by cases h⟩
    refine ⟨s5, 0, _, er', rfl, hR, hT.trans h5, .inl ⟨?_, hn⟩⟩
    rcases he with rfl | ⟨_, h, _⟩
    · rfl
    · cases h
  · obtain ⟨hp1, hp2⟩ := lineAt_pos hl
    have hml : m.length ≤ l.length := by
      obtain ⟨a, b', c, sg, rfl, _⟩ := code3_some h1
      simp only [List.length_cons]; omega
    have hlen : (lst (⟨m.toArray⟩ : ByteArray)).length ≤ 2 * s1.pos := by rw [lst_mk]; omega
    obtain ⟨q, hq, hqe⟩ : ∃ q, ((er = .nilIface ∧ q = false) ∨ ∃ u v, er = .iface u v ∧ q = true) ∧ ((fitsB n x = true ∧ er = .nilIface ∧ q = false) ∨ (fitsB n x = false ∧ (∃ N, er = .iface 131 (.pointer (some ⟨N, 0, none⟩))) ∧ q = true)) := by
      rcases h3 with ⟨h3, rfl⟩ | ⟨h3, N, rfl⟩
      · exact ⟨false, .inl ⟨rfl, rfl⟩, .inl ⟨h3, rfl, rfl⟩⟩
      · exact ⟨true, .inr ⟨_, _, rfl, rfl⟩, .inr ⟨h3, ⟨N, rfl⟩, rfl⟩⟩
    refine ⟨q, fun r => SResp n b (k.d.drop s1.pos) m r, hq, hlen, fun r h => by rw [lst_mk]; exact h, fun _ _ => h2, fun w5 s5 msg er' hR h5 hJ he => ?_, fun w5 s5 _ hR h5 hJ => ?_⟩
    · have hfin : (fitsB n x = true ∧ er' = .nilIface) ∨ (fitsB n x = false ∧ ∃ N, er' = .iface 131 (.pointer (some ⟨N, 0, none⟩))) := by
        rcases hqe with ⟨g1, g2, g3⟩ | ⟨g1, g2, g3⟩
        · rcases he with rfl | ⟨g4, _⟩
          · exact .inl ⟨g1, g2⟩
          · rw [g3] at g4; cases g4
        · rcases he with rfl | ⟨_, _, g5⟩
          · exact .inr ⟨g1, g2⟩
          · exact .inr ⟨g1, g5⟩
      refine ⟨s5, n, _, er', rfl, hR, hT.trans h5, .inr ⟨l, s1, hl, .inr ⟨n, b, m, h1, h2, ?_, fun r hr => ?_⟩⟩⟩
      · rcases hfin with ⟨_, g⟩ | ⟨_, g⟩
        · exact .inl g
        · exact .inr (.inr (.inl g))
      · rcases hJ r hr with g | g
        · exact .inl g
        · exact .inr (.inr ⟨by rw [lst_mk]; exact g, rfl, hfin⟩)
    · exact ⟨s5, 0, _, _, rfl, hR, hT.trans h5, .inr ⟨l, s1, hl, .inr ⟨n, b, m, h1, h2, .inr (.inl rfl), fun r hr => (hJ r hr).imp id (fun g => .inl ⟨g, .inl rfl⟩)⟩⟩⟩
  · refine ⟨true, fun _ => False, .inr ⟨_, _, rfl, rfl⟩, by simp [lst], fun r h => h.elim, fun r h => h.elim, fun w5 s5 msg er' hR h5 _ he => ?_, fun w5 s5 _ hR h5 _ => ?_⟩
    · refine ⟨s5, n, _, er', rfl, hR, hT.trans h5, .inr ⟨l, s1, hl, .inl ⟨h1, ?_⟩⟩⟩
      rcases he with rfl | ⟨_, _, g⟩
      · exact .inr (.inr ⟨z, rfl⟩)
      · exact .inr (.inl g)
    · exact ⟨s5, 0, _, _, rfl, hR, hT.trans h5, .inr ⟨l, s1, hl, .inl ⟨h1, .inl rfl⟩⟩⟩
theorem Turned.belowB {S : List Nat} {w w1 w2 : World} (h : Turned S w w1) (k : Below w.heap.size w1 w2) : Turned S w w2 :=
  ⟨k.os.trans h.os, k.tape.trans h.tape, k.output.trans h.output, Nat.le_trans h.size k.size, fun i hi hn => (k.block i hi).trans (h.block i hi hn)⟩

/-- 'zzTrimRight' at the ends of lines. -/
def TrPost (s : ByteArray) (w : World) (e : Ending) (w' : World) : Prop :=
  ∃ m, e = .returned (.string (s.extract 0 m)) ∧ m ≤ s.size ∧ ((∀ c, c ∈ lst s → c ≠ 13 ∧ c ≠ 10) → m = s.size) ∧ ∃ q, w' = w.drewN q
set_option maxRecDepth 100000 in
set_option maxHeartbeats 4000000 in
theorem trimRight_set (s z : ByteArray) (w : World) (hs : s.size ≤ 4294967296) (hz : z.size = 2) (z0 : ∀ h : 0 < z.size, z[0] = 13) (z1 : ∀ h : 1 < z.size, z[1] = 10) : Calls Tryd.prog 78 #[.string s, .string z] w (TrPost s w) := by
  have HZ : Hid (z.size = 2) := hz
  have d2 : (z.size : Int) = 2 := by omega
  have y0 : 0 < z.size := by omega
  have y1 : 1 < z.size := by omega
  have x0 : (z[0].toNat : Int) = 13 := by rw [z0 y0]; rfl
  have x1 : (z[1].toNat : Int) = 10 := by rw [z1 y1]; rfl
  clear hz z0 z1
  go_enter Tryd.func78, Tryd.ntmps78
  go_wp2_with fail
  go_loopg [5] s.size (fun g v wr => ∃ m : Nat, v = .int .i64 (m : Int) ∧ m ≤ s.size ∧ ((∀ c, c ∈ lst s → c ≠ 13 ∧ c ≠ 10) → m = s.size) ∧ (∃ q, wr = w.drewN q) ∧ m ≤ g)
  case atStart => exact ⟨s.size, rfl, Nat.le_refl _, fun _ => rfl, ⟨0, rfl⟩, Nat.le_refl _⟩
  case round =>
    obtain ⟨m, rfl, hm, hc, ⟨q, rfl⟩, hg⟩ := hrel
    by_cases h0 : 0 < m
    · have d0 : (0 : Int) < (m : Int) := by omega
      have HC := Lib.hid hc
      have hlt : m - 1 < s.size := by omega
      have hc255 := u8_le s[m - 1]
      have hmem := Lib.hid (List.mem_of_getElem? (lst_get s (m - 1) hlt))
      have e1 : IntKind.i64.wrap ((m : Int) - 1) = (m : Int) - 1 := IntWalk.i64_in _ (by omega)
      have hix : ∀ W, (Instr.index 9 (.string s) (.int .i64 ((m : Int) - 1))).run Tryd.prog W = .ok (.int .u8 (s[m - 1].toNat : Int)) W := fun W => by
        have e4 : ((m : Int) - 1).toNat = m - 1 := by omega
        rw [run_index_string (w := W) 9 s .i64 ((m : Int) - 1) Tryd.underlying9, dif_pos ⟨by omega, by omega⟩]
        simp only [e4]
      have HG : Hid (m ≤ gk) := hg
      obtain ⟨G, rfl⟩ : ∃ G : Nat, G = gk := ⟨_, rfl⟩
      clear hc hg
      go_wp2_with fail
      go_loopg [6, 7] 2 (fun g f v wr => ∃ (i : Nat) (x : Bool), v = .int .i64 (i : Int) ∧ i ≤ 2 ∧ f = .bool x ∧ (x = true → s[m - 1] = 13 ∨ s[m - 1] = 10) ∧ (∃ q', wr = w.drewN q') ∧ 2 - i ≤ g)
      case atStart => exact ⟨0, false, rfl, by decide, rfl, (fun h => by cases h), ⟨q, rfl⟩, Nat.le_refl _⟩
      case round =>
        obtain ⟨i, x, rfl, hi, rfl, hx, ⟨q', rfl⟩, hg⟩ := hrel
        have HX := Lib.hid hx
        have HM : Hid (2 - (i + 1) ≤ gk - 1 ∧ (i < 2 → 0 < gk)) := ⟨by omega, fun _ => by omega⟩
        clear hx hg
        have fin : i = 0 ∨ i = 1 ∨ i = 2 := by omega
        rcases fin with rfl | rfl | rfl
        · by_cases h13 : s[m - 1] = 13
          · have t13 : ((13 : Int) == (s[m - 1].toNat : Int)) = true := by rw [h13]; rfl
            have H13 := Lib.hid h13
            clear h13
            go_wp2_with fail
            go_quiet (fail)
            go_wp2_with fail
            go_roundg (gk - 1)
            case rel => exact ⟨1, true, rfl, by decide, rfl, fun _ => .inl H13.out, ⟨_, rfl⟩, HM.out.1⟩
            case measure => have := HM.out.2 (by decide); omega
          · have t13 : ((13 : Int) == (s[m - 1].toNat : Int)) = false := beq_eq_false_iff_ne.2 (fun e => h13 (UInt8.toNat_inj.1 (by have : (13 : UInt8).toNat = 13 := rfl; omega)))
            clear h13
            go_wp2_with fail
            go_quiet (fail)
            go_wp2_with fail
            go_roundg (gk - 1)
            case rel => exact ⟨1, x, rfl, by decide, rfl, HX.out, ⟨_, rfl⟩, HM.out.1⟩
            case measure => have := HM.out.2 (by decide); omega
        · by_cases h10 : s[m - 1] = 10
          · have t10 : ((10 : Int) == (s[m - 1].toNat : Int)) = true := by rw [h10]; rfl
            have H10 := Lib.hid h10
            clear h10
            go_wp2_with fail
            go_quiet (fail)
            go_wp2_with fail
            go_roundg (gk - 1)
            case rel => exact ⟨2, true, rfl, by decide, rfl, fun _ => .inr H10.out, ⟨_, rfl⟩, HM.out.1⟩
            case measure => have := HM.out.2 (by decide); omega
          · have t10 : ((10 : Int) == (s[m - 1].toNat : Int)) = false := beq_eq_false_iff_ne.2 (fun e => h10 (UInt8.toNat_inj.1 (by have : (10 : UInt8).toNat = 10 := rfl; omega)))
            clear h10
            go_wp2_with fail
            go_quiet (fail)
            go_wp2_with fail
            go_roundg (gk - 1)
            case rel => exact ⟨2, x, rfl, by decide, rfl, HX.out, ⟨_, rfl⟩, HM.out.1⟩
            case measure => have := HM.out.2 (by decide); omega
        · cases x with
          | true =>
            have HN : Hid (¬ ∀ c, c ∈ lst s → c ≠ 13 ∧ c ≠ 10) := fun h => by
              obtain ⟨h1, h2⟩ := h _ hmem.out
              rcases HX.out rfl with h3 | h3
              · exact h1 h3
              · exact h2 h3
            go_wp2_with fail
            go_roundg (G - 1)
            case rel => exact ⟨m - 1, by go_num, by omega, fun h => absurd h HN.out, ⟨_, rfl⟩, by have := HG.out; omega⟩
            case measure => have := HG.out; omega
          | false =>
            have HF : Hid (TrPost s w (.returned (.string (s.extract 0 m))) (w.drewN q')) := ⟨m, rfl, hm, HC.out, q', rfl⟩
            go_wp2_with fail
            go_ret
            exact HF.out
    · have d0 : ¬ (0 : Int) < (m : Int) := by omega
      have HF : Hid (TrPost s w (.returned (.string (s.extract 0 m))) (w.drewN q)) := ⟨m, rfl, hm, hc, q, rfl⟩
      clear hc
      go_wp2_with fail
      go_ret
      exact HF.out
theorem trimRight_any (s : ByteArray) (w : World) (hs : s.size ≤ 4294967296) : Calls Tryd.prog 78 #[.string s, .string ⟨#[13, 10]⟩] w (TrPost s w) :=
  trimRight_set s ⟨#[13, 10]⟩ w hs rfl (fun _ => rfl) (fun _ => rfl)
end Go.Proofs.YthobojpbdeepoaaDoor
