/-
  The contracts of readCodeLine, ReadCodeLine, impl.CodeLine and spec.CodeLine; impl's kind at every error that a reader answers.
-/
import Derived.Test.YthobojpbdeepoaaDoorCode
import Derived.Test.YthobojpbdeepoaaDoorFnDropped
import Derived.Test.YthobojpbdeepoaaDoorDotTail
import Derived.Stop.Asserts
namespace Go.Proofs.YthobojpbdeepoaaDoor
open Go.RowKit

/-- All sentinels that a code's reader may answer. -/
structure EndsS (w : World) (K : Nat) (ae fe ue se : Addr) : Prop where
  e3 : Ends3 w K ae fe ue
  syn : Sent w K 9 se
theorem EndsS.keep {w w' : World} {K : Nat} {ae fe ue se : Addr} (h : EndsS w K ae fe ue se) (hb : Below K w w') : EndsS w' K ae fe ue se :=
  ⟨⟨⟨h.e3.e2.eof.keep hb, h.e3.e2.full.keep hb, h.e3.e2.ne⟩, h.e3.cut.keep hb, h.e3.neu⟩, h.syn.keep hb⟩
theorem EndsS.endsC {w : World} {K : Nat} {ae fe ue se : Addr} (h : EndsS w K ae fe ue se) : EndsC w K ae ue := ⟨h.e3.e2.eof, h.e3.cut, h.e3.neu⟩
theorem Ends3.endsC {w : World} {K : Nat} {ae fe ue : Addr} (h : Ends3 w K ae fe ue) : EndsC w K ae ue := ⟨h.e2.eof, h.cut, h.neu⟩
theorem Ends3.keep {w w' : World} {K : Nat} {ae fe ue : Addr} (h : Ends3 w K ae fe ue) (hb : Below K w w') : Ends3 w' K ae fe ue := ⟨⟨h.e2.eof.keep hb, h.e2.full.keep hb, h.e2.ne⟩, h.cut.keep hb, h.neu⟩

/-- The errors of a reader, and their kinds. -/
def ErrK (ae ue : Addr) (er : Value) (kd : Int) : Prop :=
  (er = .nilIface ∧ kd = 0) ∨ (er = errAt ae ∧ kd = 1) ∨ (er = errAt ue ∧ kd = 2) ∨ (∃ N, er = .iface 131 (.pointer (some ⟨N, 0, none⟩)) ∧ kd = 3) ∨ (∃ t, er = .iface 125 (.string t) ∧ kd = 4)
theorem is_code (N : Nat) (w : World) : (Instr.typeAssert (.iface 131 (.pointer (some ⟨N, 0, none⟩))) 74 131 true).run Tryd.prog w = .ok (.tuple #[.pointer (some ⟨N, 0, none⟩), .bool true]) w := by kernel_rfl
theorem not_code (t : ByteArray) (w : World) : (Instr.typeAssert (.iface 125 (.string t)) 74 131 true).run Tryd.prog w = .ok (.tuple #[.pointer none, .bool false]) w := by kernel_rfl
theorem is_proto (t : ByteArray) (w : World) : (Instr.typeAssert (.iface 125 (.string t)) 74 125 true).run Tryd.prog w = .ok (.tuple #[.string t, .bool true]) w := by kernel_rfl
set_option maxRecDepth 100000 in
theorem kind_code {K : Nat} {ae ue : Addr} (N : Nat) (w : World) (h : EndsC w K ae ue) : Calls Tryd.prog 50 #[.iface 131 (.pointer (some ⟨N, 0, none⟩))] w fun e w' => e = .returned (.int .i64 3) ∧ w = w' := by
  have q1 := run_eql_iface_types (P := Tryd.prog) 131 182 (.pointer (some ⟨N, 0, none⟩)) (.pointer (some ae)) Tryd.underlying74 (by decide) w
  have q2 := run_eql_iface_types (P := Tryd.prog) 131 182 (.pointer (some ⟨N, 0, none⟩)) (.pointer (some ue)) Tryd.underlying74 (by decide) w
  have q4 : (binOp .eql 74 (.iface 131 (.pointer (some ⟨N, 0, none⟩))) .nilIface).run Tryd.prog w = .ok (.bool false) w := by simp [go_sem]
  have i1 := is_code N w
  have c := h.eof.cell
  have c2 := h.cut.cell
  clear h
  go_enter Tryd.func50, Tryd.ntmps50
  go_wp2_with fail
  go_ret
  exact ⟨rfl, rfl⟩
set_option maxRecDepth 100000 in
theorem kind_proto {K : Nat} {ae ue : Addr} (t : ByteArray) (w : World) (h : EndsC w K ae ue) : Calls Tryd.prog 50 #[.iface 125 (.string t)] w fun e w' => e = .returned (.int .i64 4) ∧ w = w' := by
  have q1 := run_eql_iface_types (P := Tryd.prog) 125 182 (.string t) (.pointer (some ae)) Tryd.underlying74 (by decide) w
  have q2 := run_eql_iface_types (P := Tryd.prog) 125 182 (.string t) (.pointer (some ue)) Tryd.underlying74 (by decide) w
  have q4 : (binOp .eql 74 (.iface 125 (.string t)) .nilIface).run Tryd.prog w = .ok (.bool false) w := by simp [go_sem]
  have i1 := not_code t w
  have i2 := is_proto t w
  have c := h.eof.cell
  have c2 := h.cut.cell
  clear h
  go_enter Tryd.func50, Tryd.ntmps50
  go_wp2_with fail
  go_ret
  exact ⟨rfl, rfl⟩
theorem kind_any {K : Nat} {ae ue : Addr} (er : Value) (kd : Int) (w : World) (h : EndsC w K ae ue) (hk : ErrK ae ue er kd) : Calls Tryd.prog 50 #[er] w fun e w' => e = .returned (.int .i64 kd) ∧ w = w' := by
  rcases hk with ⟨rfl, rfl⟩ | ⟨rfl, rfl⟩ | ⟨rfl, rfl⟩ | ⟨N, rfl, rfl⟩ | ⟨t, rfl, rfl⟩
  · exact kind_nil w
  · exact kind_eof w h.eof
  · exact kind_cut w h
  · exact kind_code N w h
  · exact kind_proto t w h

/-- What a line is parsed to. -/
def PCOut (l : List UInt8) (x n : Int) (b : Bool) (t : ByteArray) (er : Value) : Prop :=
  (∃ m, code3 l = some (n, b, m) ∧ 100 ≤ n ∧ t = ⟨m.toArray⟩ ∧ ((fitsB n x = true ∧ er = .nilIface) ∨ (fitsB n x = false ∧ ∃ N, er = .iface 131 (.pointer (some ⟨N, 0, none⟩))))) ∨
  ((∀ n b m, code3 l = some (n, b, m) → n < 100) ∧ t = ⟨#[]⟩ ∧ ∃ z, er = .iface 125 (.string z))
theorem pc_out {l : List UInt8} {x : Int} {w w' : World} {e : Ending} (h : PCPost l x w e w') : ∃ n b t er, e = .returned (.tuple #[.int .i64 n, .bool b, .string t, er]) ∧ Turned [] w w' ∧ PCOut l x n b t er := by
  obtain ⟨hT, ⟨n, b, m, h1, h2, h3, rfl⟩ | ⟨n, b, m, N, h1, h2, h3, rfl⟩ | ⟨h1, n, b, z, rfl⟩⟩ := h
  · exact ⟨n, b, _, _, rfl, hT, .inl ⟨m, h1, h2, rfl, .inl ⟨h3, rfl⟩⟩⟩
  · exact ⟨n, b, _, _, rfl, hT, .inl ⟨m, h1, h2, rfl, .inr ⟨h3, N, rfl⟩⟩⟩
  · exact ⟨n, b, _, _, rfl, hT, .inr ⟨h1, rfl, z, rfl⟩⟩
/-- The line that was read, and where the reader stands. -/
def LineAt (k : RK) (s s' : RS) (l : List UInt8) : Prop :=
  (∃ j, k.d[s.pos + j]? = some 10 ∧ NoNl k.d s.pos j ∧ l = trimCR ((k.d.drop s.pos).take j) ∧ s'.pos = s.pos + j + 1) ∨ (l ≠ [] ∧ l = k.d.drop s.pos ∧ NoNl k.d s.pos (k.d.length - s.pos) ∧ s'.pos = k.d.length)
/-- What readCodeLine leaves. -/
def RCPost (k : RK) (s : RS) (x : Int) (w : World) (e : Ending) (w' : World) : Prop :=
  ∃ s' n b t er, e = .returned (.tuple #[.int .i64 n, .bool b, .string t, er]) ∧ Rd w' k s' ∧ Turned k.blocks w w' ∧
   ((n = 0 ∧ b = false ∧ t = ⟨#[]⟩ ∧ er = errAt k.ae ∧ NoNl k.d s.pos (k.d.length - s.pos)) ∨ ∃ l, LineAt k s s' l ∧ PCOut l x n b t er)

set_option maxRecDepth 100000 in
set_option maxHeartbeats 2000000 in
theorem readCode_any (k : RK) (s : RS) (x : Int) (w : World) (T : Nat) (fe ue se : Addr) (h : Rd w k s) (hT : Tp w k T) (hx : x < 1000) (hE : EndsS w k.K k.ae fe ue se) :
    Calls Tryd.prog 73 #[.pointer (some ⟨T, 0, none⟩), .int .i64 x] w (RCPost k s x w) := by
  have TL := Lib.hid (tpLine_any k s w fe T h hE.e3.e2.full hE.e3.e2.ne hT)
  have HK : Hid (k.K ≤ w.heap.size) := by have := h.kb; have := h.bb.lt; show _ ≤ _; omega
  have HE := Lib.hid (fun w' (ht : Turned k.blocks w w') => hE.keep (h.below ht))
  have HDL := Lib.hid h.dl
  clear h hT hE
  go_enter Tryd.func73, Tryd.ntmps73
  go_wp2_with fail
  go_at_call 63
  (with_reducible refine TL.out.mono ?_)
  rintro e w1 ⟨s', hR, hTu, hor⟩
  rcases hor with ⟨rfl, _, hn, _⟩ | ⟨l, rfl, hll, hor⟩
  · have HF : Hid (RCPost k s x w (.returned (.tuple #[.int .i64 0, .bool false, .string ⟨#[]⟩, errAt k.ae])) w1) := ⟨s', 0, false, _, _, rfl, hR, hTu, .inl ⟨rfl, rfl, rfl, rfl, hn⟩⟩
    clear hR hTu hn TL
    go_wp2_with fail
    (try simp only [Exit.inBlock, Exit.then]); refine bodyPost_ret (results_tmp4 rfl _ _ _) rfl ?_
    exact HF.out
  · have PC := Lib.hid (parseCode_any ⟨l.toArray⟩ x k.K se w1 (by have := HDL.out; rw [size_mk]; omega) hx (HE.out w1 hTu).syn (Nat.le_trans HK.out hTu.size))
    have HF : Hid (∀ e w2, PCPost l x w1 e w2 → RCPost k s x w e w2 ∧ ∃ n b t er, e = .returned (.tuple #[.int .i64 n, .bool b, .string t, er])) := fun e w2 hP => by
      obtain ⟨n, b, t, er, rfl, hT2, ho⟩ := pc_out hP
      exact ⟨⟨s', n, b, t, er, rfl, hR.keepNew hT2, hTu.trans (hT2.mono (by simp)), .inr ⟨l, hor, ho⟩⟩, n, b, t, er, rfl⟩
    clear hR hTu hor TL hll
    go_wp2_with fail
    go_at_call 76
    (with_reducible refine PC.out.mono ?_)
    intro e w2 hP
    rw [lst_mk] at hP
    obtain ⟨hF, n, b, t, er, rfl⟩ := HF.out e w2 hP
    have HG := Lib.hid hF
    clear hP hF
    go_wp2_with fail
    (try simp only [Exit.inBlock, Exit.then]); refine bodyPost_ret (results_tmp4 rfl _ _ _) rfl ?_
    exact HG.out

/-- What ReadCodeLine leaves. -/
def RCLPost (k : RK) (s : RS) (x : Int) (w : World) (e : Ending) (w' : World) : Prop :=
  ∃ s' n t er, e = .returned (.tuple #[.int .i64 n, .string t, er]) ∧ Rd w' k s' ∧ Turned k.blocks w w' ∧
   ((er = errAt k.ae ∧ NoNl k.d s.pos (k.d.length - s.pos)) ∨
    ∃ l, LineAt k s s' l ∧ ((∃ m, code3 l = some (n, false, m) ∧ 100 ≤ n ∧ t = ⟨m.toArray⟩ ∧ ((fitsB n x = true ∧ er = .nilIface) ∨ (fitsB n x = false ∧ ∃ N, er = .iface 131 (.pointer (some ⟨N, 0, none⟩))))) ∨
      ((∀ n m, code3 l = some (n, false, m) → n < 100) ∧ ((∃ z, er = .iface 125 (.string z)) ∨ ∃ N, er = .iface 131 (.pointer (some ⟨N, 0, none⟩))))))
set_option maxRecDepth 100000 in
set_option maxHeartbeats 2000000 in
theorem readCodeLine_any (k : RK) (s : RS) (x : Int) (w : World) (T : Nat) (fe ue se : Addr) (h : Rd w k s) (hT : Tp w k T) (hx : x < 1000) (hE : EndsS w k.K k.ae fe ue se) :
    Calls Tryd.prog 48 #[.pointer (some ⟨T, 0, none⟩), .int .i64 x] w (RCLPost k s x w) := by
  have RC := Lib.hid (readCode_any k s x w T fe ue se h hT hx hE)
  have Q1 := fun (w : World) (t : ByteArray) => (by simp [go_sem] : (binOp .eql 74 (.iface 125 (.string t)) .nilIface).run Tryd.prog w = .ok (.bool false) w)
  clear h hT hE
  go_enter Tryd.func48, Tryd.ntmps48
  go_wp2_with fail
  go_at_call 73
  (with_reducible refine RC.out.mono ?_)
  rintro e w1 ⟨s', n, b, t, er, rfl, hR, hTu, ⟨rfl, rfl, rfl, rfl, hn⟩ | ⟨l, hl, ⟨m, h1, h2, rfl, ⟨h3, rfl⟩ | ⟨h3, N, rfl⟩⟩ | ⟨h1, rfl, z, rfl⟩⟩⟩
  · have HF : Hid (RCLPost k s x w (.returned (.tuple #[.int .i64 0, .string ⟨#[]⟩, errAt k.ae])) w1) := ⟨s', _, _, _, rfl, hR, hTu, .inl ⟨rfl, hn⟩⟩
    clear hR hTu hn RC
    go_wp2_with fail
    go_ret3
    exact HF.out
  · cases b with
    | false =>
      have HF : Hid (RCLPost k s x w (.returned (.tuple #[.int .i64 n, .string ⟨m.toArray⟩, .nilIface])) w1) := ⟨s', _, _, _, rfl, hR, hTu, .inr ⟨l, hl, .inl ⟨m, h1, h2, rfl, .inl ⟨h3, rfl⟩⟩⟩⟩
      clear hR hTu hl h1 h2 h3 RC
      go_wp2_with fail
      go_ret3
      exact HF.out
    | true =>
      have HF : Hid (∀ z, RCLPost k s x w (.returned (.tuple #[.int .i64 n, .string ⟨m.toArray⟩, .iface 125 (.string z)])) w1) := fun z => ⟨s', _, _, _, rfl, hR, hTu, .inr ⟨l, hl, .inr ⟨fun n' m' h' => (by rw [h1] at h'; cases h'), .inl ⟨z, rfl⟩⟩⟩⟩
      clear hR hTu hl h1 h2 h3 RC
      go_wp2_with fail
      go_ret3
      exact HF.out _
  · have HF : Hid (RCLPost k s x w (.returned (.tuple #[.int .i64 n, .string ⟨m.toArray⟩, .iface 131 (.pointer (some ⟨N, 0, none⟩))])) w1) := by
      refine ⟨s', _, _, _, rfl, hR, hTu, .inr ⟨l, hl, ?_⟩⟩
      cases b with
      | false => exact .inl ⟨m, h1, h2, rfl, .inr ⟨h3, N, rfl⟩⟩
      | true => exact .inr ⟨fun n' m' h' => (by rw [h1] at h'; cases h'), .inr ⟨N, rfl⟩⟩
    clear hR hTu hl h1 h2 h3 RC
    go_wp2_with fail
    go_ret3
    exact HF.out
  · have HF : Hid (RCLPost k s x w (.returned (.tuple #[.int .i64 n, .string ⟨#[]⟩, .iface 125 (.string z)])) w1) := ⟨s', _, _, _, rfl, hR, hTu, .inr ⟨l, hl, .inr ⟨fun n' m' h' => h1 n' false m' h', .inl ⟨z, rfl⟩⟩⟩⟩
    clear hR hTu hl h1 RC
    go_wp2_with fail
    go_ret3
    exact HF.out

/-- What impl.CodeLine answers. -/
def ICPost (l : List UInt8) (x : Int) (w : World) (e : Ending) (w' : World) : Prop :=
  ∃ n t p nn cap kd, e = .returned (.tuple #[.int .i64 n, .string t, .slice p (l.drop nn).length cap, .int .i64 kd]) ∧ Turned [] w w' ∧ RowP w' p (l.drop nn) ∧ nn ≤ l.length ∧
   ((∃ j, l[j]? = some 10 ∧ NoNl l 0 j ∧ nn = j + 1 ∧ ((∃ m, code3 (trimCR (l.take j)) = some (n, false, m) ∧ 100 ≤ n ∧ t = ⟨m.toArray⟩ ∧ ((fitsB n x = true ∧ kd = 0) ∨ (fitsB n x = false ∧ kd = 3))) ∨
      ((∀ n m, code3 (trimCR (l.take j)) = some (n, false, m) → n < 100) ∧ kd ≠ 0))) ∨
    (NoNl l 0 l.length ∧ (l = [] → kd ≠ 0)))
/-- What ICPost says, out of what ReadCodeLine left. -/
theorem ic_of {k : RK} {s s' : RS} {x n : Int} {t : ByteArray} {er : Value} {ae : Addr} (hs : s.pos = 0)
    (hor : (er = errAt ae ∧ NoNl k.d s.pos (k.d.length - s.pos)) ∨
      ∃ l, LineAt k s s' l ∧ ((∃ m, code3 l = some (n, false, m) ∧ 100 ≤ n ∧ t = ⟨m.toArray⟩ ∧ ((fitsB n x = true ∧ er = .nilIface) ∨ (fitsB n x = false ∧ ∃ N, er = .iface 131 (.pointer (some ⟨N, 0, none⟩))))) ∨
        ((∀ n m, code3 l = some (n, false, m) → n < 100) ∧ ((∃ z, er = .iface 125 (.string z)) ∨ ∃ N, er = .iface 131 (.pointer (some ⟨N, 0, none⟩)))))) (ue : Addr) :
    ∃ kd, ErrK ae ue er kd ∧ ((∃ j, k.d[j]? = some 10 ∧ NoNl k.d 0 j ∧ s'.pos = j + 1 ∧ ((∃ m, code3 (trimCR (k.d.take j)) = some (n, false, m) ∧ 100 ≤ n ∧ t = ⟨m.toArray⟩ ∧ ((fitsB n x = true ∧ kd = 0) ∨ (fitsB n x = false ∧ kd = 3))) ∨
      ((∀ n m, code3 (trimCR (k.d.take j)) = some (n, false, m) → n < 100) ∧ kd ≠ 0))) ∨
    (NoNl k.d 0 k.d.length ∧ (k.d = [] → kd ≠ 0))) := by
  unfold LineAt at hor
  rw [hs] at hor
  simp only [Nat.zero_add, List.drop_zero, Nat.sub_zero] at hor
  rcases hor with ⟨rfl, hn⟩ | ⟨l, hl, ho⟩
  · exact ⟨1, .inr (.inl ⟨rfl, rfl⟩), .inr ⟨hn, fun _ => by decide⟩⟩
  · have hk : ∃ kd, ErrK ae ue er kd ∧ ((∃ m, code3 l = some (n, false, m) ∧ 100 ≤ n ∧ t = ⟨m.toArray⟩ ∧ ((fitsB n x = true ∧ kd = 0) ∨ (fitsB n x = false ∧ kd = 3))) ∨ ((∀ n m, code3 l = some (n, false, m) → n < 100) ∧ kd ≠ 0)) := by
      rcases ho with ⟨m, h1, h2, rfl, ⟨h3, rfl⟩ | ⟨h3, N, rfl⟩⟩ | ⟨h1, ⟨z, rfl⟩ | ⟨N, rfl⟩⟩
      · exact ⟨0, .inl ⟨rfl, rfl⟩, .inl ⟨m, h1, h2, rfl, .inl ⟨h3, rfl⟩⟩⟩
      · exact ⟨3, .inr (.inr (.inr (.inl ⟨N, rfl, rfl⟩))), .inl ⟨m, h1, h2, rfl, .inr ⟨h3, rfl⟩⟩⟩
      · exact ⟨4, .inr (.inr (.inr (.inr ⟨z, rfl, rfl⟩))), .inr ⟨h1, by decide⟩⟩
      · exact ⟨3, .inr (.inr (.inr (.inl ⟨N, rfl, rfl⟩))), .inr ⟨h1, by decide⟩⟩
    obtain ⟨kd, h1, h2⟩ := hk
    refine ⟨kd, h1, ?_⟩
    rcases hl with ⟨j, g1, g2, rfl, g4⟩ | ⟨g1, g2, g3, _⟩
    · exact .inl ⟨j, g1, g2, g4, h2⟩
    · exact .inr ⟨g3, fun h0 => absurd (by rw [g2, h0]) g1⟩

set_option maxRecDepth 100000 in
set_option maxHeartbeats 2000000 in
theorem implCodeLine_any (p : Option Addr) (l : List UInt8) (cap : Nat) (x : Int) (ae fe ue se : Addr) (w : World) (h : DataAt w p l) (hl : l.length ≤ 1048576) (hx : x < 1000) (hE : EndsS w w.heap.size ae fe ue se) :
    Calls Tryd.prog 18 #[.slice p l.length cap, .int .i64 x] w (ICPost l x w) := by
  have MR := mkReader_any p l cap ae w h (by omega) hE.e3.e2.eof
  go_enter Tryd.func18, Tryd.ntmps18
  go_wp2_with fail
  go_at_call 47
  refine MR.mono ?_
  rintro e w1 ⟨k, s, T, rfl, hT1, hkd, hkK, hka, hR1, hTp1, hpos, _, _⟩
  subst hkd
  subst hka
  have hE1 : EndsS w1 k.K k.ae fe ue se := by rw [hkK]; exact hE.keep (hT1.below (Nat.le_refl _) (by simp))
  have RC := Lib.hid (readCodeLine_any k s x w1 T fe ue se hR1 hTp1 hx hE1)
  have HEC : Hid (∀ wr, Turned [] w wr → EndsC wr k.K k.ae ue) := fun wr hx => by
    rw [hkK]
    exact (hE.keep (hx.below (Nat.le_refl _) (by simp))).endsC
  have HK : Hid (k.K = w.heap.size ∧ s.pos = 0) := ⟨hkK, hpos⟩
  have HT := Lib.hid hT1
  have H1 := Lib.hid hR1
  have HTp := Lib.hid hTp1
  clear h hl hE MR hT1 hR1 hTp1 hE1 hpos hkK
  go_wp2_with fail
  go_at_call 48
  (with_reducible refine RC.out.mono ?_)
  rintro e w2 ⟨s', n, t, er, rfl, hR2, hT2, hor⟩
  have hTp2 := HTp.out.keep H1.out hT2
  have hTw2 : Turned [] w w2 := HT.out.fresh hT2 (fun x hx => by rw [← HK.out.1]; exact H1.out.blocks_new x hx)
  obtain ⟨kd, hk, ho⟩ := ic_of HK.out.2 hor ue
  have RS := Lib.hid (rest_any k s' w2 T hR2 hTp2)
  have hp2 := hR2.pos_le
  have hi2 := hR2.il
  have HF : Hid (∀ w3 v3, Turned k.blocks w2 w3 → w3.ownsRow w2.heap.size 5 1 v3 (k.d.drop s'.pos).length (by8 (k.d.drop s'.pos)) → ∃ p2 cap2, v3 = .slice p2 (k.d.drop s'.pos).length cap2 ∧ ICPost k.d x w (.returned (.tuple #[.int .i64 n, .string t, v3, .int .i64 kd])) w3 ∧ EndsC w3 k.K k.ae ue) := by
    intro w3 v3 hT3 hO3
    have hTT : Turned [] w w3 := hTw2.fresh hT3 (fun x hx => by rw [← HK.out.1]; exact hR2.blocks_new x hx)
    obtain ⟨p2, cap2, rfl, hp2'⟩ := own_slice hO3
    exact ⟨p2, cap2, rfl, ⟨n, t, p2, s'.pos, cap2, kd, rfl, hTT, hp2', by omega, ho⟩, HEC.out _ hTT⟩
  have HKD := Lib.hid hk
  clear hR2 hT2 hTp2 hTw2 hor ho RC hk hp2 hi2
  go_wp2_with fail
  go_at_call 49
  (with_reducible refine RS.out.mono ?_)
  rintro e w3 ⟨v3, rfl, hT3, hO3⟩
  obtain ⟨p2, cap2, hv, hF, hE3⟩ := HF.out w3 v3 hT3 hO3
  have HG := Lib.hid hF
  have KD := Lib.hid (kind_any er kd w3 hE3 HKD.out)
  clear hF hE3 hT3 hO3 RS HF hv
  go_wp2_with (go_at_call 50; (with_reducible refine KD.out.mono ?_); rintro e w4 ⟨rfl, rfl⟩)
  (try simp only [Exit.inBlock, Exit.then]); refine bodyPost_ret (results_tmp4 rfl _ _ _) rfl ?_
  exact HG.out

/-- What spec.CodeLine answers. -/
def SCLPost (s : ByteArray) (w : World) (e : Ending) (w' : World) : Prop :=
  ∃ n t r what, e = .returned (.tuple #[.int .i64 n, .string t, .string r, .int .i64 what]) ∧ (∃ q, w' = w.drewN q) ∧
   ((what = 0 ∧ ∃ j m, (lst s)[j]? = some 10 ∧ NoNl (lst s) 0 j ∧ code3 (trimCR ((lst s).take j)) = some (n, false, m) ∧ 100 ≤ n ∧ t = ⟨m.toArray⟩ ∧ r = ⟨((lst s).drop (j + 1)).toArray⟩) ∨
    (what = 1 ∧ (s.size = 0 ∨ ∃ j, (lst s)[j]? = some 10 ∧ NoNl (lst s) 0 j ∧ ∀ n m, code3 (trimCR ((lst s).take j)) ≠ some (n, false, m))) ∨ what = 2)
set_option maxRecDepth 100000 in
set_option maxHeartbeats 2000000 in
theorem specCodeLine_any (s : ByteArray) (w : World) (hs : s.size ≤ 4294967296) : Calls Tryd.prog 17 #[.string s] w (SCLPost s w) := by
  have SL := Lib.hid (specLine_any s w hs)
  have HS : Hid (s.size ≤ 4294967296) := hs
  clear hs
  go_enter Tryd.func17, Tryd.ntmps17
  go_wp2_with fail
  go_at_call 31
  (with_reducible refine SL.out.mono ?_)
  rintro e w1 ⟨⟨q, rfl⟩, ⟨j, h1, h2, rfl⟩ | ⟨_, _, rfl⟩ | ⟨h0, rfl⟩⟩
  · have HJ : Hid ((lst s)[j]? = some 10 ∧ NoNl (lst s) 0 j) := ⟨h1, h2⟩
    have CD := Lib.hid (specCode_any ⟨(trimCR ((lst s).take j)).toArray⟩ (w.drewN q) (by
      have h3 := trimCR_length ((lst s).take j)
      have h4 := HS.out
      rw [List.length_take, lst_length] at h3
      rw [size_mk]; omega))
    rw [lst_mk (trimCR ((lst s).take j))] at CD
    clear h1 h2 SL
    go_wp2_with fail
    go_at_call 46
    (with_reducible refine CD.out.mono ?_)
    rintro e w2 ⟨⟨q2, rfl⟩, ⟨n, b, m, g1, g2, rfl⟩ | ⟨n, b, m, g1, g2, rfl⟩ | ⟨g1, rfl⟩⟩
    · cases b with
      | false =>
        have HF : Hid (SCLPost s w (.returned (.tuple #[.int .i64 n, .string ⟨m.toArray⟩, .string ⟨((lst s).drop (j + 1)).toArray⟩, .int .i64 0])) (w.drewN (q + q2))) := ⟨n, _, _, _, rfl, ⟨_, rfl⟩, .inl ⟨rfl, j, m, HJ.out.1, HJ.out.2, g1, g2, rfl, rfl⟩⟩
        clear g1 g2 CD
        go_wp2_with fail
        (try simp only [Exit.inBlock, Exit.then]); refine bodyPost_ret (results_tmp4 rfl _ _ _) rfl ?_
        exact HF.out
      | true =>
        have HF : Hid (SCLPost s w (.returned (.tuple #[.int .i64 n, .string ⟨m.toArray⟩, .string ⟨((lst s).drop (j + 1)).toArray⟩, .int .i64 1])) (w.drewN (q + q2))) := ⟨n, _, _, _, rfl, ⟨_, rfl⟩, .inr (.inl ⟨rfl, .inr ⟨j, HJ.out.1, HJ.out.2, fun n' m' h' => (by rw [g1] at h'; cases h')⟩⟩)⟩
        clear g1 g2 CD
        go_wp2_with fail
        (try simp only [Exit.inBlock, Exit.then]); refine bodyPost_ret (results_tmp4 rfl _ _ _) rfl ?_
        exact HF.out
    · have HF : Hid (SCLPost s w (.returned (.tuple #[.int .i64 0, .string ⟨#[]⟩, .string ⟨((lst s).drop (j + 1)).toArray⟩, .int .i64 2])) (w.drewN (q + q2))) := ⟨0, _, _, _, rfl, ⟨_, rfl⟩, .inr (.inr rfl)⟩
      clear g1 g2 CD
      go_wp2_with fail
      (try simp only [Exit.inBlock, Exit.then]); refine bodyPost_ret (results_tmp4 rfl _ _ _) rfl ?_
      exact HF.out
    · have HF : Hid (SCLPost s w (.returned (.tuple #[.int .i64 0, .string ⟨#[]⟩, .string ⟨((lst s).drop (j + 1)).toArray⟩, .int .i64 1])) (w.drewN (q + q2))) := ⟨0, _, _, _, rfl, ⟨_, rfl⟩, .inr (.inl ⟨rfl, .inr ⟨j, HJ.out.1, HJ.out.2, fun n' m' h' => (by rw [g1] at h'; cases h')⟩⟩)⟩
      clear g1 CD
      go_wp2_with fail
      (try simp only [Exit.inBlock, Exit.then]); refine bodyPost_ret (results_tmp4 rfl _ _ _) rfl ?_
      exact HF.out
  · have HF : Hid (SCLPost s w (.returned (.tuple #[.int .i64 0, .string ⟨#[]⟩, .string ⟨#[]⟩, .int .i64 2])) (w.drewN q)) := ⟨0, _, _, _, rfl, ⟨q, rfl⟩, .inr (.inr rfl)⟩
    clear SL
    go_wp2_with fail
    (try simp only [Exit.inBlock, Exit.then]); refine bodyPost_ret (results_tmp4 rfl _ _ _) rfl ?_
    exact HF.out
  · have HF : Hid (SCLPost s w (.returned (.tuple #[.int .i64 0, .string ⟨#[]⟩, .string ⟨#[]⟩, .int .i64 1])) (w.drewN q)) := ⟨0, _, _, _, rfl, ⟨q, rfl⟩, .inr (.inl ⟨rfl, .inl h0⟩)⟩
    clear SL h0
    go_wp2_with fail
    (try simp only [Exit.inBlock, Exit.then]); refine bodyPost_ret (results_tmp4 rfl _ _ _) rfl ?_
    exact HF.out
end Go.Proofs.YthobojpbdeepoaaDoor
