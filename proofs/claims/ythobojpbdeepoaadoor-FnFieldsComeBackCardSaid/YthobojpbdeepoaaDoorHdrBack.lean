/-
  The walk of laws.FnFieldsComeBack.
-/
import Derived.Test.YthobojpbdeepoaaDoorIFields
import Derived.Test.YthobojpbdeepoaaDoorHdrText
import Derived.Test.YthobojpbdeepoaaDoorSpecInsert
import Derived.Test.YthobojpbdeepoaaDoorSameSV
import Derived.Test.YthobojpbdeepoaaDoorSpecCanon
import Derived.Test.YthobojpbdeepoaaDoorComeIn
namespace Go.Proofs.YthobojpbdeepoaaDoor
open Go.RowKit

theorem Sent.raise {w : World} {K K' g : Nat} {a : Addr} (h : Sent w K g a) (hK : K ≤ K') : Sent w K' g a := ⟨Nat.lt_of_lt_of_le h.glob hK, Nat.lt_of_lt_of_le h.below hK, h.cell, h.row⟩
theorem Ends3.up {w w' : World} {ae fe ue : Addr} (h : Ends3 w w.heap.size ae fe ue) (hT : Turned [] w w') : Ends3 w' w'.heap.size ae fe ue := by
  have h1 := h.keep (hT.below (Nat.le_refl _) (by simp))
  exact ⟨⟨h1.e2.eof.raise hT.size, h1.e2.full.raise hT.size, h1.e2.ne⟩, h1.cut.raise hT.size, h1.neu⟩
def endS (crlf : Bool) : ByteArray := if crlf then ⟨#[13, 10]⟩ else ⟨#[10]⟩
theorem lst_endS (crlf : Bool) : lst (endS crlf) = endL crlf := by cases crlf <;> rfl
theorem endS_size (crlf : Bool) : (endS crlf).size ≤ 2 := by cases crlf <;> decide
/-- What is written so far. -/
structure FB (w wr : World) (crlf : Bool) (i : Nat) (text : ByteArray) (va : Value) (ps : List Fd) : Prop where
  tu : Turned [] w wr
  len : ps.length = i
  good : ∀ f, f ∈ ps → Good f
  tx : lst text = hdrL crlf ps
  ts : text.size ≤ 2000 * i
  own : wr.ownsRow w.heap.size 67 2 va (allOf (ps.map (fun f => (canon f.1, f.2)))).length (fc (allOf (ps.map (fun f => (canon f.1, f.2)))))

theorem FB.next {w wr w' : World} {crlf : Bool} {i : Nat} {text : ByteArray} {va v' : Value} {ps : List Fd} (h : FB w wr crlf i text va ps) {k v : ByteArray} (hg : Good (lst k, lst v)) (hsz : k.size + v.size ≤ 1000) (ht : Turned [] wr w')
    (ho : w'.ownsRow w.heap.size 67 2 v' (insF (allOf (ps.map (fun f => (canon f.1, f.2)))) (canon (lst k), lst v)).length (fc (insF (allOf (ps.map (fun f => (canon f.1, f.2)))) (canon (lst k), lst v)))) {t2 : ByteArray} (h2 : lst t2 = lst text ++ (fldL (lst k, lst v) ++ endL crlf)) :
    FB w w' crlf (i + 1) t2 v' (ps ++ [(lst k, lst v)]) := by
  refine ⟨h.tu.trans ht, by rw [List.length_append, h.len]; rfl, fun f hf => ?_, by rw [h2, h.tx, hdrL_snoc], ?_, by rw [List.map_append, List.map_singleton, allOf_snoc]; exact ho⟩
  · rcases List.mem_append.1 hf with hf | hf
    · exact h.good f hf
    · rw [List.mem_singleton.1 hf]; exact hg
  · have h3 := h.ts
    have h4 : (endL crlf).length ≤ 2 := by cases crlf <;> decide
    have h5 := lst_length k
    have h6 := lst_length v
    have h7 : (fldL (lst k, lst v)).length = k.size + 2 + v.size := by unfold fldL; simp; omega
    rw [← lst_length, h2, List.length_append, List.length_append, lst_length, h7]
    omega

set_option maxRecDepth 100000 in
set_option maxHeartbeats 16000000 in
theorem fnBack_any (pk : Option Addr) (ks : List ByteArray) (ck : Nat) (pv : Option Addr) (vs : List ByteArray) (cv : Nat) (crlf : Bool) (p : Option Addr) (l : List UInt8) (cap : Nat) (ae fe ue : Addr) (w : World)
    (hK : StrsAt w pk ks) (hV : StrsAt w pv vs) (hD : DataAt w p l) (hcp : p = none → cap = 0) (hE : Ends3 w w.heap.size ae fe ue) :
    Calls Tryd.prog 16 #[.slice pk ks.length ck, .slice pv vs.length cv, .bool crlf, .slice p l.length cap] w fun e w' => e = .returned (.bool true) ∧ Turned [] w w' := by
  have FT1 := Lib.hid (fits2_any pk ks ck w hK)
  have FT2 := Lib.hid (fits2_any pv vs cv w hV)
  have HK := Lib.hid hK
  have HV := Lib.hid hV
  have HD := Lib.hid hD
  have HE := Lib.hid hE
  have HCP := Lib.hid hcp
  clear hK hV hD hE hcp
  go_enter Tryd.func16, Tryd.ntmps16
  go_wp2_with fail
  go_at_call 20
  (with_reducible refine FT1.out.mono ?_)
  rintro e w1 ⟨rfl, b, rfl, hfit1⟩
  cases b with
  | false =>
    clear hfit1
    go_wp2_with fail
    go_ret
    exact ⟨rfl, Turned.refl _ _⟩
  | true =>
  have HS1 := Lib.hid (hfit1 rfl)
  clear hfit1
  go_wp2_with fail
  go_at_call 20
  (with_reducible refine FT2.out.mono ?_)
  rintro e w1 ⟨rfl, b, rfl, hfit2⟩
  cases b with
  | false =>
    clear hfit2
    go_wp2_with fail
    go_ret
    exact ⟨rfl, Turned.refl _ _⟩
  | true =>
  have HS2 := Lib.hid (hfit2 rfl)
  clear hfit2 FT1 FT2
  by_cases hx : 2147483647 < l.length
  · have b2 : (2147483647 : Int) < (l.length : Int) := by omega
    clear hx
    go_wp2_with fail
    go_ret
    exact ⟨rfl, Turned.refl _ _⟩
  have b2 : ¬ (2147483647 : Int) < (l.length : Int) := by omega
  clear hx
  by_cases hx : 100 < ks.length
  · have b3 : (100 : Int) < (ks.length : Int) := by omega
    clear hx
    go_wp2_with fail
    go_ret
    exact ⟨rfl, Turned.refl _ _⟩
  have b3 : ¬ (100 : Int) < (ks.length : Int) := by omega
  have HN100 : Hid (ks.length ≤ 100) := by show _ ≤ _; omega
  clear hx
  by_cases hx : vs.length = ks.length
  rotate_left
  · have b4 : ¬ (vs.length : Int) = (ks.length : Int) := by omega
    clear hx
    go_wp2_with fail
    go_ret
    exact ⟨rfl, Turned.refl _ _⟩
  have HNV := Lib.hid hx
  rw [hx]
  clear hx
  by_cases hx : 65536 < l.length
  · have b5 : (65536 : Int) < (l.length : Int) := by omega
    clear hx
    go_wp2_with fail
    go_ret
    exact ⟨rfl, Turned.refl _ _⟩
  have b5 : ¬ (65536 : Int) < (l.length : Int) := by omega
  have HLN : Hid (l.length ≤ 65536) := by show _ ≤ _; omega
  clear hx
  go_upto_if 47 with (fail)
  go_cut [9] (fun u9 wc => u9 = .string (endS crlf) ∧ w = wc)
  case first =>
    cases crlf
    · go_wp2_with fail
      go_meet
      exact ⟨rfl, rfl⟩
    · go_wp2_with fail
      go_meet
      exact ⟨rfl, rfl⟩
  case rest =>
    obtain ⟨rfl, rfl⟩ := hcut
    have hes := endS_size crlf
    have HES : Hid (lst (endS crlf) = endL crlf ∧ (endS crlf).size ≤ 2) := ⟨lst_endS crlf, hes⟩
    obtain ⟨END, hEND⟩ : ∃ x, x = endS crlf := ⟨_, rfl⟩
    rw [← hEND] at HES hes
    rw [← hEND]
    clear hEND
    have H0 : Hid (FB w w crlf 0 ⟨#[]⟩ (.slice none 0 0) []) := ⟨Turned.refl _ _, rfl, (fun f hf => by simp at hf), rfl, Nat.le_refl _, ⟨rfl, .inl ⟨rfl, rfl⟩⟩⟩
    go_wp2_with fail
    go_loopg [10, 11, 50] ks.length (fun g vt va vi wr => ∃ (i : Nat) (text : ByteArray) (ps : List Fd), vi = .int .i64 (i : Int) ∧ vt = .string text ∧ i ≤ ks.length ∧ FB w wr crlf i text va ps ∧ ks.length - i ≤ g)
    case atStart => exact ⟨0, _, [], rfl, rfl, Nat.zero_le _, H0.out, Nat.le_refl _⟩
    case round =>
      clear H0
      obtain ⟨i, text, ps, rfl, rfl, hi, hr, hg⟩ := hrel
      have HR := Lib.hid hr
      obtain ⟨pa, ca, rfl, -⟩ := ownsN_slice hr.own
      by_cases hlt : i < ks.length
      · obtain ⟨k, hk⟩ : ∃ x, ks[i]? = some x := ⟨_, List.getElem?_eq_getElem hlt⟩
        obtain ⟨v, hv⟩ : ∃ x, vs[i]? = some x := ⟨_, List.getElem?_eq_getElem (by have := HNV.out; omega)⟩
        obtain ⟨gk1, off1, rfl, -, cc1⟩ := (StrsAt.at (CellsAt.keep HK.out hr.tu) hk)
        obtain ⟨gv1, off2, rfl, -, cc2⟩ := (StrsAt.at (CellsAt.keep HV.out hr.tu) hv)
        have hks : k.size ≤ 2147483647 := HS1.out.2 k (List.mem_of_getElem? hk)
        have hvs : v.size ≤ 2147483647 := HS2.out.2 v (List.mem_of_getElem? hv)
        have HTU := Lib.hid hr.tu
        have d0 : (i : Int) < (ks.length : Int) := by omega
        have d1 : (0 : Int) ≤ (i : Int) := by omega
        have h100 : ks.length ≤ 100 := HN100.out
        have e1 : IntKind.i64.wrap ((i : Int) + 1) = (i : Int) + 1 := IntWalk.i64_in _ (by omega)
        obtain ⟨G, hG⟩ : ∃ G, G = gk := ⟨_, rfl⟩
        have HG : Hid (ks.length - (i + 1) ≤ G - 1 ∧ 0 < G ∧ i + 1 ≤ ks.length ∧ G = gk) := ⟨by omega, by omega, by omega, hG⟩
        clear hg hi hlt hk hv hr hG
        by_cases hk0 : lst k = []
        · obtain rfl : k = ⟨#[]⟩ := lst_inj hk0
          clear hk0
          go_wp2_with fail
          go_ret
          exact ⟨rfl, HTU.out⟩
        have t0 : (k.toList == []) = false := by
          have e : k.toList = lst k := ByteArray.toList_eq k
          rw [e]
          simpa using hk0
        have HK0 := Lib.hid hk0
        clear hk0
        have IK := fun W => isKey_any k W (by omega)
        cases hik : isKey (lst k) with
        | false =>
          rw [hik] at IK
          clear hik
          go_wp2_with (go_at_call 42; (with_reducible refine (IK _).mono ?_); rintro e w' ⟨rfl, rfl⟩)
          go_ret
          exact ⟨rfl, HTU.out⟩
        | true =>
        rw [hik] at IK
        have HIK := Lib.hid hik
        clear hik
        by_cases hs : 1000 < k.size + v.size
        · have d2 : (1000 : Int) < (k.size : Int) + (v.size : Int) := by omega
          have e2 : IntKind.i64.wrap ((k.size : Int) + (v.size : Int)) = (k.size : Int) + (v.size : Int) := IntWalk.i64_in _ (by omega)
          clear hs
          go_wp2_with (go_at_call 42; (with_reducible refine (IK _).mono ?_); rintro e w' ⟨rfl, rfl⟩)
          go_ret
          exact ⟨rfl, HTU.out⟩
        have d2 : ¬ (1000 : Int) < (k.size : Int) + (v.size : Int) := by omega
        have e2 : IntKind.i64.wrap ((k.size : Int) + (v.size : Int)) = (k.size : Int) + (v.size : Int) := IntWalk.i64_in _ (by omega)
        have HSM : Hid (k.size + v.size ≤ 1000) := by show _ ≤ _; omega
        clear hs
        have TV := fun W => specTrim_any v W (by omega)
        by_cases htv : trimR blB (trimL blB (lst v)) = lst v
        rotate_left
        · have t1 : ((trimR blB (trimL blB (lst v))) == v.toList) = false := by
            have e : v.toList = lst v := ByteArray.toList_eq v
            rw [e]
            simpa using htv
          generalize trimR blB (trimL blB (lst v)) = tl at *
          clear htv
          go_wp2_with (first
            | (go_at_call 42; (with_reducible refine (IK _).mono ?_); rintro e w' ⟨rfl, rfl⟩)
            | (go_at_call 43; (with_reducible refine (TV _).mono ?_); rintro e w' ⟨rfl, rfl⟩)
            | go_in)
          go_ret
          exact ⟨rfl, HTU.out⟩
        rw [htv, mk_lst] at TV
        have HTV : Hid (trimB (lst v) = lst v) := htv
        clear htv
        go_wp2_with (first
          | (go_at_call 42; (with_reducible refine (IK _).mono ?_); rintro e w' ⟨rfl, rfl⟩)
          | (go_at_call 43; (with_reducible refine (TV _).mono ?_); rintro e w' ⟨rfl, rfl⟩)
          | go_in)
        clear IK TV t0
        go_loopg [82] v.size (fun g u wx => ∃ x : Nat, u = .int .i64 (x : Int) ∧ x ≤ v.size ∧ wr = wx ∧ (∀ c, c ∈ (lst v).take x → (32 ≤ c.toNat ∧ c.toNat ≤ 126) ∨ c.toNat = 9) ∧ v.size - x ≤ g)
        case atStart => exact ⟨0, rfl, Nat.zero_le _, rfl, (fun c hc => by simp at hc), Nat.le_refl _⟩
        case round =>
          obtain ⟨x, rfl, hx, rfl, hval, hg⟩ := hrel
          have HVL := Lib.hid hval
          have HGI : Hid (v.size - (x + 1) ≤ gk - 1 ∧ (x < v.size → 0 < gk)) := ⟨by omega, fun _ => by omega⟩
          clear hg hval
          by_cases hxl : x < v.size
          · have d3 : (x : Int) < (v.size : Int) := by omega
            have d4 : (0 : Int) ≤ (x : Int) := by omega
            have e3 : IntKind.i64.wrap ((x : Int) + 1) = (x : Int) + 1 := IntWalk.i64_in _ (by omega)
            have HST : Hid ((32 ≤ v[x].toNat ∧ v[x].toNat ≤ 126) ∨ v[x].toNat = 9 → ∀ c, c ∈ (lst v).take (x + 1) → (32 ≤ c.toNat ∧ c.toNat ≤ 126) ∨ c.toNat = 9) := by
              intro hb c hc
              rw [take_snoc v x hxl] at hc
              rcases List.mem_append.1 hc with hc | hc
              · exact HVL.out c hc
              · rw [List.mem_singleton.1 hc]; exact hb
            rcases (show (v[x].toNat : Int) = 9 ∨ ((v[x].toNat : Int) ≠ 9 ∧ (v[x].toNat : Int) < 32) ∨ ((v[x].toNat : Int) ≠ 9 ∧ 126 < (v[x].toNat : Int)) ∨ (32 ≤ (v[x].toNat : Int) ∧ (v[x].toNat : Int) ≤ 126) from by omega) with h | ⟨h, h'⟩ | ⟨h, h'⟩ | ⟨h, h'⟩
            · have HB := Lib.hid (HST.out (.inr (by omega)))
              have t1 : (v[x].toNat : Int) < 32 := by omega
              have t2 : ((v[x].toNat : Int) == 9) = true := by simpa using h
              clear h HST
              go_wp2_with fail
              go_roundg (gk - 1)
              case rel => exact ⟨x + 1, rfl, hxl, rfl, HB.out, HGI.out.1⟩
              case measure => exact Nat.sub_lt (HGI.out.2 hxl) Nat.one_pos
            · have t2 : ((v[x].toNat : Int) == 9) = false := by simpa using h
              clear h HST
              go_wp2_with fail
              go_ret
              exact ⟨rfl, HTU.out⟩
            · have t1 : ¬ (v[x].toNat : Int) < 32 := by omega
              have t2 : ((v[x].toNat : Int) == 9) = false := by simpa using h
              clear h HST
              go_wp2_with fail
              go_ret
              exact ⟨rfl, HTU.out⟩
            · have HB := Lib.hid (HST.out (.inl (by omega)))
              have t1 : ¬ (v[x].toNat : Int) < 32 := by omega
              have t3 : ¬ 126 < (v[x].toNat : Int) := by omega
              clear h h' HST
              go_wp2_with fail
              go_roundg (gk - 1)
              case rel => exact ⟨x + 1, rfl, hxl, rfl, HB.out, HGI.out.1⟩
              case measure => exact Nat.sub_lt (HGI.out.2 hxl) Nat.one_pos
          · obtain rfl : x = v.size := by omega
            have HGD : Hid (Good (lst k, lst v)) := ⟨HK0.out, HIK.out, HTV.out, by
              have h1 := HVL.out
              rwa [List.take_of_length_le (by rw [lst_length]; exact Nat.le_refl _)] at h1⟩
            have CN := fun W => specCanon_any k W (by have := HSM.out; omega)
            have HRT : Hid (text.size ≤ 200000) := by have := HR.out.ts; have := HN100.out; have := HG.out; show _ ≤ _; omega
            have z0 : text.size ≤ 200000 := HRT.out
            have z1 : ¬ 9223372036854775807 < k.size + 2 := by omega
            have z2 : ¬ 9223372036854775807 < k.size + 2 + v.size := by omega
            have z3 : ¬ 9223372036854775807 < k.size + 2 + v.size + END.size := by omega
            have z4 : ¬ 9223372036854775807 < text.size + (k.size + 2 + v.size + END.size) := by omega
            clear HVL HGI hx hxl cc1 cc2
            go_wp2_with fail
            go_at_call 45
            (with_reducible refine (CN _).mono ?_)
            rintro e w2 ⟨rfl, hb2⟩
            have hT2 := Turned.of_below (S := []) hb2
            have hlen : (allOf (ps.map (fun f => (canon f.1, f.2)))).length = i := by rw [allOf_length _ _ rfl, List.length_map, HR.out.len]
            have INS := insert_any pa ca w.heap.size _ ⟨(canon (lst k)).toArray⟩ v w2 (ownsN_keep HR.out.own hT2) (allOf_sorted _ _ rfl) (by rw [hlen]; have := HN100.out; have := HG.out; omega)
            rw [lst_mk] at INS
            have HNX := Lib.hid (fun w' v' ht ho t2 h2 => HR.out.next (w' := w') (v' := v') HGD.out HSM.out (hT2.trans ht) ho (t2 := t2) h2)
            have HTX : Hid (lst (text ++ (k ++ ⟨#[58, 32]⟩ ++ v ++ END)) = lst text ++ (fldL (lst k, lst v) ++ endL crlf)) := by
              rw [lst_append, lst_append, lst_append, lst_append, HES.out.1]
              unfold fldL
              show _ = lst text ++ ((lst k ++ 58 :: 32 :: lst v) ++ endL crlf)
              rw [show lst (⟨#[58, 32]⟩ : ByteArray) = [58, 32] from rfl]
              simp
            have HSZW : Hid (w.heap.size ≤ w2.heap.size) := Nat.le_trans HTU.out.size hT2.size
            clear CN hb2 hT2 hlen
            go_wp2_with fail
            go_at_call 44
            refine INS.mono ?_
            rintro e w3 ⟨v', rfl, hT3, hO3⟩
            have HF := Lib.hid (HNX.out w3 v' hT3 (ownsN_mono hO3 HSZW.out) _ HTX.out)
            clear INS hT3 hO3 HNX HTX
            go_wp2_with fail
            go_roundg (G - 1)
            case rel => exact ⟨i + 1, _, _, by go_num, rfl, HG.out.2.2.1, HF.out, HG.out.1⟩
            case measure => have := HG.out; omega
      · obtain rfl : i = ks.length := by omega
        have d0 : ¬ (ks.length : Int) < (ks.length : Int) := by omega
        have hts : text.size ≤ 200000 := by have := HR.out.ts; have := HN100.out; omega
        have hz : ¬ 9223372036854775807 < text.size + END.size := by omega
        have HTL : Hid (lst (text ++ END) = hdrL crlf ps ++ endL crlf) := by show _ = _; rw [lst_append, HR.out.tx, HES.out.1]
        obtain ⟨N, hN⟩ : ∃ N, N = (text ++ END).size := ⟨_, rfl⟩
        have HNB : Hid (N ≤ 200002) := by show _ ≤ _; rw [hN, ByteArray.size_append]; omega
        have C8 := Lib.hid (conv8 wr (text ++ END) (by rw [← hN]; have := HNB.out; omega))
        have hconv := conv_str8 wr (text ++ END)
        have hT2 : Turned [] wr (Lib.bytesWorld wr 5 (text ++ END)) := turned_bytes _ _ _
        obtain ⟨g, hg0⟩ : ∃ g, g = wr.heap.size := ⟨_, rfl⟩
        obtain ⟨TL, hTL⟩ : ∃ x, x = lst (text ++ END) := ⟨_, rfl⟩
        have HNL : Hid (TL.length = N) := by show _ = _; rw [hTL, hN, lst_length]
        rw [← hTL] at HTL C8
        rw [← hN] at hconv C8
        generalize Lib.bytesWorld wr 5 (text ++ END) = w2 at *
        generalize grownCap wr N 0 5 = cap2 at *
        rw [← hg0] at hconv
        rw [← hg0] at C8
        have HT2 := Lib.hid hT2
        have HGG := Lib.hid hg0
        have HTU := Lib.hid hr.tu
        have HDT := Lib.hid (HD.out.keep (hr.tu.trans hT2))
        clear hg hi hT2 hg0 hN hTL hr
        go_wp2_with (at_builtin; refine wpList_append_conv rfl (.tmp 121) (.tmp 122) rfl g cap2 TL l (by rw [HNL.out]; rfl) C8.out p cap rfl HDT.out HCP.out (by have := HLN.out; have := HNB.out; have := HNL.out; omega) ?_; intro p' cap' w3 hda hT3; refine Hid.out ?_)
        refine Lib.hid ?_
        have hTr3 : Turned [] wr w3 := HT2.out.fresh hT3 (fun y hy => by rw [List.mem_singleton.1 hy, HGG.out]; exact Nat.le_refl _)
        have hT13 : Turned [] w w3 := HTU.out.trans hTr3
        have hdata : TL ++ l = hdrL crlf ps ++ (endL crlf ++ l) := by rw [HTL.out, List.append_assoc]
        have IH := implHdr_any p' (TL ++ l) cap' ae fe ue w3 hda (by rw [List.length_append]; have := HLN.out; have := HNB.out; have := HNL.out; omega) (HE.out.up hT13) (by rw [hdata]; exact hdr_head crlf l ps HR.out.good)
        have HIH := Lib.hid (show HG (TL ++ l) [] (ps.map (fun f => (canon f.1, f.2))) l by
          rw [hdata]
          exact hdr_written crlf l ps [] HR.out.good)
        rw [List.length_append] at IH
        have HT13 := Lib.hid hT13
        have HTR := Lib.hid hTr3
        clear hda hT3 hT13 hTr3 hdata
        go_wp2_with fail
        go_at_call 40
        (with_reducible refine IH.mono ?_)
        rintro e w4 ⟨all, lv, p2, nn, c2, b1, kd, rfl, hT4, hr4, hnn, hO4, hall4, hG, _⟩
        obtain ⟨rfl, rfl, hdr⟩ := hG _ _ HIH.out
        have HT4 : Hid (Turned [] w w4) := HT13.out.trans hT4
        have hlen : (allOf (ps.map (fun f => (canon f.1, f.2)))).length = ks.length := by rw [allOf_length _ _ rfl, List.length_map, HR.out.len]
        have LF := lawFields_any lv _ b1 w.heap.size _ w4 hO4 (ownsN_keep HR.out.own (HTR.out.trans hT4)) (by rw [hlen]; have := HN100.out; omega)
        rw [← hdr] at hr4 ⊢
        have cv1 := fun q => string_of_rowP (w := w4.drewN q) (rowP_new hr4 ((Turned.refl [] w4).drewN q)) c2
        have cv2 := fun q => string_of_rowP (w := w4.drewN q) (HD.out.keep (HT4.out.drewN q)).rowP cap
        clear IH hT4 hr4 hnn hO4 hall4 hG hdr hlen
        go_wp2_with fail
        go_at_call 41
        (with_reducible refine LF.mono ?_)
        rintro e w5 ⟨rfl, q5, rfl⟩
        have HT5 : Hid (Turned [] w (w4.drewN q5)) := HT4.out.drewN q5
        clear LF
        go_wp2_with fail
        go_ret
        exact ⟨ret_bool (by simp), HT5.out⟩
end Go.Proofs.YthobojpbdeepoaaDoor
