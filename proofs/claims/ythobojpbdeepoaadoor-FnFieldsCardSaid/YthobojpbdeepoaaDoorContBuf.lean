/-
  The textproto.Reader with its buffer; 'append' at a step of a region that draws its order, nothing asked of how much is appended.
-/
import Derived.Test.YthobojpbdeepoaaDoorContLaw
import Derived.Test.YthobojpbdeepoaaDoorSkip
import Derived.Deep.RegionHeld3
namespace Go.Proofs.YthobojpbdeepoaaDoor
open Go.RowKit

/-- A textproto.Reader at T without an open block; its buffer is v, which owns xs; what is from base on is no block of the reader's. -/
structure Tb (w : World) (k : RK) (T base : Nat) (v : Value) (xs : List UInt8) : Prop where
  kt : k.K ≤ T
  off : Off k T
  lt : T < base
  bb : k.B < base
  cb : k.C < base
  yb : k.Y < base
  new : ∀ x, base ≤ x → Off k x
  size : base ≤ w.heap.size
  blk : Blk w T 129 #[.pointer (some ⟨k.B, 0, none⟩), .pointer none, v]
  own : w.ownsRow base 5 1 v xs.length (by8 xs)

theorem own_ge {w1 : World} {base n g : Nat} {e : TypeId} {v : Value} {xs : List Value} (h : w1.ownsRow base e 1 v n xs) (hg : v.ownBlock = some g) : base ≤ g ∧ g < w1.heap.size := by
  rcases h.2 with ⟨rfl, _⟩ | ⟨g', cap, cur, rfl, hb, hh, _⟩
  · cases hg
  · have : g' = g := by simpa [Value.ownBlock] using hg
    subst this
    refine ⟨hb, ?_⟩
    rcases Nat.lt_or_ge g' w1.heap.size with hlt | hge
    · exact hlt
    · rw [Array.getElem?_eq_none hge] at hh; cases hh
theorem own_keepT {wr w1 : World} {S : List Nat} {base n : Nat} {e : TypeId} {v : Value} {xs : List Value} (h : wr.ownsRow base e 1 v n xs) (hT : Turned S wr w1) (hS : ∀ x, x ∈ S → some x ≠ v.ownBlock) : w1.ownsRow base e 1 v n xs := by
  refine ⟨h.1, ?_⟩
  rcases h.2 with h0 | ⟨g, cap, cur, hv, hb, hg, h1⟩
  · exact .inl h0
  · refine .inr ⟨g, cap, cur, hv, hb, (hT.block g ?_ (fun hx => hS g hx (by rw [hv]; rfl))).trans hg, h1⟩
    rcases Nat.lt_or_ge g wr.heap.size with hlt | hge
    · exact hlt
    · rw [Array.getElem?_eq_none hge] at hg; cases hg
/-- The slice cut to nothing. -/
theorem own_zero {w : World} {base n : Nat} {e : TypeId} {v : Value} {xs : List Value} (h : w.ownsRow base e 1 v n xs) : ∃ p cap, v = .slice p n cap ∧ n ≤ cap ∧ w.ownsRow base e 1 (.slice p 0 cap) 0 [] ∧ Value.ownBlock (.slice p 0 cap) = v.ownBlock := by
  rcases h.2 with ⟨rfl, rfl⟩ | ⟨g, cap, cur, rfl, hb, hg, hc, hm, hs, _⟩
  · exact ⟨none, 0, rfl, Nat.le_refl _, ⟨rfl, .inl ⟨rfl, rfl⟩⟩, rfl⟩
  · exact ⟨_, cap, rfl, hc, ⟨rfl, .inr ⟨g, cap, cur, rfl, hb, hg, Nat.zero_le _, hm, hs, by simp⟩⟩, rfl⟩

section
variable {w w1 w2 w' : World} {k : RK} {s : RS} {T base : Nat} {v v' : Value} {xs xs' : List UInt8}
theorem Tb.tp (h : Tb w k T base v xs) : Tp w k T := ⟨h.kt, h.off, v, h.blk⟩
theorem Tb.nt (h : Tb w k T base v xs) (hR : Rd w k s) : T ∉ k.blocks := by
  have hb := h.blk
  simp [RK.blocks]
  exact ⟨hb.ne_ hR.bb (by decide), hb.ne_ hR.cb (by decide), hb.ne_ hR.yb (by decide)⟩
theorem Tb.keepS {S : List Nat} (h : Tb w k T base v xs) (ht : Turned S w w') (h1 : T ∉ S) (h2 : ∀ x, x ∈ S → some x ≠ v.ownBlock) : Tb w' k T base v xs :=
  ⟨h.kt, h.off, h.lt, h.bb, h.cb, h.yb, h.new, Nat.le_trans h.size ht.size, ht.blk h.blk h1, own_keepT h.own ht h2⟩
theorem Tb.keep (h : Tb w k T base v xs) (hR : Rd w k s) (ht : Turned k.blocks w w') : Tb w' k T base v xs :=
  h.keepS ht (h.nt hR) (fun x hx => own_ne h.own x (by
    have h1 := h.bb
    have h2 := h.cb
    have h3 := h.yb
    simp [RK.blocks] at hx
    omega))
theorem Tb.keepNew (h : Tb w k T base v xs) (ht : Turned [] w w') : Tb w' k T base v xs := h.keepS ht (by simp) (by simp)
theorem Tb.drewN (h : Tb w k T base v xs) (n : Nat) : Tb (w.drewN n) k T base v xs := h.keepNew ((Turned.refl _ _).drewN n)
theorem Tb.cells (h : Tb w k T base v xs) : w.cell? ⟨T, 0, none⟩ = some (.pointer (some ⟨k.B, 0, none⟩)) ∧ w.cell? ⟨T, 2, none⟩ = some v ∧ w.frozen? ⟨T, 2, none⟩ = false := by
  refine ⟨?_, ?_, h.blk.frozen 2⟩
  · rw [h.blk.cell]; rfl
  · rw [h.blk.cell]; rfl
/-- The buffer is set anew: behind an append onto it. -/
theorem Tb.put {row : Option Nat} (h : Tb w k T base v xs) (hR : Rd w k s) (hA : Turned [] w w1) (hrow : row = v.ownBlock) (hg : w1.grownBy w2 row) (ho : w2.ownsRow base 5 1 v' xs'.length (by8 xs')) :
    Rd (w2.setCell ⟨T, 2, none⟩ v') k s ∧ Tb (w2.setCell ⟨T, 2, none⟩ v') k T base v' xs' ∧ Turned (T :: v.ownBlock.toList) w (w2.setCell ⟨T, 2, none⟩ v') := by
  subst hrow
  have h1 : Turned v.ownBlock.toList w w2 := (hA.mono (by simp)).grown hg (fun x hx => .inl (by simp [hx]))
  have h2 : Turned (T :: v.ownBlock.toList) w (w2.setCell ⟨T, 2, none⟩ v') := (h1.mono (fun x hx => by simp at hx ⊢; exact .inr hx)).setCell (.inl (by simp)) v'
  have hge : ∀ x, x ∈ v.ownBlock.toList → base ≤ x := fun x hx => (own_ge h.own (by simpa using hx)).1
  have hnt := h.nt hR
  simp [RK.blocks] at hnt
  have hlt := h.lt
  have hbb := h.bb
  have hcb := h.cb
  have hyb := h.yb
  have hkt := h.kt
  have hTv : T ∉ v.ownBlock.toList := fun hx => by have := hge T hx; omega
  refine ⟨hR.keepOff h2 ?_ ?_ ?_ ?_, ⟨h.kt, h.off, h.lt, h.bb, h.cb, h.yb, h.new, Nat.le_trans h.size h2.size, ?_, ?_⟩, h2⟩
  · intro hx
    rcases List.mem_cons.1 hx with hx | hx
    · exact hnt.1 hx.symm
    · have := hge _ hx; omega
  · intro hx
    rcases List.mem_cons.1 hx with hx | hx
    · exact hnt.2.1 hx.symm
    · have := hge _ hx; omega
  · intro hx
    rcases List.mem_cons.1 hx with hx | hx
    · exact hnt.2.2 hx.symm
    · have := hge _ hx; omega
  · intro x hx
    rcases List.mem_cons.1 hx with rfl | hx
    · exact ⟨h.kt, h.off⟩
    · have h3 := hge _ hx
      exact ⟨by omega, h.new x h3⟩
  · simpa using (h1.blk h.blk hTv).set_ 2 v'
  · exact own_keepT ho ((Turned.refl [T] w2).setCell (.inl (by simp)) v') (fun x hx => by
      simp at hx
      subst hx
      exact own_ne ho x hlt)
end

section
variable {P : Program} (w : World)
theorem step_append_at {ops : Array Oper} {o : Oper} {a : Act} {K : Act → World → Prop} {Q : Exit → Act → World → Prop} {E : Prop} (hgd : o.guard = none) (s x : Operand) (t : TypeId)
    (ho : o.op = .call { callee := .builtin .append, args := #[s, x], argTypes := #[t, t] })
    (base : Nat) (e : TypeId) (i : TypeInfo) (z : Value) (size bytes : Nat) (ht : P.underlying t = some (.slice e)) (hi : P.info? e = some i) (hz : i.zero = some z)
    (hsize : i.size = size) (hby : i.bytes = bytes) (hzs : z.cells.size = size) (hsz : 0 < size)
    (v : Value) (n : Nat) (xs : List Value) (hs : a.eval s = v) (hown : w.ownsRow base e size v n xs)
    (ad : Addr) (m c : Nat) (news : List Value) (hx : a.eval x = .slice (some ad) m c) (hl : news.length = m * size) (hnews : ∀ j u, news[j]? = some u → w.cell? (ad.add j) = some u) (h1 : ∀ u ∈ news, u.oneCell' = true)
    (h63 : n + m ≤ maxLen) (hbytes : (n + m) * bytes ≤ 140737488355328) (hbase : base ≤ w.heap.size)
    (h : ∀ v' w', w'.ownsRow base e size v' (n + m) (xs ++ news) → w.grownBy w' v.ownBlock → (v'.ownBlock = v.ownBlock ∨ v'.ownBlock = some w.heap.size) → K (a.put o.dst v') w') :
    if Region.wanted o (yielded ops a.tmps) = true then Oper.wp P o a w K Q else E := by
  have hw : Region.wanted o (yielded ops a.tmps) = true := by simp [Region.wanted, hgd]
  rw [if_pos hw]
  obtain ⟨v', w', hr, h2, h3, _, h5⟩ := run_append_own_at (P := P) w base t o.type e i z size bytes ht hi hz hsize hby hzs hsz v n xs hown ad m c news hl hnews h1 h63 hbytes hbase
  unfold Oper.wp execOp
  simp only [ho, resolve, invoke, builtin, Sem.run_bind, Sem.run_pure, Result.andThen_ok, List.map_toArray, List.map_cons, List.map_nil, hs, hx, hr]
  exact h v' w' h2 h3 h5
end
end Go.Proofs.YthobojpbdeepoaaDoor
