/-
  What load's steps leave of the queue, the bucket, the buffer on the stack. By the prover of seat b1537a.
-/
import Derived.Test.YbulkaeuqRun
import Derived.Lib.JoinLaws
namespace Go.Proofs.Ybulkaeuq
open Go.RowKit

/-- a write to the buffer -/
theorem MB.off {base bb Q W K : Nat} {mv : Int} {whole : Bool} {P : List (Int × Nat)} {w0 : World} {fs : List Nat} {cs : List (List Nat)} {t : List Nat} {vf vt : Value} {sp : Option Addr} {m c : Nat} {X : List (Int × Nat)} {w w' : World}
    (h : MB base bb Q W K mv whole P w0 fs cs t vf vt sp m c X w) {x mm : Nat} (F : Frm w w' (fun k _ => k = x)) (hx : w.shape? x = some (96, mm)) (hlo : base ≤ x) :
    MB base bb Q W K mv whole P w0 fs cs t vf vt sp m c X w' := by
  have xQ : Q ≠ x := shape_ne h.qs.shQ hx (by simp)
  have xW : W ≠ x := shape_ne h.qs.shW hx (by simp)
  have xK : K ≠ x := shape_ne h.bk.sh hx (by simp)
  have lQ := h.qs.ltQ
  have lW := h.qs.ltW
  have nx : ∀ {p : Nat} {wh : Int}, Nd w p wh → p ≠ x := fun hp => shape_ne hp.shp hx (by simp)
  obtain ⟨v, es, q1, q2⟩ := h.hq
  refine ⟨⟨(F.cell Q 0 lQ xQ).trans h.qs.q0, (F.cell Q 73 lQ xQ).trans h.qs.q73, (F.shp Q lQ ⟨0, xQ⟩).trans h.qs.shQ, fun o => (F.frz Q o lQ ⟨0, xQ⟩).trans (h.qs.fzQ o), (F.cell W 0 lW xW).trans h.qs.wc, (F.shp W lW ⟨0, xW⟩).trans h.qs.shW, h.qs.hQ, h.qs.hK, h.qs.Qb, h.qs.Wb, Nat.le_trans h.qs.bbl F.size⟩,
    (F.cell Q 74 lQ xQ).trans h.q74, (F.cell Q 75 lQ xQ).trans h.q75, h.bk.same F (fun _ => xK) ?_, h.ns, h.ft, ⟨v, es, q1.frm F xQ ?_ ?_, q2⟩, fun i hi => (h.nd i hi).frm F (nx (h.nd i hi)), fun i hi hl => (F.cell _ _ (h.nd i hl).lt (nx (h.nd i hl))).trans (h.pos i hi hl), ?_, h.nod, h.lo, h.hX⟩
  · rintro k o mk _ hs e'
    rw [e', hx] at hs
    simp at hs
  · intro k hk o e'
    obtain ⟨m', hm'⟩ := shape_of_own q1.hv.own hk
    rw [e', hx] at hm'; simp at hm'
  · intro k t' hk o
    obtain ⟨i, hi, hie⟩ := List.getElem_of_mem hk
    have n1 := (q1.np i hi).1
    rw [← nn_get es i hi, hie] at n1
    exact nx n1
  · refine h.bel.trans (F.below _ (by have := h.qs.hQ; have := h.qs.Qb; have := h.qs.bbl; omega) ?_)
    intro k o hk e'; omega

/-- the cells that load turns behind inOrder, of those that were there -/
def RS (Q : Nat) (P : List (Int × Nat)) (k o : Nat) : Prop := (k = Q ∧ 3 ≤ o ∧ o ≤ 7) ∨ (o = 2 ∧ ∃ i, i < P.length ∧ k = nn P i)

theorem MB.run {base bb Q W K : Nat} {mv : Int} {whole : Bool} {P : List (Int × Nat)} {w0 : World} {fs : List Nat} {cs : List (List Nat)} {t : List Nat} {vf vt : Value} {sp : Option Addr} {m : Nat} {w w' : World}
    (h : MB base bb Q W K mv whole P w0 fs cs t vf vt sp m 0 [] w) (F : Frm w w' (RS Q P)) : MB base bb Q W K mv whole P w0 fs cs t vf vt sp m 0 [] w' := by
  have lQ := h.qs.ltQ
  have lW := h.qs.ltW
  have nq : ∀ {k e n : Nat}, w.shape? k = some (e, n) → e ≠ 30 → k ≠ Q → ∀ o, ¬ RS Q P k o := by
    rintro k e n hs he hk o (⟨e1, _⟩ | ⟨_, i, hi, e1⟩)
    · exact hk e1
    · have := (h.nd i hi).shp
      rw [← e1, hs] at this
      simp at this
      exact he this.1
  have nQ : ∀ o, o < 3 ∨ 7 < o → ¬ RS Q P Q o := by
    rintro o ho (⟨_, h1, h2⟩ | ⟨_, i, hi, e1⟩)
    · omega
    · exact shape_ne h.qs.shQ (h.nd i hi).shp (by decide) e1
  have QW : W ≠ Q := shape_ne h.qs.shW h.qs.shQ (by decide)
  have QK : K ≠ Q := shape_ne h.bk.sh h.qs.shQ (by decide)
  have nW := nq h.qs.shW (by decide) QW
  have nK := nq h.bk.sh (by decide) QK
  obtain ⟨v, es, q1, q2⟩ := h.hq
  obtain rfl : es = [] := List.eq_nil_of_length_eq_zero q2.length_eq
  refine ⟨⟨(F.cell Q 0 lQ (nQ 0 (by omega))).trans h.qs.q0, (F.cell Q 73 lQ (nQ 73 (by omega))).trans h.qs.q73, (F.shp Q lQ ⟨0, nQ 0 (by omega)⟩).trans h.qs.shQ, fun o => (F.frz Q o lQ ⟨0, nQ 0 (by omega)⟩).trans (h.qs.fzQ o), (F.cell W 0 lW (nW 0)).trans h.qs.wc, (F.shp W lW ⟨0, nW 0⟩).trans h.qs.shW, h.qs.hQ, h.qs.hK, h.qs.Qb, h.qs.Wb, Nat.le_trans h.qs.bbl F.size⟩,
    (F.cell Q 74 lQ (nQ 74 (by omega))).trans h.q74, (F.cell Q 75 lQ (nQ 75 (by omega))).trans h.q75, h.bk.same F nK ?_, h.ns, h.ft, ⟨v, [], q1.frm F (nQ 2 (by omega)) ?_ ?_, q2⟩, ?_, ?_, ?_, h.nod, h.lo, h.hX⟩
  · intro k o mk hb hs
    have hkQ : k ≠ Q := by have := h.qs.Qb; omega
    rcases hs with hs | hs
    · exact nq hs (by decide) hkQ o
    · exact nq hs (by decide) hkQ o
  · intro k hk o
    obtain ⟨m', hm'⟩ := shape_of_own q1.hv.own hk
    exact nq hm' (by decide) (shape_ne hm' h.qs.shQ (by simp)) o
  · intro k t' hk; simp at hk
  · intro i hi
    refine (h.nd i hi).frm F ?_
    rintro (⟨e1, _⟩ | ⟨e1, _⟩)
    · exact shape_ne (h.nd i hi).shp h.qs.shQ (by decide) e1
    · omega
  · intro i hi; omega
  · refine h.bel.trans (F.below _ (by have := h.qs.hQ; have := h.qs.Qb; have := h.qs.bbl; omega) ?_)
    rintro k o hk (⟨e1, _⟩ | ⟨_, i, hi, e1⟩)
    · have := h.qs.hQ; omega
    · have := h.lo i hi; omega

/-- the buffer on the stack, T its first nodes -/
structure Buf (B : Nat) (T : List Nat) (w : World) : Prop where
  shp : w.shape? B = some (96, 256)
  frz : ∀ o, w.frozen? ⟨B, o, none⟩ = false
  row : NRow w B T

theorem Buf.bs {B bb K : Nat} {T : List Nat} {w w' : World} (h : Buf B T w) (hK : w.shape? K = some (75, 192)) (F : Frm w w' (BS w bb K)) : Buf B T w' := by
  have nB : ∀ o, ¬ BS w bb K B o := by
    rintro o (⟨e, _⟩ | ⟨_, m, e | e⟩)
    · exact shape_ne h.shp hK (by decide) e
    · rw [h.shp] at e; simp at e
    · rw [h.shp] at e; simp at e
  have lt := lt_of_shape h.shp
  exact ⟨(F.shp B lt ⟨0, nB 0⟩).trans h.shp, fun o => (F.frz B o lt ⟨0, nB 0⟩).trans (h.frz o), Nat.lt_of_lt_of_le lt F.size, fun j hj => ⟨(F.cell B j lt (nB j)).trans (h.row.2 j hj).1, (F.frz B j lt ⟨0, nB 0⟩).trans (h.row.2 j hj).2⟩⟩

theorem Buf.drewN {B : Nat} {T : List Nat} {w : World} (h : Buf B T w) (n : Nat) : Buf B T (w.drewN n) := ⟨h.shp, h.frz, h.row⟩

theorem shape?_setCells (b k : Nat) : ∀ (vs : List Value) (o : Nat) (w : World), (w.setCells b o vs).shape? k = w.shape? k
  | [], _, _ => rfl
  | v :: vs, o, w => by rw [World.setCells, shape?_setCells b k vs (o + 1) _, shape?_setCell]

theorem size_setCells' (b : Nat) : ∀ (vs : List Value) (o : Nat) (w : World), (w.setCells b o vs).heap.size = w.heap.size
  | [], _, _ => rfl
  | v :: vs, o, w => by rw [World.setCells, size_setCells' b vs (o + 1) _]; simp

theorem frm_setCells (b : Nat) : ∀ (vs : List Value) (o : Nat) (w : World), Frm w (w.setCells b o vs) (fun k _ => k = b)
  | [], _, w => Frm.refl w _
  | v :: vs, o, w => (Frm.setCell w b o v (fun k _ => k = b) rfl).trans (frm_setCells b vs (o + 1) _)

theorem Buf.append {B : Nat} {T : List Nat} {w : World} (h : Buf B T w) (ns : List Nat) (hl : T.length + ns.length ≤ 256) : Buf B (T ++ ns) (w.setCells B (0 + T.length) (ptrs ns)) := by
  have some' : ∀ j, j < (ptrs ns).length → (w.cell? ⟨B, 0 + T.length + j, none⟩).isSome = true := by
    intro j hj
    rw [ptrs_length] at hj
    obtain ⟨v, hv⟩ := cell_of_shape h.shp (0 + T.length + j) (by omega)
    rw [hv]; rfl
  refine ⟨(shape?_setCells _ _ _ _ _).trans h.shp, fun o => (World.frozen?_setCells _ _ _ _ _).trans (h.frz o), by rw [size_setCells']; exact h.row.1, ?_⟩
  intro j hj
  refine ⟨?_, (World.frozen?_setCells _ _ _ _ _).trans (h.frz j)⟩
  by_cases hjT : j < T.length
  · rw [World.cell?_setCells_out B _ _ _ _ (fun _ _ => Or.inl (by simp only; omega)), (h.row.2 j hjT).1]
    simp [List.getElem?_append_left hjT]
  · obtain ⟨d, rfl⟩ : ∃ d, j = 0 + T.length + d := ⟨j - T.length, by omega⟩
    have hd : d < ns.length := by simp at hj; omega
    rw [World.cell?_setCells_in B _ _ _ some' d (by rw [ptrs_length]; exact hd)]
    simp [ptrs, pe, hd]

theorem KP.off {bb K x : Nat} {w w1 w2 : World} (h : KP bb K w w1) (F : Frm w1 w2 (fun k _ => k = x)) (hx : bb ≤ x) : KP bb K w w2 := h.step F (fun k t m hk _ _ _ o e => by omega)
theorem KP.run {bb K Q : Nat} {P : List (Int × Nat)} {w w1 w2 : World} (h : KP bb K w w1) (hQ : w1.shape? Q = some (56, 76)) (hn : ∀ i, i < P.length → Nd w1 (nn P i) (wn P i)) (F : Frm w1 w2 (RS Q P)) : KP bb K w w2 := h.step F (by
  rintro k t m _ _ hs ht o (⟨e, _⟩ | ⟨_, i, hi, e⟩)
  · rw [e, hQ] at hs
    rcases ht with rfl | rfl
    · simp at hs
    · simp at hs
  · rw [e, (hn i hi).shp] at hs
    rcases ht with rfl | rfl
    · simp at hs
    · simp at hs)

/-- the deadline of the node at p -/
def key (P : List (Int × Nat)) (p : Nat) : Int := ((P.find? fun e => e.2 == p).map (·.1)).getD 0

theorem key_nn {P : List (Int × Nat)} (hd : (P.map (·.2)).Nodup) {i : Nat} (hi : i < P.length) : key P (nn P i) = wn P i := by
  have hm : P[i] ∈ P := List.getElem_mem hi
  have h1 : nn P i = P[i].2 := (nn_get P i hi).symm
  have h2 : wn P i = P[i].1 := by simp [wn, hi]
  rw [h1, h2]
  unfold key
  cases hf : P.find? fun e => e.2 == P[i].2 with
  | none =>
    rw [List.find?_eq_none] at hf
    have := hf _ hm
    simp at this
  | some e =>
    have h3 := List.find?_some hf
    have h4 := List.mem_of_find?_eq_some hf
    simp at h3
    obtain ⟨j, hj, rfl⟩ := List.getElem_of_mem h4
    have : j = i := by
      by_cases e : j = i
      · exact e
      · exact absurd h3 (by have := nn_ne hd hj hi e; rwa [← nn_get P j hj, ← nn_get P i hi] at this)
    subst this
    rfl
end Go.Proofs.Ybulkaeuq
