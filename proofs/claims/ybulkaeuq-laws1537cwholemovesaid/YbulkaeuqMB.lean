/-
  The queue, its wheel's first bucket and its heap together ('MB'), while move moves nodes. By the prover of seat b1537a.
-/
import Derived.Test.YbulkaeuqPut
namespace Go.Proofs.Ybulkaeuq
open Go.RowKit

/-- the queue's block, the wheel's, the bucket's -/
structure QS (base bb Q W K : Nat) (w : World) : Prop where
  q0 : w.cell? ⟨Q, 0, none⟩ = some (.int .i64 0)
  q73 : w.cell? ⟨Q, 73, none⟩ = some (.pointer (some ⟨W, 0, none⟩))
  shQ : w.shape? Q = some (56, 76)
  fzQ : ∀ o, w.frozen? ⟨Q, o, none⟩ = false
  wc : w.cell? ⟨W, 0, none⟩ = some (.pointer (some ⟨K, 0, none⟩))
  shW : w.shape? W = some (70, 20)
  hQ : base ≤ Q
  hK : base ≤ K
  Qb : Q < bb
  Wb : W < bb
  bbl : bb ≤ w.heap.size

structure MB (base bb Q W K : Nat) (mv : Int) (whole : Bool) (P : List (Int × Nat)) (w0 : World) (fs : List Nat) (cs : List (List Nat)) (t : List Nat) (vf vt : Value) (sp : Option Addr) (m c : Nat) (X : List (Int × Nat)) (w : World) : Prop where
  qs : QS base bb Q W K w
  q74 : w.cell? ⟨Q, 74, none⟩ = some (.int .i64 mv)
  q75 : w.cell? ⟨Q, 75, none⟩ = some (.bool whole)
  bk : Bk w bb K fs cs t vf vt sp
  ns : cs.flatten ++ t = (P.take m).map (·.2)
  ft : fs ≠ [] → t ≠ []
  hq : ∃ v es, HQ base Q 2 v es (fun _ => False) w ∧ es.Perm X
  nd : ∀ i, i < P.length → Nd w (nn P i) (wn P i)
  pos : ∀ i, i < c → i < P.length → w.cell? ⟨nn P i, 2, none⟩ = some (.int .i64 ((i : Int) * 1024 + 4))
  bel : Below base w0 w
  nod : (P.map (·.2)).Nodup
  lo : ∀ i, i < P.length → base ≤ nn P i
  hX : ∀ e ∈ X, ∃ j, c ≤ j ∧ j < P.length ∧ e = (wn P j, nn P j)

theorem shape_ne {w : World} {a b : Nat} {s t : TypeId × Nat} (h1 : w.shape? a = some s) (h2 : w.shape? b = some t) (h : s ≠ t) : a ≠ b := fun e => by rw [e, h2] at h1; exact h (by simpa using h1.symm)

theorem QS.ltQ {base bb Q W K : Nat} {w : World} (h : QS base bb Q W K w) : Q < w.heap.size := lt_of_shape h.shQ
theorem QS.ltW {base bb Q W K : Nat} {w : World} (h : QS base bb Q W K w) : W < w.heap.size := lt_of_shape h.shW

/-- a bucket's method leaves the queue's and the wheel's blocks alone -/
theorem QS.notB {base bb Q W K : Nat} {w : World} (h : QS base bb Q W K w) (hK : w.shape? K = some (75, 192)) (o : Nat) : ¬ BS w bb K Q o ∧ ¬ BS w bb K W o := by
  have h1 : Q ≠ K := shape_ne h.shQ hK (by decide)
  have h2 : W ≠ K := shape_ne h.shW hK (by decide)
  have := h.Qb
  have := h.Wb
  refine ⟨?_, ?_⟩
  · rintro (⟨e, _⟩ | ⟨e, _⟩)
    · exact h1 e
    · omega
  · rintro (⟨e, _⟩ | ⟨e, _⟩)
    · exact h2 e
    · omega

theorem QS.frmB {base bb Q W K : Nat} {w w' : World} (h : QS base bb Q W K w) (hK : w.shape? K = some (75, 192)) (F : Frm w w' (BS w bb K)) : QS base bb Q W K w' :=
  ⟨(F.cell Q 0 h.ltQ (h.notB hK 0).1).trans h.q0, (F.cell Q 73 h.ltQ (h.notB hK 73).1).trans h.q73, (F.shp Q h.ltQ ⟨0, (h.notB hK 0).1⟩).trans h.shQ, fun o => (F.frz Q o h.ltQ ⟨0, (h.notB hK 0).1⟩).trans (h.fzQ o),
   (F.cell W 0 h.ltW (h.notB hK 0).2).trans h.wc, (F.shp W h.ltW ⟨0, (h.notB hK 0).2⟩).trans h.shW, h.hQ, h.hK, h.Qb, h.Wb, Nat.le_trans h.bbl F.size⟩

/-- a node is none of the bucket's cells -/
theorem Nd.notB {w : World} {bb K p : Nat} {wh : Int} (hp : Nd w p wh) (hK : w.shape? K = some (75, 192)) (o : Nat) : ¬ BS w bb K p o := by
  rintro (⟨e, _⟩ | ⟨_, m, h | h⟩)
  · exact shape_ne hp.shp hK (by decide) e
  · rw [hp.shp] at h; simp at h
  · rw [hp.shp] at h; simp at h

theorem HQ.frmB {base Q bb K : Nat} {v : Value} {es : List (Int × Nat)} {x : Nat → Prop} {w w' : World} (h : HQ base Q 2 v es x w) (hK : w.shape? K = some (75, 192)) (hQ : ∀ o, ¬ BS w bb K Q o) (F : Frm w w' (BS w bb K)) : HQ base Q 2 v es x w' := by
  refine h.frm F (hQ 2) ?_ ?_
  · intro k hk o
    obtain ⟨m, hm⟩ := shape_of_own h.hv.own hk
    rintro (⟨e, _⟩ | ⟨_, m', h' | h'⟩)
    · rw [e, hK] at hm; simp at hm
    · rw [hm] at h'; simp at h'
    · rw [hm] at h'; simp at h'
  · intro k t hk o
    obtain ⟨i, hi, he⟩ := List.getElem_of_mem hk
    have n1 := (h.np i hi).1
    rw [← nn_get es i hi, he] at n1
    exact n1.notB hK o

/-- behind a method of the bucket's -/
theorem MB.frmB {base bb Q W K : Nat} {mv : Int} {whole : Bool} {P : List (Int × Nat)} {w0 : World} {fs : List Nat} {cs : List (List Nat)} {t : List Nat} {vf vt : Value} {sp : Option Addr} {m c : Nat} {X : List (Int × Nat)} {w w' : World}
    (h : MB base bb Q W K mv whole P w0 fs cs t vf vt sp m c X w) (F : Frm w w' (BS w bb K)) {fs' : List Nat} {cs' : List (List Nat)} {t' : List Nat} {vf' vt' : Value} {sp' : Option Addr} {m' : Nat} (bk : Bk w' bb K fs' cs' t' vf' vt' sp')
    (ns : cs'.flatten ++ t' = (P.take m').map (·.2)) (ft : fs' ≠ [] → t' ≠ []) : MB base bb Q W K mv whole P w0 fs' cs' t' vf' vt' sp' m' c X w' := by
  have hK := h.bk.sh
  have nQ := fun o => (h.qs.notB hK o).1
  obtain ⟨v, es, q1, q2⟩ := h.hq
  refine ⟨h.qs.frmB hK F, (F.cell Q 74 h.qs.ltQ (nQ 74)).trans h.q74, (F.cell Q 75 h.qs.ltQ (nQ 75)).trans h.q75, bk, ns, ft, ⟨v, es, q1.frmB hK nQ F, q2⟩, ?_, ?_, ?_, h.nod, h.lo, h.hX⟩
  · intro i hi
    exact (h.nd i hi).frm F ((h.nd i hi).notB hK 0)
  · intro i hi hl
    exact (F.cell _ _ (h.nd i hl).lt ((h.nd i hl).notB hK 2)).trans (h.pos i hi hl)
  · refine h.bel.trans (F.below _ (by have := h.qs.hQ; have := h.qs.Qb; have := h.qs.bbl; omega) ?_)
    rintro k o hk (⟨e, _⟩ | ⟨e, _⟩)
    · have := h.qs.hK; omega
    · have := h.qs.hQ; have := h.qs.Qb; omega


/-- a push leaves blocks of other kinds alone -/
theorem PS.other {base Q : Nat} {v : Value} {es : List (Int × Nat)} {x : Nat → Prop} {w : World} (q : HQ base Q 2 v es x w) {p : Nat} {wh : Int} (hp : Nd w p wh) {k e n : Nat} (hk : w.shape? k = some (e, n)) (h1 : e ≠ 32) (h2 : e ≠ 30) (hQ : k ≠ Q) (o : Nat) : ¬ PS Q 2 v (es ++ [(wh, p)]) k o := by
  rintro (⟨h, _⟩ | h | ⟨_, t, h⟩)
  · exact hQ h
  · obtain ⟨m, hm⟩ := shape_of_own q.hv.own h.symm
    rw [hk] at hm; simp at hm; exact h1 hm.1
  · rw [List.mem_append] at h
    rcases h with h | h
    · obtain ⟨i, hi, he⟩ := List.getElem_of_mem h
      have n1 := (q.np i hi).1.shp
      rw [← nn_get es i hi, he, hk] at n1
      simp at n1; exact h2 n1.1
    · simp at h
      have := hp.shp
      rw [← h.2, hk] at this
      simp at this; exact h2 this.1

/-- .. and of the queue's own block all but the heap's header -/
theorem PS.queue {base Q : Nat} {v : Value} {es : List (Int × Nat)} {x : Nat → Prop} {w : World} (q : HQ base Q 2 v es x w) {p : Nat} {wh : Int} {o : Nat} (ho : o ≠ 2) : ¬ PS Q 2 v (es ++ [(wh, p)]) Q o := by
  rintro (⟨_, h⟩ | h | ⟨h, _⟩)
  · exact ho h
  · exact q.hv.notB h
  · exact ho h

theorem MB.put {base bb Q W K : Nat} {mv : Int} {whole : Bool} {P : List (Int × Nat)} {w0 : World} {fs : List Nat} {cs : List (List Nat)} {t : List Nat} {vf vt : Value} {sp : Option Addr} {m c : Nat} {X : List (Int × Nat)} {w w' : World}
    (h : MB base bb Q W K mv whole P w0 fs cs t vf vt sp m c X w) {i : Nat} (hi : i < P.length) (hci : c ≤ i) {v v' : Value} {es es' : List (Int × Nat)} (q1 : HQ base Q 2 v es (fun _ => False) w) (q2 : es.Perm X)
    (p1 : es'.Perm (es ++ [(wn P i, nn P i)])) (p2 : HQ base Q 2 v' es' (fun _ => False) w') (F : Frm w w' (PS Q 2 v (es ++ [(wn P i, nn P i)]))) :
    MB base bb Q W K mv whole P w0 fs cs t vf vt sp m c (X ++ [(wn P i, nn P i)]) w' := by
  have hp := h.nd i hi
  have sK := h.bk.sh
  have QK : K ≠ Q := shape_ne sK h.qs.shQ (by decide)
  have QW : W ≠ Q := shape_ne h.qs.shW h.qs.shQ (by decide)
  have nW := PS.other q1 hp h.qs.shW (by decide) (by decide) QW
  have nK := PS.other q1 hp sK (by decide) (by decide) QK
  have nQ : ∀ o, o ≠ 2 → ¬ PS Q 2 v (es ++ [(wn P i, nn P i)]) Q o := fun o ho => PS.queue q1 ho
  have lQ := h.qs.ltQ
  have lW := h.qs.ltW
  have hX' : ∀ e ∈ X ++ [(wn P i, nn P i)], ∃ j, c ≤ j ∧ j < P.length ∧ e = (wn P j, nn P j) := by
    intro e he
    rw [List.mem_append] at he
    rcases he with he | he
    · exact h.hX e he
    · simp at he; exact ⟨i, hci, hi, he⟩
  refine ⟨⟨(F.cell Q 0 lQ (nQ 0 (by omega))).trans h.qs.q0, (F.cell Q 73 lQ (nQ 73 (by omega))).trans h.qs.q73, (F.shp Q lQ ⟨0, nQ 0 (by omega)⟩).trans h.qs.shQ, fun o => (F.frz Q o lQ ⟨0, nQ 0 (by omega)⟩).trans (h.qs.fzQ o), (F.cell W 0 lW (nW 0)).trans h.qs.wc, (F.shp W lW ⟨0, nW 0⟩).trans h.qs.shW, h.qs.hQ, h.qs.hK, h.qs.Qb, h.qs.Wb, Nat.le_trans h.qs.bbl F.size⟩,
    (F.cell Q 74 lQ (nQ 74 (by omega))).trans h.q74, (F.cell Q 75 lQ (nQ 75 (by omega))).trans h.q75, h.bk.same F nK ?_, h.ns, h.ft, ⟨v', es', p2, p1.trans (q2.append_right _)⟩, ?_, ?_, ?_, h.nod, h.lo, hX'⟩
  · intro k o mk _ hs
    rcases hs with hs | hs
    · exact PS.other q1 hp hs (by decide) (by decide) (shape_ne hs h.qs.shQ (by simp)) o
    · exact PS.other q1 hp hs (by decide) (by decide) (shape_ne hs h.qs.shQ (by simp)) o
  · intro j hj
    exact (h.nd j hj).frm F (PS.nd q1 (h.nd j hj) _)
  · intro j hj hl
    refine (F.cell _ _ (h.nd j hl).lt ?_).trans (h.pos j hj hl)
    rintro (⟨e, _⟩ | e | ⟨_, t', e⟩)
    · exact shape_ne (h.nd j hl).shp h.qs.shQ (by decide) e
    · exact q1.hv.notP (h.nd j hl) e
    · have hm : (t', nn P j) ∈ X ++ [(wn P i, nn P i)] := ((q2.append_right _).mem_iff).1 e
      obtain ⟨j', h1, h2, h3⟩ := hX' _ hm
      simp at h3
      exact nn_ne h.nod hl h2 (by omega) h3.2
  · refine h.bel.trans (F.below _ (by have := h.qs.hQ; have := h.qs.Qb; have := h.qs.bbl; omega) ?_)
    rintro k o hk (⟨e, _⟩ | e | ⟨_, t', e⟩)
    · have := h.qs.hQ; omega
    · have := (q1.hv.own.lt k e.symm).1; omega
    · have hm : (t', k) ∈ X ++ [(wn P i, nn P i)] := ((q2.append_right _).mem_iff).1 e
      obtain ⟨j', h1, h2, h3⟩ := hX' _ hm
      simp at h3
      have := h.lo j' h2
      omega

theorem MB.drewN {base bb Q W K : Nat} {mv : Int} {whole : Bool} {P : List (Int × Nat)} {w0 : World} {fs : List Nat} {cs : List (List Nat)} {t : List Nat} {vf vt : Value} {sp : Option Addr} {m c : Nat} {X : List (Int × Nat)} {w : World}
    (h : MB base bb Q W K mv whole P w0 fs cs t vf vt sp m c X w) (n : Nat) : MB base bb Q W K mv whole P w0 fs cs t vf vt sp m c X (w.drewN n) :=
  h.frmB (Frm.drewN w n _) (h.bk.drewN n) h.ns h.ft


theorem MB.lower {base bb Q W K : Nat} {mv : Int} {whole : Bool} {P : List (Int × Nat)} {w0 : World} {fs : List Nat} {cs : List (List Nat)} {t : List Nat} {vf vt : Value} {sp : Option Addr} {m c c' : Nat} {X : List (Int × Nat)} {w : World}
    (h : MB base bb Q W K mv whole P w0 fs cs t vf vt sp m c X w) (hc : c' ≤ c) : MB base bb Q W K mv whole P w0 fs cs t vf vt sp m c' X w :=
  ⟨h.qs, h.q74, h.q75, h.bk, h.ns, h.ft, h.hq, h.nd, fun i hi hl => h.pos i (by omega) hl, h.bel, h.nod, h.lo, fun e he => by obtain ⟨j, h1, h2⟩ := h.hX e he; exact ⟨j, by omega, h2⟩⟩

theorem MB.perm {base bb Q W K : Nat} {mv : Int} {whole : Bool} {P : List (Int × Nat)} {w0 : World} {fs : List Nat} {cs : List (List Nat)} {t : List Nat} {vf vt : Value} {sp : Option Addr} {m c : Nat} {X Y : List (Int × Nat)} {w : World}
    (h : MB base bb Q W K mv whole P w0 fs cs t vf vt sp m c X w) (hp : X.Perm Y) : MB base bb Q W K mv whole P w0 fs cs t vf vt sp m c Y w :=
  ⟨h.qs, h.q74, h.q75, h.bk, h.ns, h.ft, by obtain ⟨v, es, q1, q2⟩ := h.hq; exact ⟨v, es, q1, q2.trans hp⟩, h.nd, h.pos, h.bel, h.nod, h.lo, fun e he => h.hX e (hp.mem_iff.2 he)⟩

/-- the queue's 'moving' is stored anew -/
theorem MB.moving {base bb Q W K : Nat} {mv : Int} {whole : Bool} {P : List (Int × Nat)} {w0 : World} {fs : List Nat} {cs : List (List Nat)} {t : List Nat} {vf vt : Value} {sp : Option Addr} {m c : Nat} {X : List (Int × Nat)} {w : World}
    (h : MB base bb Q W K mv whole P w0 fs cs t vf vt sp m c X w) (mv' : Int) : MB base bb Q W K mv' whole P w0 fs cs t vf vt sp m c X (w.setCell ⟨Q, 74, none⟩ (.int .i64 mv')) := by
  have F : Frm w (w.setCell ⟨Q, 74, none⟩ (.int .i64 mv')) (fun k o => k = Q ∧ o = 74) := Frm.setCell w Q 74 _ _ ⟨rfl, rfl⟩
  have lQ := h.qs.ltQ
  have lW := h.qs.ltW
  have QW : W ≠ Q := shape_ne h.qs.shW h.qs.shQ (by decide)
  have QK : K ≠ Q := shape_ne h.bk.sh h.qs.shQ (by decide)
  obtain ⟨v, es, q1, q2⟩ := h.hq
  refine ⟨⟨(F.cell Q 0 lQ (by omega)).trans h.qs.q0, (F.cell Q 73 lQ (by omega)).trans h.qs.q73, (F.shp Q lQ ⟨0, by omega⟩).trans h.qs.shQ, fun o => (F.frz Q o lQ ⟨0, by omega⟩).trans (h.qs.fzQ o), (F.cell W 0 lW (by omega)).trans h.qs.wc, (F.shp W lW ⟨0, by omega⟩).trans h.qs.shW, h.qs.hQ, h.qs.hK, h.qs.Qb, h.qs.Wb, Nat.le_trans h.qs.bbl F.size⟩,
    World.cell?_setCell_same _ _ _ h.q74, (F.cell Q 75 lQ (by omega)).trans h.q75, h.bk.same F (fun o => by omega) ?_, h.ns, h.ft, ⟨v, es, q1.frm F (by omega) ?_ ?_, q2⟩, ?_, ?_, ?_, h.nod, h.lo, h.hX⟩
  · rintro k o mk hb _ ⟨e, _⟩
    have := h.qs.Qb; omega
  · rintro k hk o ⟨e, _⟩
    exact q1.hv.notB (by rw [← e]; exact hk.symm)
  · rintro k t' hk o ⟨e, _⟩
    obtain ⟨i, hi, he⟩ := List.getElem_of_mem hk
    have n1 := (q1.np i hi).1.shp
    rw [← nn_get es i hi, he, e, h.qs.shQ] at n1
    simp at n1
  · intro i hi
    exact (h.nd i hi).frm F (by rintro ⟨_, e⟩; omega)
  · intro i hi hl
    exact (F.cell _ _ (h.nd i hl).lt (by rintro ⟨_, e⟩; omega)).trans (h.pos i hi hl)
  · refine h.bel.trans (F.below _ (by have := h.qs.hQ; have := h.qs.Qb; have := h.qs.bbl; omega) ?_)
    rintro k o hk ⟨e, _⟩
    have := h.qs.hQ; omega

/-- the bucket's tail among all nodes -/
theorem tail_get {cs : List (List Nat)} {t : List Nat} {P : List (Int × Nat)} {m : Nat} (h : cs.flatten ++ t = (P.take m).map (·.2)) (hm : m ≤ P.length) : t.length ≤ m ∧ cs.flatten.length = m - t.length ∧ (∀ q, q < t.length → t.getD q 0 = nn P (m - t.length + q)) ∧ ∀ r, r ≤ t.length → cs.flatten ++ t.take r = (P.take (m - t.length + r)).map (·.2) := by
  have hl : cs.flatten.length + t.length = m := by
    have := congrArg List.length h
    rw [List.length_append, List.length_map, List.length_take] at this
    omega
  refine ⟨by omega, by omega, ?_, ?_⟩
  · intro q hq
    have h1 : (cs.flatten ++ t)[cs.flatten.length + q]? = ((P.take m).map (·.2))[cs.flatten.length + q]? := by rw [h]
    rw [List.getElem?_append_right (by omega)] at h1
    rw [show cs.flatten.length + q - cs.flatten.length = q by omega] at h1
    rw [show m - t.length + q = cs.flatten.length + q by omega]
    simp only [nn, List.getD_eq_getElem?_getD]
    rw [h1, List.getElem?_map, List.getElem?_take_of_lt (by omega)]
    rw [List.getElem?_eq_getElem (show cs.flatten.length + q < P.length by omega)]
    simp
  · intro r hr
    have h1 : (cs.flatten ++ t).take (cs.flatten.length + r) = cs.flatten ++ t.take r := by
      rw [List.take_append, List.take_of_length_le (by omega)]
      congr 1
      congr 1
      omega
    rw [← h1, h, ← List.map_take, List.take_take]
    congr 2
    omega

end Go.Proofs.Ybulkaeuq
