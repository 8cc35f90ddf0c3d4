/-
  The queue as zzs1537cbuild makes it. By the prover of seat b1537a.
-/
import Derived.Test.YbulkaeuqMove
namespace Go.Proofs.Ybulkaeuq
open Go.RowKit

theorem z56 : Yba.zeroCells56.size = 76 ∧ Yba.zeroCells56[0]? = some (.int .i64 0) ∧ Yba.zeroCells56[2]? = some (.slice none 0 0) ∧ Yba.zeroCells56[74]? = some (.int .i64 0) ∧ Yba.zeroCells56[75]? = some (.bool false) := ⟨by kernel_rfl, by kernel_rfl, by kernel_rfl, by kernel_rfl, by kernel_rfl⟩
theorem z75 : Yba.zeroCells75.size = 192 ∧ Yba.zeroCells75[0]? = some (.slice none 0 0) ∧ Yba.zeroCells75[1]? = some (.slice none 0 0) ∧ Yba.zeroCells75[2]? = some (.pointer none) := ⟨by kernel_rfl, by kernel_rfl, by kernel_rfl, by kernel_rfl⟩

/-- a block of the world, whole -/
theorem cell_of_heap {w : World} {k o : Nat} {c : Array Value} {e : TypeId} {f : Nat × Nat} (h : w.heap[k]? = some (.cells c e f)) : w.cell? ⟨k, o, none⟩ = c[o]? := cell_of_row w k o c e f h

/-- what lies in memory before the first node is made -/
theorem MB.start {w0 w : World} {base bb Q W K : Nat} {cQ cW : Array Value}
    (hQ : w.heap[Q]? = some (.cells (cQ.setIfInBounds 73 (.pointer (some ⟨W, 0, none⟩))) 56 (0, 0))) (hcQ : cQ = Yba.zeroCells56) (hW : w.heap[W]? = some (.cells cW 70 (0, 0))) (hcW : cW.size = 20) (hcW0 : cW[0]? = some (.pointer (some ⟨K, 0, none⟩)))
    (hK : w.heap[K]? = some (.cells Yba.zeroCells75 75 (0, 0))) (bQ : base ≤ Q) (bK : base ≤ K) (Qb : Q < bb) (Wb : W < bb) (Kb : K < bb) (bbl : bb ≤ w.heap.size) (bel : Below base w0 w) :
    MB base bb Q W K 0 false [] w0 [] [] [] (.slice none 0 0) (.slice none 0 0) none 0 0 [] w := by
  subst hcQ
  obtain ⟨s1, s2, s3, s4, s5⟩ := z56
  obtain ⟨t1, t2, t3, t4⟩ := z75
  have cQ : ∀ o, o ≠ 73 → w.cell? ⟨Q, o, none⟩ = Yba.zeroCells56[o]? := fun o ho => by
    rw [cell_of_heap hQ, Array.getElem?_setIfInBounds_ne (fun e => ho e.symm)]
  have shQ : w.shape? Q = some (56, 76) := by simp [World.shape?, hQ, s1]
  have fz : ∀ {k : Nat} {c : Array Value} {e : TypeId}, w.heap[k]? = some (.cells c e (0, 0)) → ∀ o, w.frozen? ⟨k, o, none⟩ = false := fun h o => frozen_of_row w _ o _ _ h
  refine ⟨⟨(cQ 0 (by omega)).trans s2, ?_, shQ, fz hQ, (cell_of_heap hW).trans hcW0, by simp [World.shape?, hW, hcW], bQ, bK, Qb, Wb, bbl⟩, (cQ 74 (by omega)).trans s4, (cQ 75 (by omega)).trans s5,
    ⟨(cell_of_heap hK).trans t2, (cell_of_heap hK).trans t3, (cell_of_heap hK).trans t4, by simp [World.shape?, hK, t1], fz hK, Kb, World.ownsRow_nil _ _ _ _, World.ownsRow_nil _ _ _ _, rfl, ?_, List.nodup_nil, ?_, ?_⟩, by simp, fun e => absurd rfl e,
    ⟨.slice none 0 0, [], ⟨⟨(cQ 2 (by omega)).trans s3, World.ownsRow_nil _ _ _ _, ⟨56, 76, shQ, by decide, by decide⟩, fz hQ 2⟩, ?_, ?_, List.nodup_nil, ?_⟩, List.Perm.refl _⟩, ?_, ?_, bel, List.nodup_nil, ?_, ?_⟩
  · rw [cell_of_heap hQ, Array.getElem?_setIfInBounds_self_of_lt (by rw [s1]; decide)]
  · intro i hi; simp at hi
  · intro f hf; simp at hf
  · intro a n c e; simp at e; exact ⟨by omega, fun h => absurd rfl h⟩
  · intro k _ h; simp at h
  · intro k h; simp at h
  · intro t p h; simp at h
  · intro i hi; simp at hi
  · intro i _ hi; simp at hi
  · intro i hi; simp at hi
  · intro e he; simp at he

/-- one node more: made, pushed into the bucket, its position stored -/
theorem MB.add {base bb Q W K p : Nat} {mv z val ps : Int} {P : List (Int × Nat)} {w0 : World} {fs : List Nat} {cs : List (List Nat)} {t : List Nat} {vf vt : Value} {sp : Option Addr} {wr w2 : World}
    (h : MB base bb Q W K mv false P w0 fs cs t vf vt sp P.length P.length [] wr) (hp : p = wr.heap.size) {fs' : List Nat} {cs' : List (List Nat)} {t' : List Nat} {vf' vt' : Value} {sp' : Option Addr}
    (F : Frm (wr.alloc (.cells #[.int .i64 z, .int .i64 val, .int .i64 0] 30)) w2 (BS (wr.alloc (.cells #[.int .i64 z, .int .i64 val, .int .i64 0] 30)) bb K)) (bk : Bk w2 bb K fs' cs' t' vf' vt' sp') (ns : cs'.flatten ++ t' = cs.flatten ++ t ++ [p]) (tn : t' ≠ [])
    (hps : ps = (P.length : Int) * 1024 + 4) :
    MB base bb Q W K mv false (P ++ [(z, p)]) w0 fs' cs' t' vf' vt' sp' (P ++ [(z, p)]).length (P ++ [(z, p)]).length [] (w2.setCell ⟨p, 2, none⟩ (.int .i64 ps)) := by
  have h1 : MB base bb Q W K mv false P w0 fs cs t vf vt sp P.length P.length [] (wr.alloc (.cells #[.int .i64 z, .int .i64 val, .int .i64 0] 30)) := h.frmB (Frm.alloc wr _ _) (h.bk.grown (World.grownBy_alloc wr _ none) (fun k hk => by cases hk)) h.ns h.ft
  have nd1 : Nd (wr.alloc (.cells #[.int .i64 z, .int .i64 val, .int .i64 0] 30)) p z := by subst hp; exact ⟨shape?_alloc_new _ _ _, by simp, by simp⟩
  have hlt : ∀ i, i < P.length → nn P i < p := fun i hi => by rw [hp]; exact (h.nd i hi).lt
  have hbl : base ≤ p := by have := h.qs.hQ; have := h.qs.Qb; have := h.qs.bbl; omega
  generalize hw1 : wr.alloc (.cells #[.int .i64 z, .int .i64 val, .int .i64 0] 30) = w1 at *
  clear hw1
  have sK := h1.bk.sh
  have nQ := fun o => (h1.qs.notB sK o).1
  have lQ := h1.qs.ltQ
  have lW := h1.qs.ltW
  obtain ⟨v, es, q1, q2⟩ := h1.hq
  obtain rfl : es = [] := List.eq_nil_of_length_eq_zero q2.length_eq
  have qs2 := h1.qs.frmB sK F
  have q1' := q1.frmB sK nQ F
  have nd2 := nd1.frm F (nd1.notB sK 0)
  have F3 : Frm w2 (w2.setCell ⟨p, 2, none⟩ (.int .i64 ps)) (fun k o => k = p ∧ o = 2) := Frm.setCell w2 p 2 _ _ ⟨rfl, rfl⟩
  have pQ : Q ≠ p := shape_ne qs2.shQ nd2.shp (by decide)
  have pW : W ≠ p := shape_ne qs2.shW nd2.shp (by decide)
  have pK : K ≠ p := shape_ne bk.sh nd2.shp (by decide)
  have getL : ∀ i, i < P.length → nn (P ++ [(z, p)]) i = nn P i ∧ wn (P ++ [(z, p)]) i = wn P i := fun i hi => by simp [nn, wn, List.getElem?_append_left hi]
  have getR : nn (P ++ [(z, p)]) P.length = p ∧ wn (P ++ [(z, p)]) P.length = z := by simp [nn, wn]
  have lP : (P ++ [(z, p)]).length = P.length + 1 := by simp
  refine ⟨⟨(F3.cell Q 0 qs2.ltQ (by omega)).trans qs2.q0, (F3.cell Q 73 qs2.ltQ (by omega)).trans qs2.q73, (F3.shp Q qs2.ltQ ⟨0, by omega⟩).trans qs2.shQ, fun o => (F3.frz Q o qs2.ltQ ⟨0, by omega⟩).trans (qs2.fzQ o), (F3.cell W 0 qs2.ltW (by omega)).trans qs2.wc, (F3.shp W qs2.ltW ⟨0, by omega⟩).trans qs2.shW, qs2.hQ, qs2.hK, qs2.Qb, qs2.Wb, Nat.le_trans qs2.bbl F3.size⟩,
    (F3.cell Q 74 qs2.ltQ (by omega)).trans ((F.cell Q 74 lQ (nQ 74)).trans h1.q74), (F3.cell Q 75 qs2.ltQ (by omega)).trans ((F.cell Q 75 lQ (nQ 75)).trans h1.q75), bk.same F3 (fun o => by omega) ?_, ?_, fun _ => tn, ⟨v, [], q1'.frm F3 (by omega) ?_ ?_, q2⟩, ?_, ?_, ?_, ?_, ?_, ?_⟩
  · rintro k o mk _ hs ⟨e, _⟩
    rw [e, nd2.shp] at hs
    simp at hs
  · rw [ns, h.ns, List.take_of_length_le (Nat.le_refl _), List.take_of_length_le (Nat.le_refl _), List.map_append]; rfl
  · rintro k hk o ⟨e, _⟩
    exact q1'.hv.notP nd2 (by rw [← e]; exact hk.symm)
  · intro k t hk; simp at hk
  · intro i hi
    by_cases hil : i < P.length
    · rw [(getL i hil).1, (getL i hil).2]
      exact ((h1.nd i hil).frm F ((h1.nd i hil).notB sK 0)).frm F3 (by omega)
    · obtain rfl : i = P.length := by omega
      rw [getR.1, getR.2]
      exact nd2.frm F3 (by omega)
  · intro i hi hl
    by_cases hil : i < P.length
    · rw [(getL i hil).1]
      have n2 := (h1.nd i hil).frm F ((h1.nd i hil).notB sK 0)
      have := hlt i hil
      rw [F3.cell _ _ n2.lt (by omega)]
      exact (F.cell _ _ (h1.nd i hil).lt ((h1.nd i hil).notB sK 2)).trans (h1.pos i hil hil)
    · obtain rfl : i = P.length := by omega
      rw [getR.1]
      obtain ⟨u, hu⟩ := cell_of_shape nd2.shp 2 (by decide)
      rw [World.cell?_setCell_same (u := u) _ _ _ hu, hps]
  · have b2 : Below base w0 w2 := h1.bel.trans (F.below _ (by have := h1.qs.hQ; have := h1.qs.Qb; have := h1.qs.bbl; omega) (by
      rintro k o hk (⟨e, _⟩ | ⟨e, _⟩)
      · have := h1.qs.hK; omega
      · have := h1.qs.hQ; have := h1.qs.Qb; omega))
    exact b2.setCell hbl _
  · rw [List.map_append, List.nodup_append]
    refine ⟨h.nod, by simp, ?_⟩
    intro a ha b hb
    simp at hb
    subst hb
    obtain ⟨e, he, rfl⟩ := List.mem_map.1 ha
    obtain ⟨i, hi, hie⟩ := List.getElem_of_mem he
    have := hlt i hi
    rw [← nn_get P i hi, hie] at this
    omega
  · intro i hi
    by_cases hil : i < P.length
    · rw [(getL i hil).1]; exact h.lo i hil
    · obtain rfl : i = P.length := by omega
      rw [getR.1]; exact hbl
  · intro e he; simp at he
end Go.Proofs.Ybulkaeuq
