/-
  zzs1537cbuild walked. By the prover of seat b1537a.
-/
import Derived.Test.YbulkaeuqMBAdd
namespace Go.Proofs.Ybulkaeuq
open Go.RowKit

/-- a write to a block of another kind, below the bucket's own -/
theorem MB.other {base bb Q W K : Nat} {mv : Int} {whole : Bool} {P : List (Int × Nat)} {w0 : World} {fs : List Nat} {cs : List (List Nat)} {t : List Nat} {vf vt : Value} {sp : Option Addr} {m c : Nat} {X : List (Int × Nat)} {w w' : World}
    (h : MB base bb Q W K mv whole P w0 fs cs t vf vt sp m c X w) {x e mm : Nat} (F : Frm w w' (fun k _ => k = x)) (hx : w.shape? x = some (e, mm)) (he : e ≠ 56 ∧ e ≠ 70 ∧ e ≠ 75 ∧ e ≠ 32 ∧ e ≠ 30) (hb : x < bb) (hlo : base ≤ x) :
    MB base bb Q W K mv whole P w0 fs cs t vf vt sp m c X w' := by
  obtain ⟨e1, e2, e3, e4, e5⟩ := he
  have xQ : Q ≠ x := shape_ne h.qs.shQ hx (fun he => e1 (congrArg Prod.fst he).symm)
  have xW : W ≠ x := shape_ne h.qs.shW hx (fun he => e2 (congrArg Prod.fst he).symm)
  have xK : K ≠ x := shape_ne h.bk.sh hx (fun he => e3 (congrArg Prod.fst he).symm)
  have lQ := h.qs.ltQ
  have lW := h.qs.ltW
  have nx : ∀ {p : Nat} {wh : Int}, Nd w p wh → p ≠ x := fun hp => shape_ne hp.shp hx (fun he => e5 (congrArg Prod.fst he).symm)
  obtain ⟨v, es, q1, q2⟩ := h.hq
  refine ⟨⟨(F.cell Q 0 lQ xQ).trans h.qs.q0, (F.cell Q 73 lQ xQ).trans h.qs.q73, (F.shp Q lQ ⟨0, xQ⟩).trans h.qs.shQ, fun o => (F.frz Q o lQ ⟨0, xQ⟩).trans (h.qs.fzQ o), (F.cell W 0 lW xW).trans h.qs.wc, (F.shp W lW ⟨0, xW⟩).trans h.qs.shW, h.qs.hQ, h.qs.hK, h.qs.Qb, h.qs.Wb, Nat.le_trans h.qs.bbl F.size⟩,
    (F.cell Q 74 lQ xQ).trans h.q74, (F.cell Q 75 lQ xQ).trans h.q75, h.bk.same F (fun _ => xK) (fun k o mk hbk _ => by omega), h.ns, h.ft, ⟨v, es, q1.frm F xQ ?_ ?_, q2⟩, fun i hi => (h.nd i hi).frm F (nx (h.nd i hi)), fun i hi hl => (F.cell _ _ (h.nd i hl).lt (nx (h.nd i hl))).trans (h.pos i hi hl), ?_, h.nod, h.lo, h.hX⟩
  · intro k hk o e'
    obtain ⟨m', hm'⟩ := shape_of_own q1.hv.own hk
    rw [e', hx] at hm'; simp at hm'; exact e4 hm'.1
  · intro k t' hk o
    obtain ⟨i, hi, hie⟩ := List.getElem_of_mem hk
    have n1 := (q1.np i hi).1
    rw [← nn_get es i hi, hie] at n1
    exact nx n1
  · refine h.bel.trans (F.below _ (by have := h.qs.hQ; have := h.qs.Qb; have := h.qs.bbl; omega) ?_)
    intro k o hk e'; omega

/-- the queue's 'whole' is stored -/
theorem MB.whole {base bb Q W K : Nat} {mv : Int} {b0 : Bool} {P : List (Int × Nat)} {w0 : World} {fs : List Nat} {cs : List (List Nat)} {t : List Nat} {vf vt : Value} {sp : Option Addr} {m c : Nat} {X : List (Int × Nat)} {w : World}
    (h : MB base bb Q W K mv b0 P w0 fs cs t vf vt sp m c X w) (b : Bool) : MB base bb Q W K mv b P w0 fs cs t vf vt sp m c X (w.setCell ⟨Q, 75, none⟩ (.bool b)) := by
  have F : Frm w (w.setCell ⟨Q, 75, none⟩ (.bool b)) (fun k o => k = Q ∧ o = 75) := Frm.setCell w Q 75 _ _ ⟨rfl, rfl⟩
  have lQ := h.qs.ltQ
  have lW := h.qs.ltW
  have QW : W ≠ Q := shape_ne h.qs.shW h.qs.shQ (by decide)
  have QK : K ≠ Q := shape_ne h.bk.sh h.qs.shQ (by decide)
  obtain ⟨v, es, q1, q2⟩ := h.hq
  refine ⟨⟨(F.cell Q 0 lQ (by omega)).trans h.qs.q0, (F.cell Q 73 lQ (by omega)).trans h.qs.q73, (F.shp Q lQ ⟨0, by omega⟩).trans h.qs.shQ, fun o => (F.frz Q o lQ ⟨0, by omega⟩).trans (h.qs.fzQ o), (F.cell W 0 lW (by omega)).trans h.qs.wc, (F.shp W lW ⟨0, by omega⟩).trans h.qs.shW, h.qs.hQ, h.qs.hK, h.qs.Qb, h.qs.Wb, Nat.le_trans h.qs.bbl F.size⟩,
    (F.cell Q 74 lQ (by omega)).trans h.q74, World.cell?_setCell_same _ _ _ h.q75, h.bk.same F (fun o => by omega) ?_, h.ns, h.ft, ⟨v, es, q1.frm F (by omega) ?_ ?_, q2⟩, ?_, ?_, ?_, h.nod, h.lo, h.hX⟩
  · rintro k o mk hb _ ⟨e, _⟩
    have := h.qs.Qb; omega
  · rintro k hk o ⟨e, _⟩
    exact q1.hv.notB (by rw [← e]; exact hk.symm)
  · rintro k t' hk o ⟨e, _⟩
    obtain ⟨i, hi, he⟩ := List.getElem_of_mem hk
    have n1 := (q1.np i hi).1.shp
    rw [← nn_get es i hi, he, e, h.qs.shQ] at n1
    simp at n1
  · intro i hi
    exact (h.nd i hi).frm F (by rintro ⟨_, e⟩; omega)
  · intro i hi hl
    exact (F.cell _ _ (h.nd i hl).lt (by rintro ⟨_, e⟩; omega)).trans (h.pos i hi hl)
  · refine h.bel.trans (F.below _ (by have := h.qs.hQ; have := h.qs.Qb; have := h.qs.bbl; omega) ?_)
    rintro k o hk ⟨e, _⟩
    have := h.qs.hQ; omega

/-- the slice of all nodes, filled as far as ps goes -/
def NR (w0 : World) (NB n : Nat) (ps : List Nat) (w : World) : Prop := ps.length ≤ n ∧ w.ownsRow w0.heap.size 28 1 (.slice (some ⟨NB, 0, none⟩) n n) n (ptrs ps ++ List.replicate (n - ps.length) (.pointer none))

theorem NR.block {w0 : World} {NB n : Nat} {ps : List Nat} {w w' : World} (h : NR w0 NB n ps w) (hb : w'.heap[NB]? = w.heap[NB]?) : NR w0 NB n ps w' := ⟨h.1, ownsRow_block h.2 hb⟩
theorem NR.shp {w0 : World} {NB n : Nat} {ps : List Nat} {w : World} (h : NR w0 NB n ps w) : w.shape? NB = some (28, n * 1) := ownsRow_shape h.2
theorem NR.lt {w0 : World} {NB n : Nat} {ps : List Nat} {w : World} (h : NR w0 NB n ps w) : NB < w.heap.size := ownsRow_lt h.2
theorem NR.store {w0 : World} {NB n : Nat} {ps : List Nat} {w : World} (h : NR w0 NB n ps w) (hl : ps.length < n) (p : Nat) : NR w0 NB n (ps ++ [p]) (w.setCell ⟨NB, ps.length, none⟩ (.pointer (some ⟨p, 0, none⟩))) := by
  refine ⟨by simp; omega, ?_⟩
  have := (h.2.stored ps.length (.pointer (some ⟨p, 0, none⟩))).1
  have e : (ptrs ps ++ List.replicate (n - ps.length) (Value.pointer none)).set ps.length (.pointer (some ⟨p, 0, none⟩)) = ptrs (ps ++ [p]) ++ List.replicate (n - (ps ++ [p]).length) (.pointer none) := by
    rw [List.set_append_right _ _ (by rw [ptrs_length]; exact Nat.le_refl _), ptrs_length, Nat.sub_self, ptrs_append, List.append_assoc]
    congr 1
    rw [show n - ps.length = (n - (ps ++ [p]).length) + 1 by simp; omega, List.replicate_succ]
    rfl
  rw [e] at this
  exact this
theorem NR.cell {w0 : World} {NB n : Nat} {ps : List Nat} {w : World} (h : NR w0 NB n ps w) (i : Nat) (hi : i < ps.length) : w.cell? ⟨NB, i, none⟩ = some (.pointer (some ⟨ps.getD i 0, 0, none⟩)) := by
  have := h.1
  rw [h.2.cellAt i (by omega), List.getElem?_append_left (by rw [ptrs_length]; exact hi), ptrs_get ps i hi]

/-- what build leaves -/
def BPost (w0 : World) (gw n : Nat) (zs : List Int) (whole : Bool) (e : Ending) (w' : World) : Prop :=
  ∃ Q W K NB bb P fs cs t vf vt, e = .returned (.tuple #[.pointer (some ⟨Q, 0, none⟩), .slice (some ⟨NB, 0, none⟩) n n]) ∧ P.length = n ∧ (∀ i, i < n → wn P i = zs.getD i 0) ∧
    MB w0.heap.size bb Q W K 1 whole P w0 fs cs t vf vt none P.length P.length [] w' ∧ NR w0 NB n (P.map (·.2)) w' ∧ NB < bb ∧ Row w0 gw n zs w' ∧ gw < Q

theorem three_alloc (w : World) (A B C : Obj) : (((w.alloc A).alloc B).alloc C).heap[w.heap.size]? = some A ∧ (((w.alloc A).alloc B).alloc C).heap[w.heap.size + 1]? = some B ∧ (((w.alloc A).alloc B).alloc C).heap[w.heap.size + 1 + 1]? = some C ∧ ∀ k, k < w.heap.size → (((w.alloc A).alloc B).alloc C).heap[k]? = w.heap[k]? := by
  refine ⟨?_, ?_, ?_, ?_⟩
  · rw [Below.heap_alloc _ _ _ (by simp; omega), Below.heap_alloc _ _ _ (by simp)]; exact heap_alloc_new w A
  · rw [Below.heap_alloc _ _ _ (by simp)]; exact heap_alloc2_new w A B
  · have := heap_alloc_new ((w.alloc A).alloc B) C
    simpa using this
  · intro k hk
    rw [Below.heap_alloc _ _ _ (by simp; omega), Below.heap_alloc _ _ _ (by simp; omega), Below.heap_alloc _ _ _ hk]

theorem build_start {w0 w w1 : World} {gw n : Nat} {zs : List Int} (r : Row w0 gw n zs w) (bel : Below w0.heap.size w0 w) {cW : Array Value} (hcW : cW.size = 20) (hcW0 : cW[0]? = some (.pointer (some ⟨w.heap.size + 1 + 1, 0, none⟩)))
    (o1 : w1.ownsRow w0.heap.size 28 1 (.slice (some ⟨w.heap.size + 1 + 1 + 1, 0, none⟩) n n) n (madeCells (Value.pointer none).cells (n * 1)).toList)
    (g1 : (((w.alloc (.cells (Yba.zeroCells56.setIfInBounds 73 (.pointer (some ⟨w.heap.size + 1, 0, none⟩))) 56)).alloc (.cells cW 70)).alloc (.cells Yba.zeroCells75 75)).grownBy w1 none) :
    MB w0.heap.size w1.heap.size w.heap.size (w.heap.size + 1) (w.heap.size + 1 + 1) 0 false [] w0 [] [] [] (.slice none 0 0) (.slice none 0 0) none 0 0 [] w1 ∧ NR w0 (w.heap.size + 1 + 1 + 1) n [] w1 ∧ Row w0 gw n zs w1 ∧ w.heap.size + 1 + 1 + 1 < w1.heap.size := by
  obtain ⟨a1, a2, a3, a4⟩ := three_alloc w (.cells (Yba.zeroCells56.setIfInBounds 73 (.pointer (some ⟨w.heap.size + 1, 0, none⟩))) 56) (.cells cW 70) (.cells Yba.zeroCells75 75)
  have hs : (((w.alloc (.cells (Yba.zeroCells56.setIfInBounds 73 (.pointer (some ⟨w.heap.size + 1, 0, none⟩))) 56)).alloc (.cells cW 70)).alloc (.cells Yba.zeroCells75 75)).heap.size = w.heap.size + 3 := by simp
  have hb0 := bel.size
  have hnb := ownsRow_lt o1
  have b1 : ∀ k, k < w.heap.size + 3 → w1.heap[k]? = (((w.alloc (.cells (Yba.zeroCells56.setIfInBounds 73 (.pointer (some ⟨w.heap.size + 1, 0, none⟩))) 56)).alloc (.cells cW 70)).alloc (.cells Yba.zeroCells75 75)).heap[k]? := fun k hk => g1.block k (by rw [hs]; exact hk) (by simp)
  have hgl := ownsRow_lt r
  refine ⟨MB.start ((b1 _ (by omega)).trans a1) rfl ((b1 _ (by omega)).trans a2) hcW hcW0 ((b1 _ (by omega)).trans a3) hb0 (by omega) (by omega) (by omega) (by omega) (Nat.le_refl _) ?_, ⟨by simp, ?_⟩, r.block ((b1 _ (by omega)).trans (a4 gw hgl)), hnb⟩
  · exact (((bel.alloc hb0 _).alloc (by simp; omega) _).alloc (by simp; omega) _).grown g1 (by simp; omega) (fun k hk => by cases hk)
  · have e : (madeCells (Value.pointer none).cells (n * 1)).toList = ptrs [] ++ List.replicate (n - ([] : List Nat).length) (.pointer none) := by
      rw [Nat.mul_one]
      show (madeCells #[Value.pointer none] n).toList = _
      rw [toList_madeCells_one]; simp [ptrs]
    rw [← e]
    exact o1

set_option maxHeartbeats 4000000 in
set_option maxRecDepth 100000 in
theorem build_calls (w0 : World) (gw n : Nat) (zs : List Int) (whole : Bool) (w : World) (hn : n ≤ 1024) (r : Row w0 gw n zs w) (bel : Below w0.heap.size w0 w) :
    Calls Yba.prog 13 #[.slice (some ⟨gw, 0, none⟩) n n, .bool whole] w (BPost w0 gw n zs whole) := by
  obtain ⟨i0, hi0, hz0, hz1, hz2⟩ := info_parts Yba.info28
  have hgl := ownsRow_lt r
  go_enter Yba.func13, Yba.ntmps13
  go_wp2_with fail
  refine (bucket_calls (w.heap.size + 1) (w.heap.size + 1 + 1) _ (by go_simp)).mono ?_
  rintro e w1 ⟨rfl, rfl⟩
  go_wp2_with (at_make; refine wpList_make_full _ rfl _ _ 44 rfl w0.heap.size 28 i0 (.pointer none) 1 Yba.underlying44 hi0 hz0 hz1 _ _ _ _ n rfl rfl (by omega) (by omega) (by rw [hz2]; omega) (by unfold maxLen; omega) (by have := bel.size; simp; omega) ?_; intro w1 o1 g1)
  simp only [World.size_alloc] at o1
  obtain ⟨M1, N1, R1, L1⟩ := build_start r bel (by rfl) (by rfl) o1 g1
  clear o1 g1
  generalize hQe : w.heap.size = Q at *
  generalize hWe : Q + 1 = W at *
  generalize hKe : W + 1 = K at *
  generalize hNe : K + 1 = NB at *
  generalize w1.heap.size = bb at *
  have hgq : Hid (gw < Q) := hgl
  clear hQe hWe hKe hNe
  go_loopw [36] (fun s wr => ∃ (i : Nat) (P : List (Int × Nat)) (fs : List Nat) (cs : List (List Nat)) (t : List Nat) (vf vt : Value), s = .int .i64 i ∧ i ≤ n ∧ P.length = i ∧ (∀ j, j < i → wn P j = zs.getD j 0) ∧ MB w0.heap.size bb Q W K 0 false P w0 fs cs t vf vt none P.length P.length [] wr ∧ NR w0 NB n (P.map (·.2)) wr ∧ Row w0 gw n zs wr) (fun s _ => n - (intOf s).toNat)
  case atStart => exact ⟨0, [], [], [], [], _, _, rfl, by omega, rfl, fun j hj => absurd hj (Nat.not_lt_zero _), M1, N1, R1⟩
  case round =>
    obtain ⟨i, P, fs, cs, t, vf, vt, rfl, hi, hPl, hwn, B, N, R⟩ := hrel
    by_cases hin : i < n
    · have hzc := R.cell i hin
      have hfl : fs.length < 900 := by
        have h1 := flatten_len B.bk
        have h2 := (tail_get B.ns (Nat.le_refl _)).2.1
        omega
      have hlen : (cs.flatten ++ t).length = i := by rw [B.ns, List.length_map, List.length_take]; omega
      obtain ⟨z, hz⟩ : ∃ z, zs.getD i 0 = z := ⟨_, rfl⟩
      rw [hz] at hzc
      have HZ : Hid (zs.getD i 0 = z) := hz
      have HLEN : Hid ((cs.flatten ++ t).length = i) := hlen
      have HPL : Hid (P.length = i) := hPl
      have HWN : Hid (∀ j, j < i → wn P j = zs.getD j 0) := hwn
      clear hz hlen hPl hwn
      have b1 := B.bk.grown (World.grownBy_alloc wr (.cells #[.int .i64 z, .int .i64 i, .int .i64 0] 30) none) (fun k hk => by cases hk)
      have hbb1 := B.qs.bbl
      have nd1 : Nd (wr.alloc (.cells #[.int .i64 z, .int .i64 i, .int .i64 0] 30)) wr.heap.size z := ⟨shape?_alloc_new _ _ _, by simp, by simp⟩
      go_wp2_with fail
      refine (bpush_calls bb K wr.heap.size fs cs t vf vt _ b1 hfl (by simp; omega)).mono ?_
      rintro e w2 ⟨rfl, fs', cs', t', vf', vt', r1, r2, r3, r4⟩
      rw [HLEN.out]
      have nd2 := nd1.frm r4 (nd1.notB b1.sh 0)
      have np2 := nd2.frz
      obtain ⟨u2, hu2⟩ := cell_of_shape nd2.shp 2 (by decide)
      have NK : NB ≠ K := shape_ne N.shp B.bk.sh (by simp)
      have N2 : NR w0 NB n (P.map (·.2)) w2 := (N.block (Below.heap_alloc _ _ _ N.lt)).block (r4.blk NB (by have := N.lt; simp; omega) (by rintro o (⟨e, _⟩ | ⟨e, _⟩); exact NK e; omega))
      have GK : gw ≠ K := shape_ne R.shp B.bk.sh (by simp)
      have R2 : Row w0 gw n zs w2 := (R.alloc _).block (r4.blk gw (by have := ownsRow_lt R; simp; omega) (by rintro o (⟨e, _⟩ | ⟨e, m, h | h⟩); exact GK e; rw [(R.alloc _).shp] at h; simp at h; rw [(R.alloc _).shp] at h; simp at h))
      have Np : NB ≠ wr.heap.size := Nat.ne_of_lt N.lt
      have Gp : gw ≠ wr.heap.size := Nat.ne_of_lt (ownsRow_lt R)
      have Z := B.add (val := i) (z := z) (ps := (i : Int) * 1024 + 4) rfl r4 r1 r2 r3 (by rw [HPL.out])
      have N3 : NR w0 NB n (P.map (·.2)) (w2.setCell ⟨wr.heap.size, 2, none⟩ (.int .i64 ((i : Int) * 1024 + 4))) := N2.block (Below.heap_setCell _ _ _ _ Np)
      have R3 : Row w0 gw n zs (w2.setCell ⟨wr.heap.size, 2, none⟩ (.int .i64 ((i : Int) * 1024 + 4))) := R2.block (Below.heap_setCell _ _ _ _ Gp)
      have hml : (P.map (·.2)).length = i := by rw [List.length_map]; exact HPL.out
      have N4 := N3.store (by omega) wr.heap.size
      rw [hml] at N4
      have GN : gw ≠ NB := shape_ne R.shp N.shp (by simp)
      have R4 : Row w0 gw n zs ((w2.setCell ⟨wr.heap.size, 2, none⟩ (.int .i64 ((i : Int) * 1024 + 4))).setCell ⟨NB, i, none⟩ (.pointer (some ⟨wr.heap.size, 0, none⟩))) := R3.block (Below.heap_setCell _ _ _ _ GN)
      have Z4 := Z.other (Frm.setCell _ NB i (.pointer (some ⟨wr.heap.size, 0, none⟩)) (fun k _ => k = NB) rfl) N3.shp (by decide) L1 (ownsRow_ge N3.2)
      obtain ⟨u3, hu3⟩ := cell_of_shape N2.shp i (by omega)
      have nf3 := N2.2.frozenAt i
      have hlw : wr.heap.size < w2.heap.size := nd2.lt
      have hlN := N2.lt
      clear hml
      go_wp2_with fail
      refine (at_calls 4 i _ (by omega) (by omega) (by omega) (by omega)).mono ?_
      rintro e w3 ⟨rfl, rfl⟩
      go_wp2_with fail
      go_roundw
      case rel =>
        refine ⟨i + 1, P ++ [(z, wr.heap.size)], fs', cs', t', vf', vt', by go_num, by omega, by rw [List.length_append, HPL.out]; rfl, ?_, Z4, ?_, R4⟩
        · intro j hj
          by_cases hji : j < i
          · rw [← HWN.out j hji]
            simp [wn, List.getElem?_append_left (show j < P.length by rw [HPL.out]; exact hji)]
          · obtain rfl : j = i := by omega
            rw [HZ.out]
            simp [wn, ← HPL.out]
        · rw [List.map_append]; exact N4
      case measure => simp [intOf]; omega
    · obtain rfl : i = n := by omega
      have z74 := B.q74
      have z75 := B.q75
      have f74 := B.qs.fzQ 74
      have f75 := B.qs.fzQ 75
      have NQ : NB ≠ Q := shape_ne N.shp B.qs.shQ (by simp)
      have HPL : Hid (P.length = i) := hPl
      have HWN : Hid (∀ j, j < i → wn P j = zs.getD j 0) := hwn
      clear hPl hwn
      go_wp2_with fail
      go_ret2
      exact ⟨Q, W, K, NB, bb, P, fs, cs, t, vf, vt, rfl, HPL.out, HWN.out, (B.moving 1).whole whole, N.block ((Below.heap_setCell _ _ _ _ NQ).trans (Below.heap_setCell _ _ _ _ NQ)), L1, R.block ((Below.heap_setCell _ _ _ _ (by have := hgq.out; simp; omega)).trans (Below.heap_setCell _ _ _ _ (by have := hgq.out; simp; omega))), hgq.out⟩
end Go.Proofs.Ybulkaeuq
