/-
  zzs1537cbuild walked once more: the run that it leaves is empty. By the prover of seat b1537a.
-/
import Derived.Test.YbulkaeuqRun
namespace Go.Proofs.Ybulkaeuq
open Go.RowKit

/-- what build leaves, the run's cells among it -/
def BPostW (w0 : World) (gw n : Nat) (zs : List Int) (whole : Bool) (e : Ending) (w' : World) : Prop :=
  ∃ Q W K NB bb P fs cs t vf vt, e = .returned (.tuple #[.pointer (some ⟨Q, 0, none⟩), .slice (some ⟨NB, 0, none⟩) n n]) ∧ P.length = n ∧ (∀ i, i < n → wn P i = zs.getD i 0) ∧
    MB w0.heap.size bb Q W K 1 whole P w0 fs cs t vf vt none P.length P.length [] w' ∧ NR w0 NB n (P.map (·.2)) w' ∧ NB < bb ∧ Row w0 gw n zs w' ∧ gw < Q ∧ RunC Q (.slice none 0 0) 0 0 0 w'

theorem z56run : Yba.zeroCells56[3]? = some (.slice none 0 0) ∧ Yba.zeroCells56[4]? = some (.int .i64 0) ∧ Yba.zeroCells56[5]? = some (.int .i64 0) ∧ Yba.zeroCells56[6]? = some (.int .i64 0) ∧ Yba.zeroCells56[7]? = some (.int .i64 0) := ⟨by kernel_rfl, by kernel_rfl, by kernel_rfl, by kernel_rfl, by kernel_rfl⟩

theorem RunC.start {w : World} {Q : Nat} {v : Value} (hQ : w.heap[Q]? = some (.cells (Yba.zeroCells56.setIfInBounds 73 v) 56 (0, 0))) : RunC Q (.slice none 0 0) 0 0 0 w := by
  obtain ⟨s3, s4, s5, s6, s7⟩ := z56run
  have cQ : ∀ o, o ≠ 73 → w.cell? ⟨Q, o, none⟩ = Yba.zeroCells56[o]? := fun o ho => by
    rw [cell_of_heap hQ, Array.getElem?_setIfInBounds_ne (fun e => ho e.symm)]
  exact ⟨(cQ 3 (by omega)).trans s3, (cQ 4 (by omega)).trans s4, (cQ 5 (by omega)).trans s5, (cQ 6 (by omega)).trans s6, (cQ 7 (by omega)).trans s7⟩

theorem RunC.set {Q : Nat} {v : Value} {n live : Nat} {last : Int} {w : World} (h : RunC Q v n live last w) (b o : Nat) (u : Value) (hb : b ≠ Q ∨ 7 < o) : RunC Q v n live last (w.setCell ⟨b, o, none⟩ u) :=
  h.frm (S := fun k o' => k = b ∧ o' = o) (Frm.setCell w b o u _ ⟨rfl, rfl⟩) (fun o' h1 h2 ⟨e1, e2⟩ => by rcases hb with hb | hb; exact hb e1.symm; omega)

theorem buildW_start {w0 w w1 : World} {gw n : Nat} {zs : List Int} (r : Row w0 gw n zs w) (bel : Below w0.heap.size w0 w) {cW : Array Value} (hcW : cW.size = 20) (hcW0 : cW[0]? = some (.pointer (some ⟨w.heap.size + 1 + 1, 0, none⟩)))
    (o1 : w1.ownsRow w0.heap.size 28 1 (.slice (some ⟨w.heap.size + 1 + 1 + 1, 0, none⟩) n n) n (madeCells (Value.pointer none).cells (n * 1)).toList)
    (g1 : (((w.alloc (.cells (Yba.zeroCells56.setIfInBounds 73 (.pointer (some ⟨w.heap.size + 1, 0, none⟩))) 56)).alloc (.cells cW 70)).alloc (.cells Yba.zeroCells75 75)).grownBy w1 none) :
    MB w0.heap.size w1.heap.size w.heap.size (w.heap.size + 1) (w.heap.size + 1 + 1) 0 false [] w0 [] [] [] (.slice none 0 0) (.slice none 0 0) none 0 0 [] w1 ∧ NR w0 (w.heap.size + 1 + 1 + 1) n [] w1 ∧ Row w0 gw n zs w1 ∧ w.heap.size + 1 + 1 + 1 < w1.heap.size ∧ RunC w.heap.size (.slice none 0 0) 0 0 0 w1 := by
  obtain ⟨a1, a2, a3, a4⟩ := three_alloc w (.cells (Yba.zeroCells56.setIfInBounds 73 (.pointer (some ⟨w.heap.size + 1, 0, none⟩))) 56) (.cells cW 70) (.cells Yba.zeroCells75 75)
  have hs : (((w.alloc (.cells (Yba.zeroCells56.setIfInBounds 73 (.pointer (some ⟨w.heap.size + 1, 0, none⟩))) 56)).alloc (.cells cW 70)).alloc (.cells Yba.zeroCells75 75)).heap.size = w.heap.size + 3 := by simp
  have hb0 := bel.size
  have hnb := ownsRow_lt o1
  have b1 : ∀ k, k < w.heap.size + 3 → w1.heap[k]? = (((w.alloc (.cells (Yba.zeroCells56.setIfInBounds 73 (.pointer (some ⟨w.heap.size + 1, 0, none⟩))) 56)).alloc (.cells cW 70)).alloc (.cells Yba.zeroCells75 75)).heap[k]? := fun k hk => g1.block k (by rw [hs]; exact hk) (by simp)
  have hgl := ownsRow_lt r
  refine ⟨MB.start ((b1 _ (by omega)).trans a1) rfl ((b1 _ (by omega)).trans a2) hcW hcW0 ((b1 _ (by omega)).trans a3) hb0 (by omega) (by omega) (by omega) (by omega) (Nat.le_refl _) ?_, ⟨by simp, ?_⟩, r.block ((b1 _ (by omega)).trans (a4 gw hgl)), hnb, RunC.start ((b1 _ (by omega)).trans a1)⟩
  · exact (((bel.alloc hb0 _).alloc (by simp; omega) _).alloc (by simp; omega) _).grown g1 (by simp; omega) (fun k hk => by cases hk)
  · have e : (madeCells (Value.pointer none).cells (n * 1)).toList = ptrs [] ++ List.replicate (n - ([] : List Nat).length) (.pointer none) := by
      rw [Nat.mul_one]
      show (madeCells #[Value.pointer none] n).toList = _
      rw [toList_madeCells_one]; simp [ptrs]
    rw [← e]
    exact o1

set_option maxHeartbeats 4000000 in
set_option maxRecDepth 100000 in
theorem buildW_calls (w0 : World) (gw n : Nat) (zs : List Int) (whole : Bool) (w : World) (hn : n ≤ 1024) (r : Row w0 gw n zs w) (bel : Below w0.heap.size w0 w) :
    Calls Yba.prog 13 #[.slice (some ⟨gw, 0, none⟩) n n, .bool whole] w (BPostW w0 gw n zs whole) := by
  obtain ⟨i0, hi0, hz0, hz1, hz2⟩ := info_parts Yba.info28
  have hgl := ownsRow_lt r
  go_enter Yba.func13, Yba.ntmps13
  go_wp2_with fail
  refine (bucket_calls (w.heap.size + 1) (w.heap.size + 1 + 1) _ (by go_simp)).mono ?_
  rintro e w1 ⟨rfl, rfl⟩
  go_wp2_with (at_make; refine wpList_make_full _ rfl _ _ 44 rfl w0.heap.size 28 i0 (.pointer none) 1 Yba.underlying44 hi0 hz0 hz1 _ _ _ _ n rfl rfl (by omega) (by omega) (by rw [hz2]; omega) (by unfold maxLen; omega) (by have := bel.size; simp; omega) ?_; intro w1 o1 g1)
  simp only [World.size_alloc] at o1
  obtain ⟨M1, N1, R1, L1, C1⟩ := buildW_start r bel (by rfl) (by rfl) o1 g1
  clear o1 g1
  generalize hQe : w.heap.size = Q at *
  generalize hWe : Q + 1 = W at *
  generalize hKe : W + 1 = K at *
  generalize hNe : K + 1 = NB at *
  generalize w1.heap.size = bb at *
  have hgq : Hid (gw < Q) := hgl
  clear hQe hWe hKe hNe
  go_loopw [36] (fun s wr => ∃ (i : Nat) (P : List (Int × Nat)) (fs : List Nat) (cs : List (List Nat)) (t : List Nat) (vf vt : Value), s = .int .i64 i ∧ i ≤ n ∧ P.length = i ∧ (∀ j, j < i → wn P j = zs.getD j 0) ∧ MB w0.heap.size bb Q W K 0 false P w0 fs cs t vf vt none P.length P.length [] wr ∧ NR w0 NB n (P.map (·.2)) wr ∧ Row w0 gw n zs wr ∧ RunC Q (.slice none 0 0) 0 0 0 wr) (fun s _ => n - (intOf s).toNat)
  case atStart => exact ⟨0, [], [], [], [], _, _, rfl, by omega, rfl, fun j hj => absurd hj (Nat.not_lt_zero _), M1, N1, R1, C1⟩
  case round =>
    obtain ⟨i, P, fs, cs, t, vf, vt, rfl, hi, hPl, hwn, B, N, R, C⟩ := hrel
    have HC : Hid (RunC Q (.slice none 0 0) 0 0 0 wr) := C
    clear C
    by_cases hin : i < n
    · have hzc := R.cell i hin
      have hfl : fs.length < 900 := by
        have h1 := flatten_len B.bk
        have h2 := (tail_get B.ns (Nat.le_refl _)).2.1
        omega
      have hlen : (cs.flatten ++ t).length = i := by rw [B.ns, List.length_map, List.length_take]; omega
      obtain ⟨z, hz⟩ : ∃ z, zs.getD i 0 = z := ⟨_, rfl⟩
      rw [hz] at hzc
      have HZ : Hid (zs.getD i 0 = z) := hz
      have HLEN : Hid ((cs.flatten ++ t).length = i) := hlen
      have HPL : Hid (P.length = i) := hPl
      have HWN : Hid (∀ j, j < i → wn P j = zs.getD j 0) := hwn
      clear hz hlen hPl hwn
      have b1 := B.bk.grown (World.grownBy_alloc wr (.cells #[.int .i64 z, .int .i64 i, .int .i64 0] 30) none) (fun k hk => by cases hk)
      have hbb1 := B.qs.bbl
      have nd1 : Nd (wr.alloc (.cells #[.int .i64 z, .int .i64 i, .int .i64 0] 30)) wr.heap.size z := ⟨shape?_alloc_new _ _ _, by simp, by simp⟩
      go_wp2_with fail
      refine (bpush_calls bb K wr.heap.size fs cs t vf vt _ b1 hfl (by simp; omega)).mono ?_
      rintro e w2 ⟨rfl, fs', cs', t', vf', vt', r1, r2, r3, r4⟩
      rw [HLEN.out]
      have nd2 := nd1.frm r4 (nd1.notB b1.sh 0)
      have np2 := nd2.frz
      obtain ⟨u2, hu2⟩ := cell_of_shape nd2.shp 2 (by decide)
      have NK : NB ≠ K := shape_ne N.shp B.bk.sh (by simp)
      have N2 : NR w0 NB n (P.map (·.2)) w2 := (N.block (Below.heap_alloc _ _ _ N.lt)).block (r4.blk NB (by have := N.lt; simp; omega) (by rintro o (⟨e, _⟩ | ⟨e, _⟩); exact NK e; omega))
      have GK : gw ≠ K := shape_ne R.shp B.bk.sh (by simp)
      have R2 : Row w0 gw n zs w2 := (R.alloc _).block (r4.blk gw (by have := ownsRow_lt R; simp; omega) (by rintro o (⟨e, _⟩ | ⟨e, m, h | h⟩); exact GK e; rw [(R.alloc _).shp] at h; simp at h; rw [(R.alloc _).shp] at h; simp at h))
      have Np : NB ≠ wr.heap.size := Nat.ne_of_lt N.lt
      have Gp : gw ≠ wr.heap.size := Nat.ne_of_lt (ownsRow_lt R)
      have Z := B.add (val := i) (z := z) (ps := (i : Int) * 1024 + 4) rfl r4 r1 r2 r3 (by rw [HPL.out])
      have N3 : NR w0 NB n (P.map (·.2)) (w2.setCell ⟨wr.heap.size, 2, none⟩ (.int .i64 ((i : Int) * 1024 + 4))) := N2.block (Below.heap_setCell _ _ _ _ Np)
      have R3 : Row w0 gw n zs (w2.setCell ⟨wr.heap.size, 2, none⟩ (.int .i64 ((i : Int) * 1024 + 4))) := R2.block (Below.heap_setCell _ _ _ _ Gp)
      have hml : (P.map (·.2)).length = i := by rw [List.length_map]; exact HPL.out
      have N4 := N3.store (by omega) wr.heap.size
      rw [hml] at N4
      have GN : gw ≠ NB := shape_ne R.shp N.shp (by simp)
      have R4 : Row w0 gw n zs ((w2.setCell ⟨wr.heap.size, 2, none⟩ (.int .i64 ((i : Int) * 1024 + 4))).setCell ⟨NB, i, none⟩ (.pointer (some ⟨wr.heap.size, 0, none⟩))) := R3.block (Below.heap_setCell _ _ _ _ GN)
      have Z4 := Z.other (Frm.setCell _ NB i (.pointer (some ⟨wr.heap.size, 0, none⟩)) (fun k _ => k = NB) rfl) N3.shp (by decide) L1 (ownsRow_ge N3.2)
      obtain ⟨u3, hu3⟩ := cell_of_shape N2.shp i (by omega)
      have nf3 := N2.2.frozenAt i
      have hlw : wr.heap.size < w2.heap.size := nd2.lt
      have hlN := N2.lt
      have C4 : Hid (RunC Q (.slice none 0 0) 0 0 0 ((w2.setCell ⟨wr.heap.size, 2, none⟩ (.int .i64 ((i : Int) * 1024 + 4))).setCell ⟨NB, i, none⟩ (.pointer (some ⟨wr.heap.size, 0, none⟩)))) := by
        have c1 := HC.out.frm (S := fun _ _ => False) (Frm.alloc wr (.cells #[.int .i64 z, .int .i64 i, .int .i64 0] 30) _) (fun _ _ _ f => f)
        have q1 := (B.qs.frmB B.bk.sh (Frm.alloc wr (.cells #[.int .i64 z, .int .i64 i, .int .i64 0] 30) _))
        have c2 := c1.frm r4 (fun o _ _ => (q1.notB b1.sh o).1)
        exact (c2.set _ _ _ (Or.inl (by have := B.qs.ltQ; omega))).set _ _ _ (Or.inl (shape_ne N.shp B.qs.shQ (by simp)))
      clear hml
      go_wp2_with fail
      refine (at_calls 4 i _ (by omega) (by omega) (by omega) (by omega)).mono ?_
      rintro e w3 ⟨rfl, rfl⟩
      go_wp2_with fail
      go_roundw
      case rel =>
        refine ⟨i + 1, P ++ [(z, wr.heap.size)], fs', cs', t', vf', vt', by go_num, by omega, by rw [List.length_append, HPL.out]; rfl, ?_, Z4, ?_, R4, C4.out⟩
        · intro j hj
          by_cases hji : j < i
          · rw [← HWN.out j hji]
            simp [wn, List.getElem?_append_left (show j < P.length by rw [HPL.out]; exact hji)]
          · obtain rfl : j = i := by omega
            rw [HZ.out]
            simp [wn, ← HPL.out]
        · rw [List.map_append]; exact N4
      case measure => simp [intOf]; omega
    · obtain rfl : i = n := by omega
      have z74 := B.q74
      have z75 := B.q75
      have f74 := B.qs.fzQ 74
      have f75 := B.qs.fzQ 75
      have NQ : NB ≠ Q := shape_ne N.shp B.qs.shQ (by simp)
      have HPL : Hid (P.length = i) := hPl
      have HWN : Hid (∀ j, j < i → wn P j = zs.getD j 0) := hwn
      clear hPl hwn
      go_wp2_with fail
      go_ret2
      exact ⟨Q, W, K, NB, bb, P, fs, cs, t, vf, vt, rfl, HPL.out, HWN.out, (B.moving 1).whole whole, N.block ((Below.heap_setCell _ _ _ _ NQ).trans (Below.heap_setCell _ _ _ _ NQ)), L1, R.block ((Below.heap_setCell _ _ _ _ (by have := hgq.out; simp; omega)).trans (Below.heap_setCell _ _ _ _ (by have := hgq.out; simp; omega))), hgq.out, (HC.out.set _ _ _ (Or.inr (by omega))).set _ _ _ (Or.inr (by omega))⟩
end Go.Proofs.Ybulkaeuq
