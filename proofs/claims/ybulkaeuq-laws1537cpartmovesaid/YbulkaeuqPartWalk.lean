/-
  LawS1537CPartMove walked. By the prover of seat b1537a.
-/
import Derived.Test.YbulkaeuqBuild
import Derived.OpenShut
namespace Go.Proofs.Ybulkaeuq
open Go.RowKit

theorem heap_min {P es : List (Int × Nat)} {a : Nat} {l : Int} (hp : es.Perm (P.drop a)) (ho : Ord es (fun _ => False)) (h1 : ∃ j, a ≤ j ∧ j < P.length ∧ l = wn P j) (h2 : ∀ j, a ≤ j → j < P.length → l ≤ wn P j) : wn es 0 = l := by
  obtain ⟨j, ha, hj, rfl⟩ := h1
  have hm : (wn P j, nn P j) ∈ es := by
    rw [hp.mem_iff]
    have : (P.drop a)[j - a]'(by simp; omega) = (wn P j, nn P j) := by
      rw [List.getElem_drop, pair_get]
      congr 2 <;> omega
    rw [← this]
    exact List.getElem_mem _
  obtain ⟨i, hi, he⟩ := List.getElem_of_mem hm
  have h3 := ho.head i hi
  rw [← wn_get es i hi, he] at h3
  have h4 : (wn es 0, nn es 0) ∈ P.drop a := hp.mem_iff.1 (mem_pair es 0 (by omega))
  obtain ⟨j', h5, h6, h7⟩ := mem_drop_idx h4
  simp at h7
  have := h2 j' h5 h6
  rw [← h7.1] at this
  have h3' : wn es 0 ≤ wn P j := h3
  omega

theorem drewN_add (w : World) (a b : Nat) : (w.drewN a).drewN b = w.drewN (a + b) := by simp [World.drewN, Nat.add_assoc]

/-- a node that has been moved: its position names the heap -/
theorem moved_pos {base Q : Nat} {v : Value} {es P : List (Int × Nat)} {x : Nat → Prop} {w : World} {a i : Nat} (q : HQ base Q 2 v es x w) (hp : es.Perm (P.drop a)) (ha : a ≤ i) (hi : i < P.length) : ∃ j : Nat, j < es.length ∧ w.cell? ⟨nn P i, 2, none⟩ = some (.int .i64 ((j : Int) * 1024 + 1)) := by
  have hm : (wn P i, nn P i) ∈ es := by
    rw [hp.mem_iff]
    have : (P.drop a)[i - a]'(by simp; omega) = (wn P i, nn P i) := by
      rw [List.getElem_drop, pair_get]
      congr 2 <;> omega
    rw [← this]
    exact List.getElem_mem _
  obtain ⟨j, hj, he⟩ := List.getElem_of_mem hm
  have := (q.np j hj).2
  rw [← nn_get es j hj, he] at this
  exact ⟨j, hj, this⟩

set_option maxHeartbeats 4000000 in
set_option maxRecDepth 100000 in
theorem partMove_walk (ao : Option Addr) (n cap0 : Nat) (zs : List Int) (d : Int) (w : World) (hn : n ≤ 1024) (hz : zs.length = n)
    (hrow : 0 < n → ∃ b off, ao = some ⟨b, off, none⟩ ∧ b < w.heap.size ∧ ∀ j, j < n → w.cell? ⟨b, off + j, none⟩ = some (.int .u16 (zs.getD j 0)))
    (hzb : ∀ j, j < n → 0 ≤ zs.getD j 0 ∧ zs.getD j 0 ≤ 65535) (d0 : 0 ≤ d) (d1 : d ≤ 65535) :
    Calls Yba.prog 6 #[.slice ao n cap0, .int .u16 d] w fun e w' => e = .returned (.bool true) ∧ Below w.heap.size w w' := by
  have HROW : Hid (0 < n → ∃ b off, ao = some ⟨b, off, none⟩ ∧ b < w.heap.size ∧ ∀ j, j < n → w.cell? ⟨b, off + j, none⟩ = some (.int .u16 (zs.getD j 0))) := hrow
  have hn1 : (n : Int) ≤ 1024 := by omega
  obtain ⟨room, hroom⟩ : ∃ room : Nat, d % 257 = (room : Int) := Int.eq_ofNat_of_zero_le (Int.emod_nonneg _ (by omega))
  have hr : room ≤ 256 := by omega
  obtain ⟨m0, hm0⟩ : ∃ m0, m0 = 256 - room := ⟨_, rfl⟩
  have hm1 : (256 : Int) - (room : Int) = (m0 : Int) := by omega
  have HM0 : Hid (m0 = 256 - room) := hm0
  have hm2 : m0 ≤ 256 := by omega
  clear hrow hm0
  obtain ⟨i0, hi0, hz0, hz1, hz2⟩ := info_parts Yba.info2
  go_enter Yba.func6, Yba.ntmps6
  go_wp2_with (at_make; refine wpList_make_full _ rfl _ _ 22 rfl w.heap.size 2 i0 (.int .i64 0) 1 Yba.underlying22 hi0 hz0 hz1 _ _ _ _ n rfl rfl (by omega) (by omega) (by rw [hz2]; omega) (by unfold maxLen; omega) (Nat.le_refl _) ?_; intro w1 hown1 hgr1)
  have r3 := row_made hown1
  have bel3 : Below w.heap.size w w1 := (Below.refl _ _).grown hgr1 (Nat.le_refl _) (fun k hk => by cases hk)
  clear hown1 hgr1
  go_loopw [27] (fun s wx => ∃ (j : Nat) (xs : List Int), s = .int .i64 j ∧ j ≤ n ∧ Row w w.heap.size n xs wx ∧ Below w.heap.size w wx ∧ ∀ t, t < j → xs.getD t 0 = zs.getD t 0) (fun s _ => n - (intOf s).toNat)
  case atStart => exact ⟨0, _, rfl, by omega, r3, bel3, fun t ht => absurd ht (Nat.not_lt_zero _)⟩
  case round =>
    obtain ⟨j, xs, rfl, hj, r4, bel4, hxs⟩ := hrel
    have HXS : Hid (∀ t, t < j → xs.getD t 0 = zs.getD t 0) := hxs
    clear hxs
    by_cases hjn : j < n
    · obtain ⟨b, off, rfl, hb, hc⟩ := HROW.out (by omega)
      have hcj := (bel4.cell (p := ⟨b, off + j, none⟩) hb).trans (hc j hjn)
      obtain ⟨z1, z2⟩ := hzb j hjn
      have hgc := r4.cell j hjn
      have hgf := r4.frz j
      obtain ⟨z, hzz⟩ : ∃ z, zs.getD j 0 = z := ⟨_, rfl⟩
      rw [hzz] at hcj z1 z2
      have HZZ : Hid (zs.getD j 0 = z) := hzz
      clear hzz hc
      go_wp2_with fail
      go_roundw
      case rel =>
        refine ⟨j + 1, xs.set j z, by go_num, by omega, r4.store j z, bel4.setCell (Nat.le_refl _) _, fun t ht => ?_⟩
        have hxl := r4.len
        by_cases e : t = j
        · subst e; rw [HZZ.out]; simp [show t < xs.length by omega]
        · have := HXS.out t (by omega)
          simp only [List.getD_eq_getElem?_getD] at this ⊢
          rw [List.getElem?_set_ne (fun h => e h.symm)]
          exact this
      case measure => simp [intOf]; omega
    · obtain rfl : j = n := by omega
      go_wp2_with fail
      refine (build_calls w w.heap.size j xs false _ hn r4 bel4).mono ?_
      rintro e w2 ⟨Q, W, K, NB, bb, P, fs, cs, t, vf, vt, rfl, hPl, hwn, B, N, L, R, hgq⟩
      have hwh : Hid (∀ i, i < P.length → 0 ≤ wn P i ∧ wn P i < 65536) := by
        intro i hi
        rw [hPl] at hi
        rw [hwn i hi, HXS.out i hi]
        have := hzb i hi
        omega
      have HPL : Hid (P.length = j) := hPl
      have HWN : Hid (∀ i, i < j → wn P i = xs.getD i 0) := hwn
      have hgq' : w.heap.size < Q := hgq
      clear hPl hwn hgq r4 bel4
      have NK : NB ≠ K := shape_ne N.shp B.bk.sh (by simp)
      have GK : w.heap.size ≠ K := shape_ne R.shp B.bk.sh (by simp)
      obtain ⟨k, hk⟩ : ∃ k, min P.length room = k := ⟨_, rfl⟩
      have hkj : k ≤ j := by rw [HPL.out] at hk; omega
      have hkr : k ≤ room := by omega
      have hkm : min (j : Int) (room : Int) = (k : Int) := by rw [HPL.out] at hk; omega
      have hkk : Hid (min P.length room = k) := hk
      clear hk
      go_wp2_with fail
      refine (move_part w.heap.size bb Q W K P w room m0 fs cs t vf vt none _ HM0.out B hr (by rw [HPL.out]; exact hn) hwh.out).mono ?_
      rintro e w3 ⟨fs', cs', t', vf', vt', sp', rfl, B', kp⟩
      rw [hkk.out] at B'
      rw [hkk.out]
      have hret : ((256 - room + k : Nat) : Int) = (m0 : Int) + (k : Int) := by have := HM0.out; omega
      rw [hret]
      clear hret
      obtain ⟨mv, b, hmv, hb1, hb2⟩ : ∃ (mv : Int) (b : Bool), (if P.length ≤ room then (0 : Int) else 1) = mv ∧ (mv == 0) = b ∧ ((j : Int) == (k : Int)) = b := by
        have hk := hkk.out
        rw [HPL.out] at hk ⊢
        by_cases hnr : j ≤ room
        · exact ⟨0, true, if_pos hnr, rfl, beq_iff_eq.2 (by omega)⟩
        · exact ⟨1, false, if_neg hnr, rfl, beq_eq_false_iff_ne.2 (by omega)⟩
      rw [hmv, HPL.out] at B'
      clear hmv
      have R' : Row w w.heap.size j xs w3 := R.block (kp _ (by have := B.qs.Qb; omega) GK ⟨2, _, R.shp, Or.inl rfl⟩)
      have N' : NR w NB j (P.map (·.2)) w3 := N.block (kp _ L NK ⟨28, _, N.shp, Or.inr rfl⟩)
      clear R N kp B
      obtain ⟨fa, fc, rfl⟩ := B'.bk.vf_form
      obtain ⟨ta, tc, rfl⟩ : ∃ ta tc, vt' = .slice ta t'.length tc := by
        rcases B'.bk.vt_room with ⟨h1, h2⟩ | ⟨g, c, h1, _⟩
        · exact ⟨none, 0, by rw [h1, h2]; rfl⟩
        · exact ⟨_, _, h1⟩
      obtain ⟨g1, g2, _, _⟩ := tail_get B'.ns (by rw [HPL.out]; omega)
      have g5 := flatten_len B'.bk
      have hlM : (fs'.length : Int) * 255 + (t'.length : Int) = (j : Int) - (k : Int) := by omega
      have hfl : fs'.length < 1000 := by omega
      have htl : t'.length < 100000 := by omega
      have q73 := B'.qs.q73
      have q74 := B'.q74
      obtain ⟨v, es, q1, q2⟩ := B'.hq
      have hel : es.length = k := by rw [q2.length_eq, List.length_drop, HPL.out]; omega
      obtain ⟨va, vc, rfl⟩ : ∃ va vc, v = .slice va k vc := by
        rcases q1.hv.own.2 with ⟨h1, h2⟩ | ⟨g, c, _, h1, _⟩
        · exact ⟨none, 0, by rw [h1, ← hel, h2]⟩
        · exact ⟨_, _, by rw [h1, hel]⟩
      have q2c := q1.hv.hdr
      have HEL : Hid (es.length = k) := hel
      clear hel g1 g2 g5
      go_wp2_with fail
      refine (bucket_calls W K _ B'.qs.wc).mono ?_
      rintro e w4 ⟨rfl, rfl⟩
      go_wp2_with fail
      refine (len_calls K fa ta fs'.length fc t'.length tc _ B'.bk.c0 B'.bk.c1 hfl htl).mono ?_
      rintro e w5 ⟨rfl, q, rfl⟩
      obtain ⟨a, ha⟩ : ∃ a, a + k = j := ⟨j - k, by omega⟩
      have haj : (j : Int) - (k : Int) = (a : Int) := by omega
      have hajn : Hid (j - k = a) := by show j - k = a; omega
      have HA : Hid (a + k = j) := ha
      by_cases hk0 : 0 < k
      · obtain ⟨gh, ch, hve⟩ := ownsRow_form q1.hv.own (by rw [HEL.out]; exact hk0)
        rw [HEL.out] at hve
        simp at hve
        obtain ⟨rfl, rfl⟩ := hve
        have hst : HeapSt w4 w.heap.size Q 2 gh vc es := ⟨by rw [HEL.out]; exact q1.hv.hdr, by have := q1.hv.own; rw [HEL.out] at this ⊢; exact this, q1.hv.shB⟩
        have hmin := hst.even 0 (by rw [HEL.out]; exact hk0)
        rw [Nat.zero_mul] at hmin
        obtain ⟨hm, hhm⟩ : ∃ hm, wn es 0 = hm := ⟨_, rfl⟩
        rw [hhm] at hmin
        have HHM : Hid (wn es 0 = hm) := hhm
        clear hhm
        have hca := R'.cell a (by omega)
        have ha1 : a < j := by omega
        clear ha
        go_wp2_with fail
        go_loop [15, 16] (fun s15 s16 => ∃ (i : Nat) (l : Int), s15 = .int .i64 l ∧ s16 = .int .i64 i ∧ a ≤ i ∧ i ≤ j ∧ (∃ t, a ≤ t ∧ t < j ∧ l = xs.getD t 0) ∧ ∀ t, a ≤ t → t < i → l ≤ xs.getD t 0) (fun _ s16 => j - (intOf s16).toNat)
        case atStart => exact ⟨a, _, rfl, rfl, Nat.le_refl _, by omega, ⟨a, Nat.le_refl _, ha1, by simp⟩, fun t h1 h2 => by omega⟩
        case round =>
          obtain ⟨i, l, rfl, rfl, hi1, hi2, hl1, hl2⟩ := hrel
          have HL1 : Hid (∃ t, a ≤ t ∧ t < j ∧ l = xs.getD t 0) := hl1
          have HL2 : Hid (∀ t, a ≤ t → t < i → l ≤ xs.getD t 0) := hl2
          clear hl1 hl2
          by_cases hij : i < j
          · have hci := R'.cell i hij
            obtain ⟨xi, hxi⟩ : ∃ xi, xs.getD i 0 = xi := ⟨_, rfl⟩
            rw [hxi] at hci
            have HXI : Hid (xs.getD i 0 = xi) := hxi
            clear hxi
            go_wp2_with fail
            go_round
            case rel =>
              refine ⟨i + 1, min l xi, rfl, by go_num, by omega, by omega, ?_, ?_⟩
              · by_cases hle : l ≤ xi
                · rw [Int.min_eq_left hle]; exact HL1.out
                · rw [Int.min_eq_right (by omega)]; exact ⟨i, hi1, hij, HXI.out.symm⟩
              · intro t h1 h2
                by_cases hti : t = i
                · subst hti; rw [HXI.out]; exact Int.min_le_right _ _
                · exact Int.le_trans (Int.min_le_left _ _) (HL2.out t h1 (by omega))
            case measure => simp [intOf]; omega
          · have hml : hm = l := by
              rw [← HHM.out]
              obtain ⟨t, h1, h2, h3⟩ := HL1.out
              refine heap_min q2 q1.ord ⟨t, by rw [hajn.out]; exact h1, by rw [HPL.out]; exact h2, by rw [HWN.out t h2]; exact h3⟩ ?_
              intro t' h4 h5
              rw [hajn.out] at h4
              rw [HPL.out] at h5
              rw [HWN.out t' h5]
              exact HL2.out t' h4 (by omega)
            subst hml
            go_wp2_with fail
            go_loopw [122] (fun s wx => ∃ i q' : Nat, s = .int .i64 i ∧ i ≤ j ∧ wx = w4.drewN q') (fun s _ => j - (intOf s).toNat)
            case atStart => exact ⟨0, _, rfl, by omega, rfl⟩
            case round =>
              obtain ⟨i, q', rfl, hi, hwr⟩ := hrel
              have HWR : Hid (wr = w4.drewN q') := hwr
              have cellw : Hid (∀ p, wr.cell? p = w4.cell? p) := fun p => by rw [hwr]; rfl
              clear hwr
              by_cases hij : i < j
              · have hnc := (cellw.out _).trans (N'.cell i (by rw [List.length_map, HPL.out]; exact hij))
                have hne : (P.map (·.2)).getD i 0 = nn P i := by simp [nn, show i < P.length by rw [HPL.out]; exact hij]
                rw [hne] at hnc
                clear hne
                by_cases hai : a ≤ i
                · have haii : (a : Int) ≤ (i : Int) := by omega
                  obtain ⟨pj, hpj, hpc0⟩ := moved_pos q1 q2 (show j - k ≤ i by rw [hajn.out]; exact hai) (by rw [HPL.out]; exact hij)
                  have hpc := (cellw.out _).trans hpc0
                  clear hpc0
                  have hand := and_at pj 1 (by omega) (by omega) (by omega) (by rw [HEL.out] at hpj; omega)
                  go_wp2_with fail
                  go_roundw
                  case rel => exact ⟨i + 1, q', by go_num, by omega, HWR.out⟩
                  case measure => simp [intOf]; omega
                · have haii : ¬ (a : Int) ≤ (i : Int) := by omega
                  have hpc := (cellw.out _).trans (B'.pos i (by rw [hajn.out]; omega) (by rw [HPL.out]; exact hij))
                  go_wp2_with fail
                  go_quiet ((go_at_call 17; exact Calls.quiet_of_same (at_calls 4 i _ (by omega) (by omega) (by omega) (by omega))))
                  go_wp2_with fail
                  go_roundw
                  case rel => exact ⟨i + 1, q' + nq, by go_num, by omega, by rw [HWR.out]; exact drewN_add w4 q' nq⟩
                  case measure => simp [intOf]; omega
              · go_wp2_with fail
                go_ret
                exact ⟨rfl, by rw [HWR.out]; exact (B'.drewN q').bel⟩
      · clear ha
        go_wp2_with fail
        go_loopw [122] (fun s wx => ∃ i q' : Nat, s = .int .i64 i ∧ i ≤ j ∧ wx = w4.drewN q') (fun s _ => j - (intOf s).toNat)
        case atStart => exact ⟨0, _, rfl, by omega, rfl⟩
        case round =>
          obtain ⟨i, q', rfl, hi, hwr⟩ := hrel
          have HWR : Hid (wr = w4.drewN q') := hwr
          have cellw : Hid (∀ p, wr.cell? p = w4.cell? p) := fun p => by rw [hwr]; rfl
          clear hwr
          by_cases hij : i < j
          · have hnc := (cellw.out _).trans (N'.cell i (by rw [List.length_map, HPL.out]; exact hij))
            have hne : (P.map (·.2)).getD i 0 = nn P i := by simp [nn, show i < P.length by rw [HPL.out]; exact hij]
            rw [hne] at hnc
            clear hne
            by_cases hai : a ≤ i
            · have hA := HA.out
              omega
            · have haii : ¬ (a : Int) ≤ (i : Int) := by omega
              have hpc := (cellw.out _).trans (B'.pos i (by rw [hajn.out]; omega) (by rw [HPL.out]; exact hij))
              go_wp2_with fail
              go_quiet ((go_at_call 17; exact Calls.quiet_of_same (at_calls 4 i _ (by omega) (by omega) (by omega) (by omega))))
              go_wp2_with fail
              go_roundw
              case rel => exact ⟨i + 1, q' + nq, by go_num, by omega, by rw [HWR.out]; exact drewN_add w4 q' nq⟩
              case measure => simp [intOf]; omega
          · go_wp2_with fail
            go_ret
            exact ⟨rfl, by rw [HWR.out]; exact (B'.drewN q').bel⟩
end Go.Proofs.Ybulkaeuq
