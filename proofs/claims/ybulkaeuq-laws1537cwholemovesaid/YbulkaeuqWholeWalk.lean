/-
  LawS1537CWholeMove walked. By the prover of seat b1537a.
-/
import Derived.Test.YbulkaeuqMoveW
import Derived.Laws.CopyOwn
import Derived.OpenShut
namespace Go.Proofs.Ybulkaeuq
open Go.RowKit

theorem copied {w w' : World} {g n : Nat} {zs : List Int} (hz : zs.length = n) (hg : w.heap.size ≤ g) (hn : n ≤ 1024) (h : w'.heap[g]? = some (.cells (splice (List.replicate n (Value.int .i64 0)) 0 (zs.map (Value.int .i64))).toArray 2 (0, 0))) : Row w g n zs w' := by
  have e : splice (List.replicate n (Value.int .i64 0)) 0 (zs.map (Value.int .i64)) = zs.map (Value.int .i64) := by
    simp [splice, hz]
  rw [e] at h
  exact ⟨by simp [hz], Or.inr ⟨g, n, _, rfl, hg, h, Nat.le_refl _, by unfold maxLen; omega, by simp [hz], by rw [Nat.mul_one]; exact List.take_of_length_le (by simp [hz])⟩⟩

theorem made_heap {w w1 : World} {n : Nat} (h : Row w w.heap.size n (List.replicate n 0) w1) : w1.heap[w.heap.size]? = some (.cells (List.replicate n (Value.int .i64 0)).toArray 2 (0, 0)) := by
  rcases h.2 with ⟨h', _⟩ | ⟨g, cap, cur, h', hbs, hg, r1, r2, r3, r4⟩
  · simp at h'
  · simp only [Value.slice.injEq, Option.some.injEq, Addr.mk.injEq, and_true, true_and] at h'
    obtain ⟨rfl, rfl⟩ := h'
    rw [hg]
    congr 2
    apply Array.ext'
    rw [List.map_replicate, List.take_of_length_le (by rw [Array.length_toList]; omega)] at r4
    rw [r4]

theorem perm_node {P : List (Int × Nat)} {l : List Nat} {n : Nat} (hp : l.Perm (P.map (·.2))) (hn : P.length = n) {j : Nat} (hj : j < n) : ∃ i, i < P.length ∧ l.getD j 0 = nn P i := by
  have hl : l.length = n := by have := hp.length_eq; simp at this; omega
  have hm : l.getD j 0 ∈ l := by simp [show j < l.length by omega]
  obtain ⟨e, he, h2⟩ := List.mem_map.1 (hp.mem_iff.1 hm)
  obtain ⟨i, hi, rfl⟩ := List.getElem_of_mem he
  exact ⟨i, hi, by rw [← h2, nn_get P i hi]⟩

theorem node_perm {P : List (Int × Nat)} {l : List Nat} {n : Nat} (hp : l.Perm (P.map (·.2))) (hn : P.length = n) {i : Nat} (hi : i < n) : ∃ j, j < n ∧ l.getD j 0 = nn P i := by
  have hl : l.length = n := by have := hp.length_eq; simp at this; omega
  have hm : nn P i ∈ l := by
    rw [hp.mem_iff, ← nn_get P i (by omega)]
    exact List.mem_map.2 ⟨_, List.getElem_mem _, rfl⟩
  obtain ⟨j, hj, he⟩ := List.getElem_of_mem hm
  exact ⟨j, by omega, by simp [hj, he]⟩

theorem ring_ord {f : Nat → Int} {l : List Nat} (ho : l.Pairwise (fun a b => f a ≤ f b)) {i j : Nat} (hij : i ≤ j) (hj : j < l.length) : f (l.getD i 0) ≤ f (l.getD j 0) := by
  by_cases e : i = j
  · subst e; exact Int.le_refl _
  · have := List.pairwise_iff_getElem.1 ho i j (by omega) hj (by omega)
    simpa [List.getD_eq_getElem?_getD, hj, show i < l.length by omega] using this

theorem run_last {P : List (Int × Nat)} {l : List Nat} {n : Nat} (hp : l.Perm (P.map (·.2))) (ho : l.Pairwise (fun a b => key P a ≤ key P b)) (hd : (P.map (·.2)).Nodup) (hn : P.length = n) (h0 : 0 < n) {b : Int} (h1 : ∃ t, t < n ∧ b = wn P t) (h2 : ∀ t, t < n → wn P t ≤ b) : key P (l.getD (n - 1) 0) = b := by
  have hl : l.length = n := by have := hp.length_eq; simp at this; omega
  obtain ⟨j, hj, he⟩ := perm_node hp hn (show n - 1 < n by omega)
  have h3 := h2 j (by omega)
  rw [← key_nn hd hj, ← he] at h3
  obtain ⟨t, ht, rfl⟩ := h1
  obtain ⟨i, hi, he2⟩ := node_perm hp hn ht
  have h4 := ring_ord ho (show i ≤ n - 1 by omega) (by omega)
  rw [he2, key_nn hd (by omega)] at h4
  omega

set_option maxHeartbeats 4000000 in
set_option maxRecDepth 100000 in
theorem wholeMove_walk (ao : Option Addr) (n cap0 : Nat) (zs : List Int) (d : Int) (w : World) (hn : n ≤ 1024) (hz : zs.length = n)
    (hrow : 0 < n → ∃ b off, ao = some ⟨b, off, none⟩ ∧ b < w.heap.size ∧ ∀ j, j < n → w.cell? ⟨b, off + j, none⟩ = some (.int .i64 (zs.getD j 0)))
    (hzb : ∀ j, j < n → zs.getD j 0 ≤ 9223372036854775807) (d0 : 0 ≤ d) (d1 : d ≤ 65535) :
    Calls Yba.prog 7 #[.slice ao n cap0, .int .u16 d] w fun e w' => e = .returned (.bool true) ∧ Below w.heap.size w w' := by
  have HROW : Hid (0 < n → ∃ b off, ao = some ⟨b, off, none⟩ ∧ b < w.heap.size ∧ ∀ j, j < n → w.cell? ⟨b, off + j, none⟩ = some (.int .i64 (zs.getD j 0))) := hrow
  have hn1 : (n : Int) ≤ 1024 := by omega
  obtain ⟨room, hroom⟩ : ∃ room : Nat, d % 257 = (room : Int) := Int.eq_ofNat_of_zero_le (Int.emod_nonneg _ (by omega))
  have hr : room ≤ 256 := by omega
  obtain ⟨m0, hm0⟩ : ∃ m0, m0 = 256 - room := ⟨_, rfl⟩
  have hm1 : (256 : Int) - (room : Int) = (m0 : Int) := by omega
  have HM0 : Hid (m0 = 256 - room) := hm0
  have hm2 : m0 ≤ 256 := by omega
  have HZ : Hid (zs.length = n) := hz
  have HZB : Hid (∀ j, j < n → zs.getD j 0 ≤ 9223372036854775807) := hzb
  clear hrow hm0 hz hzb
  have hsrc : Hid (∀ w1, Below w.heap.size w w1 → 0 < (zs.map (Value.int .i64)).length → some (⟨w.heap.size, 0, none⟩ : Addr) = some ⟨w.heap.size, 0, none⟩ ∧ ∃ ad, ao = some ad ∧ ∀ j v, (zs.map (Value.int .i64))[j]? = some v → w1.cell? (ad.add j) = some v) := by
    intro w1 bel hp
    have hp' : 0 < n := by rw [List.length_map, HZ.out] at hp; exact hp
    obtain ⟨b, off, rfl, hb, hc⟩ := HROW.out hp'
    refine ⟨rfl, _, rfl, fun j v hj => ?_⟩
    have hjn : j < n := by have := (List.getElem?_eq_some_iff.1 hj).1; rw [List.length_map, HZ.out] at this; exact this
    rw [Addr.add_lit, (bel.cell (p := ⟨b, off + j, none⟩) hb).trans (hc j hjn), ← hj]
    simp [show j < zs.length by rw [HZ.out]; exact hjn]
  obtain ⟨i0, hi0, hz0, hz1, hz2⟩ := info_parts Yba.info2
  have k1 : Hid ((Yba.prog.info? 2).map (·.size) = some 1) := by rw [hi0]; exact congrArg some hz1
  have k2 : Hid (0 + (zs.map (Value.int .i64)).length ≤ (List.replicate n (Value.int .i64 0)).length) := by rw [List.length_map, HZ.out, List.length_replicate, Nat.zero_add]; exact Nat.le_refl n
  have k3 : Hid (∀ v ∈ zs.map (Value.int .i64), v.oneCell' = true) := by
    intro v hv
    obtain ⟨x, _, rfl⟩ := List.mem_map.1 hv
    rfl
  have k4 : Hid ((zs.map (Value.int .i64)).length = Nat.min n n) := by rw [List.length_map, HZ.out]; exact (Nat.min_self n).symm
  have k5 : Hid (∀ w1, w.grownBy w1 none → Below w.heap.size w w1) := fun w1 hgr1 => (Below.refl _ _).grown hgr1 (Nat.le_refl _) (fun k hk => by cases hk)
  go_enter Yba.func7, Yba.ntmps7
  go_wp2_with (first | (at_make; refine wpList_make_full _ rfl _ _ 22 rfl w.heap.size 2 i0 (.int .i64 0) 1 Yba.underlying22 hi0 hz0 hz1 _ _ _ _ n rfl rfl (by omega) (by omega) (by rw [hz2]; omega) (by unfold maxLen; omega) (Nat.le_refl _) ?_; intro w1 hown1 hgr1) | (refine wpList_copy_splice rfl (.tmp 28) (.tmp 29) 22 22 rfl 2 Yba.underlying22 k1.out (some ⟨w.heap.size, 0, none⟩) ao n n n cap0 rfl rfl w.heap.size 0 (List.replicate n (.int .i64 0)) 2 (made_heap (row_made hown1)) (zs.map (Value.int .i64)) k4.out (hsrc.out _ (k5.out _ hgr1)) k2.out k3.out w.heap.size w (k5.out _ hgr1) (Nat.le_refl _) ?_; intro w2 hh2 bel2))
  have r4 := copied HZ.out (Nat.le_refl _) hn hh2.out
  refine (buildW_calls w w.heap.size n zs true _ hn r4 bel2).mono ?_
  rintro e w3 ⟨Q, W, K, NB, bb, P, fs, cs, t, vf, vt, rfl, hPl, hwn, B, N, L, R, hgq, RC⟩
  have HPL : Hid (P.length = n) := hPl
  have HWN : Hid (∀ i, i < n → wn P i = zs.getD i 0) := hwn
  have hgq' : w.heap.size < Q := hgq
  clear hPl hwn hgq r4 bel2 hh2 hown1 hgr1
  have NK : NB ≠ K := shape_ne N.shp B.bk.sh (by simp)
  have GK : w.heap.size ≠ K := shape_ne R.shp B.bk.sh (by simp)
  by_cases hcase : 0 < n ∧ n ≤ room
  · obtain ⟨hn0, hnr⟩ := hcase
    have hnri : (n : Int) ≤ (room : Int) := by omega
    go_wp2_with fail
    refine (move_whole w.heap.size bb Q W K P w room m0 fs cs t vf vt none _ HM0.out B RC hr (by rw [HPL.out]; exact hn0) (by rw [HPL.out]; exact hnr) (fun i hi => by rw [HPL.out] at hi; rw [HWN.out i hi]; exact HZB.out i hi)).mono ?_
    rintro e w4 ⟨fs', cs', t', vf', vt', sp', G, cc, l, rfl, B', kp, o1, o2, rc, hc1, hc2, rg, ps⟩
    have hret : ((m0 + P.length : Nat) : Int) = (m0 : Int) + (n : Int) := by rw [HPL.out]; omega
    rw [hret]
    clear hret
    rw [HPL.out] at rc hc1 rg ps
    have R' : Row w w.heap.size n zs w4 := R.block (kp _ (by have := B.qs.Qb; omega) GK ⟨2, _, R.shp, Or.inl rfl⟩)
    have N' : NR w NB n (P.map (·.2)) w4 := N.block (kp _ L NK ⟨28, _, N.shp, Or.inr rfl⟩)
    clear R N kp B RC
    obtain ⟨fa, fc, rfl⟩ := B'.bk.vf_form
    obtain ⟨ta, tc, rfl⟩ : ∃ ta tc, vt' = .slice ta t'.length tc := by
      rcases B'.bk.vt_room with ⟨h1, h2⟩ | ⟨g, c, h1, _⟩
      · exact ⟨none, 0, by rw [h1, h2]; rfl⟩
      · exact ⟨_, _, h1⟩
    obtain ⟨g1, g2, _, _⟩ := tail_get B'.ns (Nat.zero_le _)
    have g5 := flatten_len B'.bk
    have hlM : (fs'.length : Int) * 255 + (t'.length : Int) = 0 := by omega
    have hfl : fs'.length < 1000 := by omega
    have htl : t'.length < 100000 := by omega
    have q73 := B'.qs.q73
    have q74 := B'.q74
    obtain ⟨v, es, q1, q2⟩ := B'.hq
    have hel : es.length = 0 := q2.length_eq
    obtain ⟨va, vc, rfl⟩ : ∃ va vc, v = .slice va 0 vc := by
      rcases q1.hv.own.2 with ⟨h1, h2⟩ | ⟨g, c, _, h1, _⟩
      · exact ⟨none, 0, h1⟩
      · exact ⟨_, _, by rw [h1, hel]⟩
    have q2c := q1.hv.hdr
    have r3 := rc.c3
    have r4 := rc.c4
    have r5 := rc.c5
    have r6 := rc.c6
    have r7 := rc.c7
    have HB' : Hid (MB w.heap.size bb Q W K 0 true P w fs' cs' t' (.slice fa fs'.length fc) (.slice ta t'.length tc) sp' 0 0 [] w4) := B'
    have HO1 : Hid (l.Perm (P.map (·.2))) := o1
    have HO2 : Hid (l.Pairwise (fun a b => key P a ≤ key P b)) := o2
    have HRG : Hid (∀ t, t < n → w4.cell? ⟨G, t, none⟩ = some (pe (l.getD t 0))) := rg
    have HPS : Hid (∀ t, t < n → w4.cell? ⟨l.getD t 0, 2, none⟩ = some (.int .i64 ((t : Int) * 1024 + 2))) := ps
    have bkc0 := B'.bk.c0
    have bkc1 := B'.bk.c1
    have wc := B'.qs.wc
    obtain ⟨lst, hlst⟩ : ∃ lst, key P (l.getD (n - 1) 0) = lst := ⟨_, rfl⟩
    rw [hlst] at r7
    have HLST : Hid (key P (l.getD (n - 1) 0) = lst) := hlst
    clear rc o1 o2 rg ps q1 q2 hel g1 g2 g5 B' hlst
    go_wp2_with fail
    refine (bucket_calls W K _ wc).mono ?_
    rintro e w5 ⟨rfl, rfl⟩
    go_wp2_with fail
    refine (len_calls K fa ta fs'.length fc t'.length tc _ bkc0 bkc1 hfl htl).mono ?_
    rintro e w6 ⟨rfl, q, rfl⟩
    have hc0 := R'.cell 0 hn0
    go_wp2_with fail
    go_loop [12, 14, 102] (fun s12 _ s102 => ∃ (i : Nat) (b : Int), s12 = .int .i64 b ∧ s102 = .int .i64 i ∧ i ≤ n ∧ (∃ t, t < n ∧ b = zs.getD t 0) ∧ ∀ t, t < i → zs.getD t 0 ≤ b) (fun _ _ s102 => n - (intOf s102).toNat)
    case atStart => exact ⟨0, _, rfl, rfl, by omega, ⟨0, hn0, by simp⟩, fun t h => by omega⟩
    case round =>
      obtain ⟨i, b, rfl, rfl, hi, hb1, hb2⟩ := hrel
      have HB1 : Hid (∃ t, t < n ∧ b = zs.getD t 0) := hb1
      have HB2 : Hid (∀ t, t < i → zs.getD t 0 ≤ b) := hb2
      clear hb1 hb2
      by_cases hin : i < n
      · have hci := R'.cell i hin
        obtain ⟨xi, hxi⟩ : ∃ xi, zs.getD i 0 = xi := ⟨_, rfl⟩
        rw [hxi] at hci
        have HXI : Hid (zs.getD i 0 = xi) := hxi
        clear hxi
        go_wp2_with fail
        go_round
        case rel =>
          refine ⟨i + 1, max b xi, rfl, by go_num, by omega, ?_, ?_⟩
          · by_cases hle : b ≤ xi
            · rw [Int.max_eq_right hle]; exact ⟨i, hin, HXI.out.symm⟩
            · rw [Int.max_eq_left (by omega)]; exact HB1.out
          · intro t ht
            by_cases hti : t = i
            · subst hti; rw [HXI.out]; exact Int.le_max_right _ _
            · exact Int.le_trans (HB2.out t (by omega)) (Int.le_max_left _ _)
        case measure => simp [intOf]; omega
      · have hbl : lst = b := by
          rw [← HLST.out]
          obtain ⟨t, h1, h2⟩ := HB1.out
          refine run_last HO1.out HO2.out HB'.out.nod HPL.out hn0 ⟨t, h1, by rw [HWN.out t h1]; exact h2⟩ ?_
          intro t' h4
          rw [HWN.out t' h4]
          exact HB2.out t' (by omega)
        subst hbl
        go_wp2_with fail
        go_loopw [15, 16, 17] (fun s15 s16 _ wx => ∃ j q : Nat, s16 = .int .i64 j ∧ j ≤ n ∧ s15 = .pointer (if j = 0 then none else some ⟨l.getD (j - 1) 0, 0, none⟩) ∧ wx = w5.drewN q) (fun _ s16 _ _ => n - (intOf s16).toNat)
        case atStart => exact ⟨0, _, rfl, by omega, rfl, rfl⟩
        case round =>
          obtain ⟨j, q', rfl, hj, rfl, hwr⟩ := hrel
          have HWR : Hid (wr = w5.drewN q') := hwr
          have cellw : Hid (∀ p, wr.cell? p = w5.cell? p) := fun p => by rw [hwr]; rfl
          have s3 := (cellw.out _).trans r3
          have s4 := (cellw.out _).trans r4
          have s5 := (cellw.out _).trans r5
          clear hwr
          by_cases hjn : j < n
          · obtain ⟨p, hp⟩ : ∃ p, l.getD j 0 = p := ⟨_, rfl⟩
            have hg := (cellw.out _).trans (HRG.out j hjn)
            unfold pe at hg
            rw [hp] at hg
            have HP : Hid (l.getD j 0 = p) := hp
            have hk : wr.cell? ⟨p, 0, none⟩ = some (.int .i64 (key P p)) := by
              obtain ⟨i, hi, he⟩ := perm_node HO1.out HPL.out hjn
              rw [cellw.out, ← hp, he, key_nn HB'.out.nod hi]
              exact (HB'.out.nd i hi).when
            obtain ⟨kj, hkj⟩ : ∃ kj, key P p = kj := ⟨_, rfl⟩
            rw [hkj] at hk
            have HKJ : Hid (key P p = kj) := hkj
            have hjc : j < cc := by omega
            clear hp hkj
            by_cases hj0 : j = 0
            · subst hj0
              simp only [if_true]
              go_wp2_with fail
              go_quiet ((go_at_call 18; exact Calls.quiet_of_same (slot_calls Q 0 cc cc _ _ s3 s4 (by omega) (by omega))))
              go_wp2_with fail
              go_quiet (fail)
              go_wp2_with fail
              go_roundw
              case rel => exact ⟨0 + 1, _, by go_num, by omega, by rw [if_neg (by omega)]; rw [show 0 + 1 - 1 = 0 by omega, HP.out], drewN_of HWR.out⟩
              case measure => simp [intOf]; omega
            · rw [if_neg hj0]
              obtain ⟨p', hp'⟩ : ∃ p, l.getD (j - 1) 0 = p := ⟨_, rfl⟩
              have hk' : wr.cell? ⟨p', 0, none⟩ = some (.int .i64 (key P p')) := by
                obtain ⟨i, hi, he⟩ := perm_node HO1.out HPL.out (show j - 1 < n by omega)
                rw [cellw.out, ← hp', he, key_nn HB'.out.nod hi]
                exact (HB'.out.nd i hi).when
              obtain ⟨ki, hki⟩ : ∃ kj, key P p' = kj := ⟨_, rfl⟩
              rw [hki] at hk'
              have hle : ki ≤ kj := by
                rw [← hki, ← HKJ.out, ← hp', ← HP.out]
                exact ring_ord HO2.out (by omega) (by have := HO1.out.length_eq; rw [List.length_map, HPL.out] at this; omega)
              have hd : decide (kj < ki) = false := decide_eq_false (by omega)
              rw [hp']
              clear hp' hki hle
              go_wp2_with fail
              go_quiet ((go_at_call 18; exact Calls.quiet_of_same (slot_calls Q j cc cc _ _ s3 s4 (by omega) (by omega))))
              go_wp2_with fail
              go_quiet (fail)
              go_wp2_with fail
              go_roundw
              case rel => exact ⟨j + 1, _, by go_num, by omega, by rw [if_neg (by omega)]; rw [show j + 1 - 1 = j by omega, HP.out], drewN_of HWR.out⟩
              case measure => simp [intOf]; omega
          · obtain rfl : j = n := by omega
            go_wp2_with fail
            go_loopw [19, 156] (fun _ s wx => ∃ i q : Nat, s = .int .i64 i ∧ i ≤ j ∧ wx = w5.drewN q) (fun _ s _ => j - (intOf s).toNat)
            case atStart => exact ⟨0, _, rfl, by omega, HWR.out⟩
            case round =>
              obtain ⟨i, q2, rfl, hi, hwr2⟩ := hrel
              have HWR2 : Hid (wr = w5.drewN q2) := hwr2
              have cellw2 : Hid (∀ p, wr.cell? p = w5.cell? p) := fun p => by rw [hwr2]; rfl
              clear hwr2
              by_cases hij : i < j
              · have hnc := (cellw2.out _).trans (N'.cell i (by rw [List.length_map, HPL.out]; exact hij))
                have hne : (P.map (·.2)).getD i 0 = nn P i := by simp [nn, show i < P.length by rw [HPL.out]; exact hij]
                rw [hne] at hnc
                clear hne
                obtain ⟨tt, htt, hte⟩ := node_perm HO1.out HPL.out hij
                have hpc := (cellw2.out _).trans (HPS.out tt htt)
                rw [hte] at hpc
                have hand := and_at tt 2 (by omega) (by omega) (by omega) (by omega)
                clear hte
                go_wp2_with fail
                go_roundw
                case rel => exact ⟨i + 1, q2, by go_num, by omega, HWR2.out⟩
                case measure => simp [intOf]; omega
              · go_wp2_with fail
                go_ret
                exact ⟨rfl, by rw [HWR2.out]; exact (HB'.out.drewN q2).bel⟩
  · by_cases hn0 : 0 < n
    · have hrn : decide ((n : Int) ≤ (room : Int)) = false := decide_eq_false (by omega)
      have hnz : ((n : Int) == 0) = false := beq_eq_false_iff_ne.2 (by omega)
      go_wp2_with fail
      refine (move_skip w.heap.size bb Q W K P w room m0 fs cs t vf vt none _ HM0.out B RC hr (by rw [HPL.out]; omega) (by rw [HPL.out]; omega)).mono ?_
      rintro e w4 ⟨rfl, B', kp, rc⟩
      rw [if_neg (by rw [HPL.out]; omega)] at B'
      have R' : Row w w.heap.size n zs w4 := R.block (kp _ (by have := B.qs.Qb; omega) GK ⟨2, _, R.shp, Or.inl rfl⟩)
      have N' : NR w NB n (P.map (·.2)) w4 := N.block (kp _ L NK ⟨28, _, N.shp, Or.inr rfl⟩)
      clear R N kp B RC
      obtain ⟨fa, fc, rfl⟩ := B'.bk.vf_form
      obtain ⟨ta, tc, rfl⟩ : ∃ ta tc, vt = .slice ta t.length tc := by
        rcases B'.bk.vt_room with ⟨h1, h2⟩ | ⟨g, c, h1, _⟩
        · exact ⟨none, 0, by rw [h1, h2]; rfl⟩
        · exact ⟨_, _, h1⟩
      obtain ⟨g1, g2, _, _⟩ := tail_get B'.ns (Nat.le_refl _)
      have g5 := flatten_len B'.bk
      have hlM : (fs.length : Int) * 255 + (t.length : Int) = (n : Int) := by rw [← HPL.out]; omega
      have hfl : fs.length < 1000 := by omega
      have htl : t.length < 100000 := by omega
      have q73 := B'.qs.q73
      have q74 := B'.q74
      obtain ⟨v, es, q1, q2⟩ := B'.hq
      have hel : es.length = 0 := q2.length_eq
      obtain ⟨va, vc, rfl⟩ : ∃ va vc, v = .slice va 0 vc := by
        rcases q1.hv.own.2 with ⟨h1, h2⟩ | ⟨g, c, _, h1, _⟩
        · exact ⟨none, 0, h1⟩
        · exact ⟨_, _, by rw [h1, hel]⟩
      have q2c := q1.hv.hdr
      have r6 := rc.c6
      have bkc0 := B'.bk.c0
      have bkc1 := B'.bk.c1
      have wc := B'.qs.wc
      have HB' : Hid (MB w.heap.size bb Q W K 1 true P w fs cs t (.slice fa fs.length fc) (.slice ta t.length tc) none P.length P.length [] w4) := B'
      clear rc q1 q2 hel g1 g2 g5 B'
      go_wp2_with fail
      refine (bucket_calls W K _ wc).mono ?_
      rintro e w5 ⟨rfl, rfl⟩
      go_wp2_with fail
      refine (len_calls K fa ta fs.length fc t.length tc _ bkc0 bkc1 hfl htl).mono ?_
      rintro e w6 ⟨rfl, q, rfl⟩
      go_wp2_with fail
      go_loopw [20, 21, 205] (fun _ _ s wx => ∃ i q : Nat, s = .int .i64 i ∧ i ≤ n ∧ wx = w5.drewN q) (fun _ _ s _ => n - (intOf s).toNat)
      case atStart => exact ⟨0, _, rfl, by omega, rfl⟩
      case round =>
        obtain ⟨i, q2, rfl, hi, hwr2⟩ := hrel
        have HWR2 : Hid (wr = w5.drewN q2) := hwr2
        have cellw2 : Hid (∀ p, wr.cell? p = w5.cell? p) := fun p => by rw [hwr2]; rfl
        clear hwr2
        by_cases hij : i < n
        · have hnc := (cellw2.out _).trans (N'.cell i (by rw [List.length_map, HPL.out]; exact hij))
          have hne : (P.map (·.2)).getD i 0 = nn P i := by simp [nn, show i < P.length by rw [HPL.out]; exact hij]
          rw [hne] at hnc
          clear hne
          have hpc := (cellw2.out _).trans (HB'.out.pos i (by rw [HPL.out]; exact hij) (by rw [HPL.out]; exact hij))
          go_wp2_with fail
          go_quiet ((go_at_call 17; exact Calls.quiet_of_same (at_calls 4 i _ (by omega) (by omega) (by omega) (by omega))))
          go_wp2_with fail
          go_roundw
          case rel => exact ⟨i + 1, _, by go_num, by omega, drewN_of HWR2.out⟩
          case measure => simp [intOf]; omega
        · go_wp2_with fail
          go_ret
          exact ⟨rfl, by rw [HWR2.out]; exact (HB'.out.drewN q2).bel⟩
    · have hn00 : n = 0 := by omega
      have hnd : decide (0 < n) = false := decide_eq_false hn0
      have hnz : ((n : Int) == 0) = true := beq_iff_eq.2 (by omega)
      have HN0 : Hid (n = 0) := hn00
      clear hn00
      go_wp2_with fail
      refine (move_skip w.heap.size bb Q W K P w room m0 fs cs t vf vt none _ HM0.out B RC hr (by rw [HPL.out]; omega) (by rw [HPL.out]; omega)).mono ?_
      rintro e w4 ⟨rfl, B', kp, rc⟩
      rw [if_pos (by rw [HPL.out]; exact HN0.out)] at B'
      have R' : Row w w.heap.size n zs w4 := R.block (kp _ (by have := B.qs.Qb; omega) GK ⟨2, _, R.shp, Or.inl rfl⟩)
      have N' : NR w NB n (P.map (·.2)) w4 := N.block (kp _ L NK ⟨28, _, N.shp, Or.inr rfl⟩)
      clear R N kp B RC
      obtain ⟨fa, fc, rfl⟩ := B'.bk.vf_form
      obtain ⟨ta, tc, rfl⟩ : ∃ ta tc, vt = .slice ta t.length tc := by
        rcases B'.bk.vt_room with ⟨h1, h2⟩ | ⟨g, c, h1, _⟩
        · exact ⟨none, 0, by rw [h1, h2]; rfl⟩
        · exact ⟨_, _, h1⟩
      obtain ⟨g1, g2, _, _⟩ := tail_get B'.ns (Nat.le_refl _)
      have g5 := flatten_len B'.bk
      have hlM : (fs.length : Int) * 255 + (t.length : Int) = (n : Int) := by rw [← HPL.out]; omega
      have hfl : fs.length < 1000 := by omega
      have htl : t.length < 100000 := by omega
      have q73 := B'.qs.q73
      have q74 := B'.q74
      obtain ⟨v, es, q1, q2⟩ := B'.hq
      have hel : es.length = 0 := q2.length_eq
      obtain ⟨va, vc, rfl⟩ : ∃ va vc, v = .slice va 0 vc := by
        rcases q1.hv.own.2 with ⟨h1, h2⟩ | ⟨g, c, _, h1, _⟩
        · exact ⟨none, 0, h1⟩
        · exact ⟨_, _, by rw [h1, hel]⟩
      have q2c := q1.hv.hdr
      have r6 := rc.c6
      have bkc0 := B'.bk.c0
      have bkc1 := B'.bk.c1
      have wc := B'.qs.wc
      have HB' : Hid (MB w.heap.size bb Q W K 0 true P w fs cs t (.slice fa fs.length fc) (.slice ta t.length tc) none P.length P.length [] w4) := B'
      clear rc q1 q2 hel g1 g2 g5 B'
      go_wp2_with fail
      refine (bucket_calls W K _ wc).mono ?_
      rintro e w5 ⟨rfl, rfl⟩
      go_wp2_with fail
      refine (len_calls K fa ta fs.length fc t.length tc _ bkc0 bkc1 hfl htl).mono ?_
      rintro e w6 ⟨rfl, q, rfl⟩
      go_wp2_with fail
      go_loopw [20, 21, 205] (fun _ _ s wx => ∃ i q : Nat, s = .int .i64 i ∧ i ≤ n ∧ wx = w5.drewN q) (fun _ _ s _ => n - (intOf s).toNat)
      case atStart => exact ⟨0, _, rfl, by omega, rfl⟩
      case round =>
        obtain ⟨i, q2, rfl, hi, hwr2⟩ := hrel
        have HWR2 : Hid (wr = w5.drewN q2) := hwr2
        have cellw2 : Hid (∀ p, wr.cell? p = w5.cell? p) := fun p => by rw [hwr2]; rfl
        clear hwr2
        by_cases hij : i < n
        · have hnc := (cellw2.out _).trans (N'.cell i (by rw [List.length_map, HPL.out]; exact hij))
          have hne : (P.map (·.2)).getD i 0 = nn P i := by simp [nn, show i < P.length by rw [HPL.out]; exact hij]
          rw [hne] at hnc
          clear hne
          have hpc := (cellw2.out _).trans (HB'.out.pos i (by rw [HPL.out]; exact hij) (by rw [HPL.out]; exact hij))
          go_wp2_with fail
          go_quiet ((go_at_call 17; exact Calls.quiet_of_same (at_calls 4 i _ (by omega) (by omega) (by omega) (by omega))))
          go_wp2_with fail
          go_roundw
          case rel => exact ⟨i + 1, _, by go_num, by omega, drewN_of HWR2.out⟩
          case measure => simp [intOf]; omega
        · go_wp2_with fail
          go_ret
          exact ⟨rfl, by rw [HWR2.out]; exact (HB'.out.drewN q2).bel⟩
end Go.Proofs.Ybulkaeuq
