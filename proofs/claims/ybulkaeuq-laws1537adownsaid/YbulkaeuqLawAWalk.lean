/-
  LawS1537ADown walked: for 1 to 1024 deadlines. By the prover of seat b1537a.
-/
import Derived.Test.YbulkaeuqLawA
import Derived.OpenShut
namespace Go.Proofs.Ybulkaeuq
open Go.RowKit

set_option maxHeartbeats 2000000 in
set_option maxRecDepth 100000 in
theorem lawA_walk (b off n cap0 : Nat) (zs : List Int) (sel ew : Int) (w : World) (h1 : 0 < n) (h2 : n ≤ 1024) (hz : zs.length = n) (hb : b < w.heap.size)
    (hc : ∀ j, j < n → w.cell? ⟨b, off + j, none⟩ = some (.int .i64 (zs.getD j 0))) (s0 : 0 ≤ sel) (s1 : sel ≤ 18446744073709551615) :
    Calls Yba.prog 3 #[.slice (some ⟨b, off, none⟩) n cap0, .int .u64 sel, .int .i64 ew] w fun e w' => e = .returned (.bool true) ∧ Below w.heap.size w w' := by
  have hn1 : (n : Int) ≤ 1024 := by omega
  have hn0 : ((n : Int) == 0) = false := beq_eq_false_iff_ne.2 (by omega)
  go_enter Yba.func3, Yba.ntmps3
  go_wp2_with fail
  go_loopw [8] (fun s wr => ∃ k v es, s = .int .i64 (k : Nat) ∧ k ≤ n ∧ Q1 w zs k v es wr) (fun s _ => n - (intOf s).toNat)
  case atStart => exact ⟨0, _, [], rfl, by omega, Q1.start w zs⟩
  case round =>
    obtain ⟨k, v, es, rfl, hk, q⟩ := hrel
    by_cases hlt : k < n
    · have hck := (q.bel.cell (p := ⟨b, off + k, none⟩) hb).trans (hc k hlt)
      obtain ⟨x, hx⟩ : ∃ x, zs.getD k 0 = x := ⟨_, rfl⟩
      rw [hx] at hck
      have HX : Hid (zs.getD k 0 = x) := hx
      clear hx
      obtain ⟨HQ1, ND1, NOD1⟩ := q.node x k
      go_wp2_with fail
      refine (push_calls w.heap.size w.heap.size 0 wr.heap.size x v es _ (by rw [q.len]; omega) HQ1.hv (by have := q.bel.size; simp; omega) HQ1.ord HQ1.np ND1 NOD1).mono ?_
      rintro e w' ⟨rfl, g, cap, es', p1, p2, p3, p4, p5, p6⟩
      go_wp2_with fail
      go_roundw
      case rel => exact ⟨k + 1, _, es', by go_num, by omega, q.push (by omega) k x HX.out p1 p2 p3 p4 p5 p6⟩
      case measure => simp [intOf]; omega
    · obtain rfl : k = n := by omega
      have hel := q.len
      obtain ⟨g, cap, rfl⟩ := ownsRow_form q.hq.hv.own (by omega)
      rw [hel] at q
      have q2 := q.qh
      have hwhs := q.whs
      have HWH : Hid ((es.map (·.1)).Perm (zs.take k)) := hwhs
      have hhd := q2.hq.hv.hdr
      have HEL : Hid (es.length = k) := hel
      clear hel hwhs q hc
      obtain ⟨i0, hi0, hz0, hz1, hz2⟩ := info_parts Yba.info2
      obtain ⟨i, hi⟩ : ∃ i : Nat, sel % (k : Int) = (i : Int) := Int.eq_ofNat_of_zero_le (Int.emod_nonneg _ (by omega))
      have hik : i < k := by have := Int.emod_lt_of_pos sel (show (0 : Int) < k by omega); omega
      go_wp2_with (at_make; refine wpList_make_full _ rfl _ _ 22 rfl w.heap.size 2 i0 (.int .i64 0) 1 Yba.underlying22 hi0 hz0 hz1 _ _ _ _ k rfl rfl (by omega) (by omega) (by rw [hz2]; omega) (by unfold maxLen; omega) q2.bel.size ?_; intro w1 hown1 hgr1)
      have r3 := row_made hown1
      have q3 := q2.grown hgr1
      clear hown1 hgr1 hhd q2
      generalize wr.heap.size = gw at *
      go_loopw [12] (fun s wx => ∃ (j : Nat) (xs : List Int), s = .int .i64 j ∧ j ≤ k ∧ QH w (.slice (some ⟨g, 0, none⟩) k cap) es (fun _ => False) wx ∧ Row w gw k xs wx ∧ ∀ t, t < j → xs.getD t 0 = wn es t) (fun s _ => k - (intOf s).toNat)
      case atStart => exact ⟨0, _, rfl, by omega, q3, r3, fun t ht => absurd ht (Nat.not_lt_zero _)⟩
      case round =>
        obtain ⟨j, xs, rfl, hj, q4, r4, hxs⟩ := hrel
        have HXS : Hid (∀ t, t < j → xs.getD t 0 = wn es t) := hxs
        clear hxs
        have hhd := q4.hq.hv.hdr
        by_cases hjk : j < k
        · have hev := (q4.st HEL.out).even j (by rw [HEL.out]; exact hjk)
          have hgc := r4.cell j hjk
          have hgf := r4.frz j
          go_wp2_with fail
          go_roundw
          case rel =>
            refine ⟨j + 1, xs.set j (wn es j), by go_num, by omega, q4.store r4 j _, r4.store j _, fun t ht => ?_⟩
            have hxl := r4.len
            by_cases e : t = j
            · subst e; simp [show t < xs.length by omega]
            · have := HXS.out t (by omega)
              simp only [List.getD_eq_getElem?_getD] at this ⊢
              rw [List.getElem?_set_ne (fun h => e h.symm)]
              exact this
          case measure => simp [intOf]; omega
        · obtain rfl : j = k := by omega
          have hgc := r4.cell i hik
          have hgf := r4.frz i
          have r5 := r4.store i ew
          have q5 := q4.store r4 i ew
          have hxe := map_eq_of_getD r4.len HEL.out HXS.out
          have HXE : Hid (xs = es.map (·.1)) := hxe
          clear hxe
          go_wp2_with fail
          refine (sort_row r5 (by omega)).mono ?_
          rintro e w2 ⟨rfl, r6, hgr2⟩
          have q6 := q5.row r5 hgr2
          clear hgr2 q5 r5 q4 r4 hgc hgf hhd
          have q7 := q6.alloc (.cells #[.int .i64 ew, .int .i64 (-1), .int .i64 0] 30)
          have r7 := r6.alloc (.cells #[.int .i64 ew, .int .i64 (-1), .int .i64 0] 30)
          have hnd : Nd (w2.alloc (.cells #[.int .i64 ew, .int .i64 (-1), .int .i64 0] 30)) w2.heap.size ew := ⟨shape?_alloc_new _ _ _, by simp, by simp⟩
          have hnew : Hid (∀ t k, (t, k) ∈ es → k ≠ w2.heap.size) := fun t k h => by
            obtain ⟨m, hm, he⟩ := List.getElem_of_mem h
            have := (q6.hq.np m hm).1.lt
            rw [← nn_get es m hm, he] at this
            exact Nat.ne_of_lt this
          obtain ⟨d1, d2, d3, d4⟩ := q7.node w2.heap.size ew hnd q6.bel.size hnew.out i
          go_wp2_with fail
          refine (down_calls (es.set i (ew, w2.heap.size)) (ew, w2.heap.size) w.heap.size w.heap.size 0 g cap i es _ (by rw [HEL.out]; omega) d1 (DnInv.start q7.hq.ord (by rw [HEL.out]; exact hik)) (q7.st HEL.out) (fun k hk _ => q7.hq.np k hk) hnd d2).mono ?_
          rintro e w3 ⟨rfl, es', p1, p2, p3, p4, p5⟩
          have q8 := q7.down HEL.out (by rw [List.length_set]; exact HEL.out) d1 d4 d3 p1 p2 p3 p4 p5
          have r8 := r7.down p5 ⟨_, ownsRow_shape (q7.st HEL.out).own⟩ d3
          have hel' : Hid (es'.length = j) := by have := p1.length_eq; rw [List.length_set] at this; exact this.trans HEL.out
          have HP : Hid (es'.Perm (es.set i (ew, w2.heap.size))) := p1
          have hhd := q8.hq.hv.hdr
          clear p1 p2 p3 p4 p5 d1 d2 d3 d4 hnd q7 r7 q6 r6 q3 r3
          generalize w2.heap.size = p at *
          go_wp2_with (at_make; refine wpList_make_full _ rfl _ _ 22 rfl w.heap.size 2 i0 (.int .i64 0) 1 Yba.underlying22 hi0 hz0 hz1 _ _ _ _ j rfl rfl (by omega) (by omega) (by rw [hz2]; omega) (by unfold maxLen; omega) q8.bel.size ?_; intro w4 hown4 hgr4)
          have r9 := row_made hown4
          have q9 := q8.grown hgr4
          have r9' := r8.grown hgr4 (by simp)
          have hgg : gw ≠ w3.heap.size := Nat.ne_of_lt (ownsRow_lt r8)
          clear hown4 hgr4 hhd q8 r8
          generalize w3.heap.size = gg at *
          have HGG : Hid (gw ≠ gg) := hgg
          clear hgg
          go_loopw [15] (fun s wx => ∃ (m : Nat) (ys : List Int), s = .int .i64 m ∧ m ≤ j ∧ QH w (.slice (some ⟨g, 0, none⟩) j cap) es' (fun k => k = i) wx ∧ Row w gw j _ wx ∧ Row w gg j ys wx ∧ ∀ t, t < m → ys.getD t 0 = wn es' t) (fun s _ => j - (intOf s).toNat)
          case atStart => exact ⟨0, _, rfl, by omega, q9, r9', r9, fun t ht => absurd ht (Nat.not_lt_zero _)⟩
          case round =>
            obtain ⟨m, ys, rfl, hm, qa, ra, rb, hys⟩ := hrel
            have HYS : Hid (∀ t, t < m → ys.getD t 0 = wn es' t) := hys
            clear hys
            have hhd := qa.hq.hv.hdr
            by_cases hmj : m < j
            · have hml : m < es'.length := by rw [hel'.out]; exact hmj
              have hev := (qa.st hel'.out).even m hml
              have hod := (qa.st hel'.out).odd m hml
              obtain ⟨n1, n2⟩ := qa.hq.np m hml
              have n0 := n1.when
              have hpl := n1.lt
              have hgc := rb.cell m hmj
              have hgf := rb.frz m
              have hgl := (qa.st hel'.out).ltg
              have hggl := ownsRow_lt rb
              have hBl : w.heap.size < wr.heap.size := World.block_lt_of_cell? _ _ hhd
              have hor := or_at m 1 (by omega) (by omega) (by omega) (by omega)
              clear n1
              obtain ⟨xm, hxm⟩ : ∃ x, wn es' m = x := ⟨_, rfl⟩
              obtain ⟨pm, hpm⟩ : ∃ x, nn es' m = x := ⟨_, rfl⟩
              rw [hxm] at hev n0
              rw [hpm] at hod n0 n2 hpl
              have HXM : Hid (wn es' m = xm) := hxm
              clear hxm hpm
              by_cases hm0 : m = 0
              · subst hm0
                have hd0 : decide ((0 : Int) < ((0 : Nat) : Int)) = false := by decide
                go_wp2_with fail
                go_quiet (fail)
                go_wp2_with fail
                go_quiet (fail)
                go_wp2_with fail
                go_roundw
                case rel =>
                  obtain ⟨t1, t2, t3, t4⟩ := round3 _ qa ra rb HGG.out hmj HXM.out HYS.out
                  exact ⟨1, ys.set 0 xm, by go_num, by omega, t1, t2, t3, t4⟩
                case measure => simp [intOf]; omega
              · have hd0 : 0 < m := by omega
                by_cases hmi : m = i
                · subst hmi
                  have hd1 : ((m : Int) != (m : Int)) = false := by simp
                  go_wp2_with fail
                  go_quiet (fail)
                  go_wp2_with fail
                  go_quiet (fail)
                  go_wp2_with fail
                  go_roundw
                  case rel =>
                    obtain ⟨t1, t2, t3, t4⟩ := round3 _ qa ra rb HGG.out hmj HXM.out HYS.out
                    exact ⟨m + 1, ys.set m xm, by go_num, by omega, t1, t2, t3, t4⟩
                  case measure => simp [intOf]; omega
                · have hd1 : ((m : Int) != (i : Int)) = true := by rw [bne_iff_ne]; omega
                  have hpar := par_lt (show 0 < m by omega)
                  have ho := qa.hq.ord m (by omega) hml hmi
                  rw [HXM.out] at ho
                  have hev2 := (qa.st hel'.out).even (par m) (by omega)
                  obtain ⟨P, hP⟩ : ∃ P, P = par m := ⟨_, rfl⟩
                  rw [← hP] at hev2 hpar ho
                  have hPd : ((m : Int) - 1) / 4 = (P : Int) := by rw [hP]; unfold par; omega
                  clear hP
                  go_wp2_with fail
                  go_quiet (fail)
                  go_wp2_with fail
                  go_quiet (fail)
                  go_wp2_with fail
                  go_roundw
                  case rel =>
                    obtain ⟨t1, t2, t3, t4⟩ := round3 _ qa ra rb HGG.out hmj HXM.out HYS.out
                    exact ⟨m + 1, ys.set m xm, by go_num, by omega, t1, t2, t3, t4⟩
                  case measure => simp [intOf]; omega
            · obtain rfl : m = j := by omega
              have hye := map_eq_of_getD rb.len hel'.out HYS.out
              have HYE : Hid (ys = es'.map (·.1)) := hye
              clear hye
              go_wp2_with fail
              refine (sort_row rb (by omega)).mono ?_
              rintro e w5 ⟨rfl, rc, hgr5⟩
              have qb := qa.row rb hgr5
              have rd := ra.grown hgr5 (by simpa using HGG.out)
              go_wp2_with fail
              refine (equal_row rc rd (by omega) ?_).mono ?_
              · rw [HYE.out, HXE.out]
                have := mergeSort_perm_eq (HP.out.map (·.1))
                rwa [List.map_set] at this
              · rintro e w6 ⟨rfl, nq, rfl⟩
                go_wp2_with fail
                go_ret
                exact ⟨rfl, (qb.drewN nq).bel⟩
end Go.Proofs.Ybulkaeuq
