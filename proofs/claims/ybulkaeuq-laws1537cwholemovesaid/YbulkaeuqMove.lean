/-
  (*Queue[int]).move, the bucket moved in part. By the prover of seat b1537a.
-/
import Derived.Test.YbulkaeuqMB
namespace Go.Proofs.Ybulkaeuq
open Go.RowKit

theorem seg_snoc (P : List (Int × Nat)) (a i : Nat) (h : a + i < P.length) : (P.drop a).take (i + 1) = (P.drop a).take i ++ [(wn P (a + i), nn P (a + i))] := by
  rw [List.take_succ_eq_append_getElem (by simp; omega), List.getElem_drop, pair_get]

theorem mem_drop_idx {P : List (Int × Nat)} {a : Nat} {e : Int × Nat} (h : e ∈ P.drop a) : ∃ j, a ≤ j ∧ j < P.length ∧ e = (wn P j, nn P j) := by
  obtain ⟨i, hi, he⟩ := List.getElem_of_mem h
  simp only [List.length_drop] at hi
  rw [List.getElem_drop] at he
  exact ⟨a + i, by omega, by omega, by rw [← he, pair_get]⟩
theorem mem_seg_idx {P : List (Int × Nat)} {a b : Nat} {e : Int × Nat} (h : e ∈ (P.drop a).take b) : ∃ j, a ≤ j ∧ j < a + b ∧ j < P.length ∧ e = (wn P j, nn P j) := by
  obtain ⟨i, hi, he⟩ := List.getElem_of_mem h
  simp only [List.length_take, List.length_drop] at hi
  rw [List.getElem_take, List.getElem_drop] at he
  exact ⟨a + i, by omega, by omega, by omega, by rw [← he, pair_get]⟩
theorem seg_new {P : List (Int × Nat)} (hd : (P.map (·.2)).Nodup) {M a i : Nat} (h1 : a + i < M) (h2 : M ≤ P.length) {es : List (Int × Nat)} (hp : es.Perm (P.drop M ++ (P.drop a).take i)) : ∀ t k, (t, k) ∈ es → k ≠ nn P (a + i) := by
  intro t k hk
  have := hp.mem_iff.1 hk
  rw [List.mem_append] at this
  rcases this with h | h
  · obtain ⟨j, h3, h4, h5⟩ := mem_drop_idx h
    simp at h5
    rw [h5.2]
    exact nn_ne hd h4 (by omega) (by omega)
  · obtain ⟨j, h3, h4, h6, h5⟩ := mem_seg_idx h
    simp at h5
    rw [h5.2]
    exact nn_ne hd h6 (by omega) (by omega)
theorem seg_whole (P : List (Int × Nat)) {M s : Nat} (h : s ≤ M) : (P.drop M ++ (P.drop (M - s)).take s).Perm (P.drop (M - s)) := by
  have : P.drop (M - s) = (P.drop (M - s)).take s ++ P.drop M := by
    conv => lhs; rw [← List.take_append_drop s (P.drop (M - s))]
    rw [List.drop_drop]
    congr 2
    omega
  conv => rhs; rw [this]
  exact List.perm_append_comm

/-- rows of int64 and of nodes that lie below the bucket's own arrays stand -/
def KP (bb K : Nat) (w w' : World) : Prop := ∀ k, k < bb → k ≠ K → (∃ t m, w.shape? k = some (t, m) ∧ (t = 2 ∨ t = 28)) → w'.heap[k]? = w.heap[k]?

theorem KP.refl (bb K : Nat) (w : World) : KP bb K w w := fun _ _ _ _ => rfl
theorem KP.step {bb K : Nat} {w w1 w2 : World} {S : Nat → Nat → Prop} (h : KP bb K w w1) (F : Frm w1 w2 S) (hS : ∀ k t m, k < bb → k ≠ K → w1.shape? k = some (t, m) → (t = 2 ∨ t = 28) → ∀ o, ¬ S k o) : KP bb K w w2 := by
  intro k hk hK ⟨t, m, h1, h2⟩
  have e := h k hk hK ⟨t, m, h1, h2⟩
  have h3 : w1.shape? k = some (t, m) := by rw [← h1]; simp only [World.shape?, e]
  exact (F.blk k (lt_of_shape h3) (hS k t m hk hK h3 h2)).trans e
theorem KP.drewN {bb K : Nat} {w w1 : World} (h : KP bb K w w1) (n : Nat) : KP bb K w (w1.drewN n) := h.step (Frm.drewN w1 n (fun _ _ => False)) (fun _ _ _ _ _ _ _ _ f => f)
theorem KP.bs {bb K : Nat} {w w1 w2 : World} (h : KP bb K w w1) (F : Frm w1 w2 (BS w1 bb K)) : KP bb K w w2 := h.step F (by
  rintro k t m hk hK _ _ o (⟨e, _⟩ | ⟨e, _⟩)
  · exact hK e
  · omega)
theorem KP.ps {bb K base Q : Nat} {w w1 w2 : World} {v : Value} {es : List (Int × Nat)} {x : Nat → Prop} (h : KP bb K w w1) (q : HQ base Q 2 v es x w1) {p : Nat} {wh : Int} (hp : Nd w1 p wh) (hQ : w1.shape? Q = some (56, 76)) (F : Frm w1 w2 (PS Q 2 v (es ++ [(wh, p)]))) : KP bb K w w2 := h.step F (by
  intro k t m _ _ hs ht o
  rcases ht with rfl | rfl
  · exact PS.other q hp hs (by decide) (by decide) (shape_ne hs hQ (by simp)) o
  · exact PS.other q hp hs (by decide) (by decide) (shape_ne hs hQ (by simp)) o)
theorem KP.setQ {bb K Q o : Nat} {w w1 : World} {v : Value} (h : KP bb K w w1) (hQ : w1.shape? Q = some (56, 76)) : KP bb K w (w1.setCell ⟨Q, o, none⟩ v) := h.step (Frm.setCell w1 Q o v (fun k _ => k = Q) rfl) (by
  intro k t m _ _ hs ht _ e
  rw [e, hQ] at hs
  rcases ht with rfl | rfl
  · simp at hs
  · simp at hs)

/-- what move leaves -/
def MPost (base bb Q W K : Nat) (P : List (Int × Nat)) (w0 w : World) (room : Nat) (e : Ending) (w' : World) : Prop :=
  ∃ fs' cs' t' vf' vt' sp', e = .returned (.int .i64 ((256 - room + min P.length room : Nat) : Int)) ∧
      MB base bb Q W K (if P.length ≤ room then 0 else 1) false P w0 fs' cs' t' vf' vt' sp' (P.length - min P.length room) (P.length - min P.length room) (P.drop (P.length - min P.length room)) w' ∧ KP bb K w w'

set_option maxHeartbeats 4000000 in
set_option maxRecDepth 100000 in
theorem move_part (base bb Q W K : Nat) (P : List (Int × Nat)) (w0 : World) (room m0 : Nat) (fs : List Nat) (cs : List (List Nat)) (t : List Nat) (vf vt : Value) (sp : Option Addr) (w : World)
    (hm0 : m0 = 256 - room) (h : MB base bb Q W K 1 false P w0 fs cs t vf vt sp P.length P.length [] w) (hr : room ≤ 256) (hP : P.length ≤ 1024) (hwh : ∀ i, i < P.length → 0 ≤ wn P i ∧ wn P i < 65536) :
    Calls Yba.prog 14 #[.pointer (some ⟨Q, 0, none⟩), .int .i64 m0] w (MPost base bb Q W K P w0 w room) := by
  have q73 := h.qs.q73
  have q74 := h.q74
  have q75 := h.q75
  have HM0 : Hid (m0 = 256 - room) := hm0
  have hm1 : m0 + room ≤ 256 := by omega
  have hm2 : 256 ≤ m0 + room := by omega
  clear hm0
  go_enter Yba.func14, Yba.ntmps14
  go_wp2_with fail
  go_quiet ((go_at_call 15; exact Calls.quiet_of_same (bucket_calls W K _ h.qs.wc)))
  go_wp2_with fail
  go_loopw [1] (fun s wr => ∃ (j : Nat) (fs : List Nat) (cs : List (List Nat)) (t : List Nat) (vf vt : Value) (sp : Option Addr), s = .int .i64 ((m0 + j : Nat) : Int) ∧ j ≤ P.length ∧ j ≤ room ∧ MB base bb Q W K 1 false P w0 fs cs t vf vt sp (P.length - j) (P.length - j) (P.drop (P.length - j)) wr ∧ KP bb K w wr) (fun s _ => 256 - (intOf s).toNat)
  case atStart =>
    refine ⟨0, fs, cs, t, vf, vt, sp, by simp, by omega, by omega, ?_, (KP.refl bb K w).drewN nq⟩
    have := h.drewN nq
    simpa using this
  case round =>
    obtain ⟨j, fs, cs, t, vf, vt, sp, rfl, hj1, hj2, B, kp⟩ := hrel
    obtain ⟨M, hM⟩ : ∃ M, M = P.length - j := ⟨_, rfl⟩
    rw [← hM] at B
    have HM : Hid (M = P.length - j) := hM
    have hM1 : M + j ≤ P.length := by omega
    have hM2 : P.length ≤ M + j := by omega
    clear hM
    obtain ⟨g1, g2, g3, g4⟩ := tail_get B.ns (by omega)
    have g5 := flatten_len B.bk
    obtain ⟨fa, fc, rfl⟩ := B.bk.vf_form
    have hlM : (fs.length : Int) * 255 + (t.length : Int) = (M : Int) := by omega
    have hfl : fs.length < 900 := by omega
    obtain ⟨ao, cc, rfl⟩ : ∃ ao cc, vt = .slice ao t.length cc := by
      rcases B.bk.vt_room with ⟨h1, h2⟩ | ⟨g, c, h1, _⟩
      · exact ⟨none, 0, by rw [h1, h2]; rfl⟩
      · exact ⟨_, _, h1⟩
    by_cases hjr : j < room
    · by_cases hM0 : 0 < M
      · have hg : (m0 : Int) + (j : Int) < 256 := by omega
        have htn : t ≠ [] := by
          intro e
          have hfs : fs ≠ [] := by
            intro e2
            have : cs = [] := List.eq_nil_of_length_eq_zero (by rw [B.bk.lcs, e2]; rfl)
            have h2 := B.ns
            rw [e, this] at h2
            have := congrArg List.length h2
            simp at this
            omega
          exact B.ft hfs e
        have htl : 0 < t.length := List.length_pos_iff.2 htn
        obtain ⟨g, c, hve, hc1, hc2, hc3⟩ : ∃ g c, Value.slice ao t.length cc = .slice (some ⟨g, 0, none⟩) t.length c ∧ t.length ≤ c ∧ c ≤ 255 ∧ (fs ≠ [] → c = 255) := by
          rcases B.bk.vt_room with ⟨h1, h2⟩ | h1
          · exact absurd h2 htn
          · exact h1
        simp at hve
        obtain ⟨rfl, rfl⟩ := hve
        obtain ⟨kk, hkk⟩ : ∃ kk, kk = room - j := ⟨_, rfl⟩
        have hk1 : (256 : Int) - ((m0 : Int) + (j : Int)) = (kk : Int) := by omega
        have hk2 : 0 < kk := by omega
        have hk3 : kk ≤ 256 := by omega
        have hk4 : kk + j ≤ room := by omega
        have HKK : Hid (kk = room - j) := hkk
        clear hkk htn hc3
        go_wp2_with fail
        refine (len_calls K fa _ fs.length fc t.length cc _ B.bk.c0 B.bk.c1 (by omega) (by omega)).mono ?_
        rintro e w1 ⟨rfl, q, rfl⟩
        go_wp2_with fail
        refine (last_calls K g t.length cc kk _ (B.drewN q).bk.c1 htl hc1 hc2 hk2 hk3).mono ?_
        rintro e w1 ⟨rfl, q', rfl⟩
        have B1 := (B.drewN q).drewN q'
        obtain ⟨o, ho⟩ : ∃ o, t.length - kk = o := ⟨_, rfl⟩
        rw [ho]
        obtain ⟨sz, hsz⟩ : ∃ sz, t.length - o = sz := ⟨_, rfl⟩
        rw [hsz]
        have hs1 : o + sz ≤ t.length := by omega
        have hs2 : t.length ≤ o + sz := by omega
        have hs3 : 0 < sz := by omega
        have hs4 : sz ≤ kk := by omega
        have hs5 : sz ≤ M := by omega
        have HO : Hid (t.length - kk = o ∧ t.length - o = sz) := ⟨ho, hsz⟩
        clear ho hsz
        have B2 := B1.lower (show M - sz ≤ M by omega)
        go_wp2_with fail
        go_loopw [41] (fun ci wx => ∃ i : Nat, ci = .int .i64 i ∧ i ≤ sz ∧ MB base bb Q W K 1 false P w0 fs cs t (.slice fa fs.length fc) (.slice (some ⟨g, 0, none⟩) t.length cc) sp M (M - sz) (P.drop M ++ (P.drop (M - sz)).take i) wx ∧ KP bb K w wx) (fun ci _ => sz - (intOf ci).toNat)
        case atStart => exact ⟨0, rfl, by omega, by simpa using B2, (kp.drewN q).drewN q'⟩
        case round =>
          obtain ⟨i, rfl, hi, Y, kp2⟩ := hrel
          by_cases his : i < sz
          · have hcell := ownsRow_ptr_cell Y.bk.own1 (o + i) (by omega)
            have hidx := g3 (o + i) (by omega)
            rw [hidx, show M - t.length + (o + i) = M - sz + i by omega] at hcell
            clear hidx
            obtain ⟨v, es, q1, q2⟩ := Y.hq
            have hlt : M - sz + i < P.length := by omega
            have hnd := Y.nd _ hlt
            obtain ⟨hw1, hw2⟩ := hwh _ hlt
            have hnew := seg_new Y.nod (M := M) (a := M - sz) (i := i) (by omega) (by omega) q2
            have hes : es.length < 10000000 := by rw [q2.length_eq]; simp; omega
            go_wp2_with fail
            refine (put_calls base Q (nn P (M - sz + i)) (wn P (M - sz + i)) v es _ q1 hes (by have := Y.qs.hQ; have := Y.qs.Qb; have := Y.qs.bbl; omega) hnd (Y.lo _ hlt) hnew Y.qs.q0 hw1 hw2).mono ?_
            rintro e w2 ⟨rfl, v', es', p1, p2, p3⟩
            have Z := Y.put hlt (by omega) q1 q2 p1 p2 p3
            rw [List.append_assoc, ← seg_snoc P (M - sz) i hlt] at Z
            go_wp2_with fail
            go_roundw
            case rel => exact ⟨i + 1, by go_num, by omega, Z, kp2.ps q1 hnd Y.qs.shQ p3⟩
            case measure => simp [intOf]; omega
          · obtain rfl : i = sz := by omega
            go_wp2_with fail
            refine (cut_calls bb K g cc i fs cs t _ sp _ Y.bk hs3 (by omega) hfl Y.qs.bbl).mono ?_
            rintro e w2 ⟨rfl, fs', cs', t', vf', g', c', sp', r1, r2, r3, r4⟩
            have hns := g4 (t.length - i) (by omega)
            rw [show M - t.length + (t.length - i) = M - i by omega] at hns
            have Z := (Y.frmB r4 r1 (r2.trans hns) r3).perm (seg_whole P hs5)
            have hMi : Hid (M - i = P.length - (j + i)) := by show M - i = P.length - (j + i); omega
            rw [hMi.out] at Z
            go_wp2_with fail
            go_roundw
            case rel => exact ⟨j + i, fs', cs', t', vf', _, sp', by go_num, by omega, by omega, Z, kp2.bs r4⟩
            case measure => simp [intOf]; omega
      · have hg : (m0 : Int) + (j : Int) < 256 := by omega
        have hk : Hid (min P.length room = j) := by show min P.length room = j; omega
        have hMz : ((M : Int) == 0) = true := beq_iff_eq.2 (by omega)
        have hMd : decide (0 < M) = false := decide_eq_false hM0
        have z74 := B.q74
        have zf := B.qs.fzQ 74
        have zl := B.qs.ltQ
        go_wp2_with fail
        refine (len_calls K fa ao fs.length fc t.length cc _ B.bk.c0 B.bk.c1 (by omega) (by omega)).mono ?_
        rintro e w1 ⟨rfl, q, rfl⟩
        go_wp2_with fail
        refine (len_calls K fa ao fs.length fc t.length cc _ (B.drewN q).bk.c0 (B.drewN q).bk.c1 (by omega) (by omega)).mono ?_
        rintro e w1 ⟨rfl, q', rfl⟩
        go_wp2_with fail
        go_ret
        refine ⟨fs, cs, t, .slice fa fs.length fc, .slice ao t.length cc, sp, ret_int (by rw [hk.out]; have := HM0.out; omega), ?_, (kp.drewN (q + q')).setQ B.qs.shQ⟩
        rw [hk.out, if_pos (by omega), ← HM.out]
        exact (B.drewN (q + q')).moving 0
    · have hg : decide ((m0 : Int) + (j : Int) < 256) = false := decide_eq_false (by omega)
      have hk : Hid (min P.length room = j) := by show min P.length room = j; omega
      by_cases hM0 : 0 < M
      · have hMz : ((M : Int) == 0) = false := beq_eq_false_iff_ne.2 (by omega)
        go_wp2_with fail
        refine (len_calls K fa ao fs.length fc t.length cc _ B.bk.c0 B.bk.c1 (by omega) (by omega)).mono ?_
        rintro e w1 ⟨rfl, q, rfl⟩
        go_wp2_with fail
        go_ret
        refine ⟨fs, cs, t, .slice fa fs.length fc, .slice ao t.length cc, sp, ret_int (by rw [hk.out]; have := HM0.out; omega), ?_, kp.drewN q⟩
        rw [hk.out, if_neg (by omega), ← HM.out]
        exact B.drewN q
      · have hMz : ((M : Int) == 0) = true := beq_iff_eq.2 (by omega)
        have z74 := B.q74
        have zf := B.qs.fzQ 74
        have zl := B.qs.ltQ
        go_wp2_with fail
        refine (len_calls K fa ao fs.length fc t.length cc _ B.bk.c0 B.bk.c1 (by omega) (by omega)).mono ?_
        rintro e w1 ⟨rfl, q, rfl⟩
        go_wp2_with fail
        go_ret
        refine ⟨fs, cs, t, .slice fa fs.length fc, .slice ao t.length cc, sp, ret_int (by rw [hk.out]; have := HM0.out; omega), ?_, (kp.drewN q).setQ B.qs.shQ⟩
        rw [hk.out, if_pos (by omega), ← HM.out]
        exact (B.drewN q).moving 0
end Go.Proofs.Ybulkaeuq
