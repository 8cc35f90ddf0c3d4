/-
  (*Queue[int]).move, the bucket moved whole or left. By the prover of seat b1537a.
-/
import Derived.Test.YbulkaeuqLoad
import Derived.Test.YbulkaeuqBuildW
import Derived.Deep.RegionWith
namespace Go.Proofs.Ybulkaeuq
open Go.RowKit

/-- what a whole move leaves -/
def WPost (base bb Q W K : Nat) (P : List (Int × Nat)) (w0 w : World) (m0 : Nat) (e : Ending) (w' : World) : Prop :=
  ∃ fs cs t vf vt sp G cc, ∃ l : List Nat, e = .returned (.int .i64 ((m0 + P.length : Nat) : Int)) ∧ MB base bb Q W K 0 true P w0 fs cs t vf vt sp 0 0 [] w' ∧ KP bb K w w' ∧ l.Perm (P.map (·.2)) ∧ l.Pairwise (fun a b => key P a ≤ key P b) ∧
    RunC Q (.slice (some ⟨G, 0, none⟩) cc cc) P.length P.length (key P (l.getD (P.length - 1) 0)) w' ∧ P.length ≤ cc ∧ cc ≤ 512 ∧
    (∀ t, t < P.length → w'.cell? ⟨G, t, none⟩ = some (pe (l.getD t 0))) ∧ (∀ t, t < P.length → w'.cell? ⟨l.getD t 0, 2, none⟩ = some (.int .i64 ((t : Int) * 1024 + 2)))

set_option maxHeartbeats 4000000 in
set_option maxRecDepth 100000 in
theorem move_whole (base bb Q W K : Nat) (P : List (Int × Nat)) (w0 : World) (room m0 : Nat) (fs : List Nat) (cs : List (List Nat)) (t : List Nat) (vf vt : Value) (sp : Option Addr) (w : World)
    (hm0 : m0 = 256 - room) (h : MB base bb Q W K 1 true P w0 fs cs t vf vt sp P.length P.length [] w) (R : RunC Q (.slice none 0 0) 0 0 0 w) (hr : room ≤ 256) (h0 : 0 < P.length) (hP : P.length ≤ room) (hwh : ∀ i, i < P.length → wn P i ≤ 9223372036854775807) :
    Calls Yba.prog 14 #[.pointer (some ⟨Q, 0, none⟩), .int .i64 m0] w (WPost base bb Q W K P w0 w m0) := by
  have q73 := h.qs.q73
  have q74 := h.q74
  have q75 := h.q75
  have q0 := h.qs.q0
  obtain ⟨n, hn⟩ : ∃ n, P.length = n := ⟨_, rfl⟩
  obtain ⟨g1, g2, g3, g4⟩ := tail_get h.ns (Nat.le_refl _)
  have g5 := flatten_len h.bk
  obtain ⟨fa, fc, rfl⟩ := h.bk.vf_form
  have hlM : (fs.length : Int) * 255 + (t.length : Int) = (n : Int) := by omega
  have hfl : fs.length < 900 := by omega
  have htl : t.length < 1000 := by omega
  obtain ⟨ao, cc, rfl⟩ : ∃ ao cc, vt = .slice ao t.length cc := by
    rcases h.bk.vt_room with ⟨h1, h2⟩ | ⟨g, c, h1, _⟩
    · exact ⟨none, 0, by rw [h1, h2]; rfl⟩
    · exact ⟨_, _, h1⟩
  have hn0 : 0 < n := by omega
  have hn1 : n ≤ room := by omega
  have hm1 : m0 + room ≤ 256 := by omega
  have hm2 : 256 ≤ m0 + room := by omega
  have hm3 : (256 : Int) - (m0 : Int) = (room : Int) := by omega
  have HH : Hid (∀ q, MB base bb Q W K 1 true P w0 fs cs t (.slice fa fs.length fc) (.slice ao t.length cc) sp P.length P.length [] (w.drewN q)) := fun q => h.drewN q
  have HR : Hid (∀ q, RunC Q (.slice none 0 0) 0 0 0 (w.drewN q)) := fun q => ⟨R.c3, R.c4, R.c5, R.c6, R.c7⟩
  have HWH : Hid (∀ i, i < P.length → wn P i ≤ 9223372036854775807) := hwh
  have HN : Hid (P.length = n) := hn
  have wc := h.qs.wc
  have c0 := h.bk.c0
  have c1 := h.bk.c1
  clear h R g1 g2 g3 g4 g5 hn hwh hm0 h0 hP
  go_enter Yba.func14, Yba.ntmps14
  go_wp2_with fail
  go_quiet ((go_at_call 15; exact Calls.quiet_of_same (bucket_calls W K _ wc)))
  go_wp2_with fail
  refine (len_calls K fa ao fs.length fc t.length cc (w.drewN nq) c0 c1 (by omega) (by omega)).mono ?_
  rintro e w1 ⟨rfl, q, rfl⟩
  go_wp2_with fail
  go_region_with (go_at_call 27; refine (load_calls base bb Q W K P w0 fs cs t _ _ sp 0 _ (HH.out (nq + q + 1)) (HR.out (nq + q + 1)) (by rw [HN.out]; exact hn0) (by rw [HN.out]; omega) HWH.out).mono ?_; rintro e w2 ⟨fs', cs', t', vf', vt', sp', G, cz, l, rfl, l1, l2, l3, l4, l5, l6, l7, l8, l9, l10⟩)
  obtain ⟨g1, g2, _, _⟩ := tail_get l1.ns (Nat.zero_le _)
  have g5 := flatten_len l1.bk
  obtain ⟨fa', fc', rfl⟩ := l1.bk.vf_form
  obtain ⟨ao', cc', rfl⟩ : ∃ ao cc, vt' = .slice ao t'.length cc := by
    rcases l1.bk.vt_room with ⟨h1, h2⟩ | ⟨g, c, h1, _⟩
    · exact ⟨none, 0, by rw [h1, h2]; rfl⟩
    · exact ⟨_, _, h1⟩
  have hl0 : (fs'.length : Int) * 255 + (t'.length : Int) = 0 := by omega
  have z74 := l1.q74
  have zf := l1.qs.fzQ 74
  have d0 := l1.bk.c0
  have d1 := l1.bk.c1
  have hf' : fs'.length < 1000 := by omega
  have ht' : t'.length < 100000 := by omega
  have FIN : Hid (∀ q, WPost base bb Q W K P w0 w m0 (.returned (.int .i64 ((m0 : Int) + (n : Int)))) ((w2.drewN q).setCell ⟨Q, 74, none⟩ (.int .i64 0))) := by
    intro q
    have kp : KP bb K w w2 := fun k h1 h2 h3 => l2 k h1 h2 h3
    refine ⟨fs', cs', t', _, _, sp', G, cz, l, ret_int (by rw [HN.out]; omega), (l1.drewN q).moving 0, (kp.drewN q).setQ l1.qs.shQ, l3, l4, RunC.set (w := w2.drewN q) ⟨l5.c3, l5.c4, l5.c5, l5.c6, l5.c7⟩ _ _ _ (Or.inr (by omega)), l6, l7, fun j hj => ?_, fun j hj => ?_⟩
    · have := l8 j hj
      rw [World.cell?_setCell_other _ _ _ _ (fun e => ?_)]
      · exact this
      · simp only [Addr.mk.injEq, and_true] at e
        omega
    · have := l9 j hj
      rw [World.cell?_setCell_other _ _ _ _ (by simp)]
      exact this
  clear l1 l2 l3 l4 l5 l6 l7 l8 l9 l10 g1 g2 g5
  go_wp2_with fail
  refine (len_calls K fa' ao' fs'.length fc' t'.length cc' w2 d0 d1 (by omega) (by omega)).mono ?_
  rintro e w3 ⟨rfl, q', rfl⟩
  go_wp2_with fail
  go_ret
  exact FIN.out q'

/-- what is left where nothing is moved -/
def SPost (base bb Q W K : Nat) (P : List (Int × Nat)) (w0 w : World) (fs : List Nat) (cs : List (List Nat)) (t : List Nat) (vf vt : Value) (sp : Option Addr) (m0 : Nat) (e : Ending) (w' : World) : Prop :=
  e = .returned (.int .i64 m0) ∧ MB base bb Q W K (if P.length = 0 then 0 else 1) true P w0 fs cs t vf vt sp P.length P.length [] w' ∧ KP bb K w w' ∧ RunC Q (.slice none 0 0) 0 0 0 w'

set_option maxHeartbeats 4000000 in
set_option maxRecDepth 100000 in
theorem move_skip (base bb Q W K : Nat) (P : List (Int × Nat)) (w0 : World) (room m0 : Nat) (fs : List Nat) (cs : List (List Nat)) (t : List Nat) (vf vt : Value) (sp : Option Addr) (w : World)
    (hm0 : m0 = 256 - room) (h : MB base bb Q W K 1 true P w0 fs cs t vf vt sp P.length P.length [] w) (R : RunC Q (.slice none 0 0) 0 0 0 w) (hr : room ≤ 256) (h0 : P.length = 0 ∨ room < P.length) (hP : P.length ≤ 1024) :
    Calls Yba.prog 14 #[.pointer (some ⟨Q, 0, none⟩), .int .i64 m0] w (SPost base bb Q W K P w0 w fs cs t vf vt sp m0) := by
  have q73 := h.qs.q73
  have q74 := h.q74
  have q75 := h.q75
  have fz := h.qs.fzQ 74
  obtain ⟨n, hn⟩ : ∃ n, P.length = n := ⟨_, rfl⟩
  obtain ⟨g1, g2, g3, g4⟩ := tail_get h.ns (Nat.le_refl _)
  have g5 := flatten_len h.bk
  obtain ⟨fa, fc, rfl⟩ := h.bk.vf_form
  have hlM : (fs.length : Int) * 255 + (t.length : Int) = (n : Int) := by omega
  have hfl : fs.length < 900 := by omega
  have htl : t.length < 2000 := by omega
  obtain ⟨ao, cc, rfl⟩ : ∃ ao cc, vt = .slice ao t.length cc := by
    rcases h.bk.vt_room with ⟨h1, h2⟩ | ⟨g, c, h1, _⟩
    · exact ⟨none, 0, by rw [h1, h2]; rfl⟩
    · exact ⟨_, _, h1⟩
  have hm1 : m0 + room ≤ 256 := by omega
  have hm2 : 256 ≤ m0 + room := by omega
  have hm3 : (256 : Int) - (m0 : Int) = (room : Int) := by omega
  have HH : Hid (∀ q, MB base bb Q W K 1 true P w0 fs cs t (.slice fa fs.length fc) (.slice ao t.length cc) sp P.length P.length [] (w.drewN q)) := fun q => h.drewN q
  have HR : Hid (∀ q, RunC Q (.slice none 0 0) 0 0 0 (w.drewN q)) := fun q => ⟨R.c3, R.c4, R.c5, R.c6, R.c7⟩
  have HN : Hid (P.length = n) := hn
  have h0' : n = 0 ∨ room < n := by omega
  have wc := h.qs.wc
  have c0 := h.bk.c0
  have c1 := h.bk.c1
  have HQ' : Hid (w.shape? Q = some (56, 76)) := h.qs.shQ
  clear h R g1 g2 g3 g4 g5 hn hm0 h0 hP
  rcases h0' with rfl | hrn
  · have hd : decide (0 < 0) = false := rfl
    go_enter Yba.func14, Yba.ntmps14
    go_wp2_with fail
    go_quiet ((go_at_call 15; exact Calls.quiet_of_same (bucket_calls W K _ wc)))
    go_wp2_with fail
    refine (len_calls K fa ao fs.length fc t.length cc (w.drewN nq) c0 c1 (by omega) (by omega)).mono ?_
    rintro e w1 ⟨rfl, q, rfl⟩
    go_wp2_with fail
    refine (len_calls K fa ao fs.length fc t.length cc (w.drewN (nq + q)) c0 c1 (by omega) (by omega)).mono ?_
    rintro e w1 ⟨rfl, q', rfl⟩
    go_wp2_with fail
    go_ret
    refine ⟨rfl, ?_, ((KP.refl bb K w).drewN (nq + q + q')).setQ HQ'.out, (HR.out (nq + q + q')).set _ _ _ (Or.inr (by omega))⟩
    rw [if_pos HN.out]
    exact (HH.out (nq + q + q')).moving 0
  · have hn0 : 0 < n := by omega
    have hd : decide ((n : Int) ≤ (room : Int)) = false := decide_eq_false (by omega)
    have hz : ((n : Int) == 0) = false := beq_eq_false_iff_ne.2 (by omega)
    go_enter Yba.func14, Yba.ntmps14
    go_wp2_with fail
    go_quiet ((go_at_call 15; exact Calls.quiet_of_same (bucket_calls W K _ wc)))
    go_wp2_with fail
    refine (len_calls K fa ao fs.length fc t.length cc (w.drewN nq) c0 c1 (by omega) (by omega)).mono ?_
    rintro e w1 ⟨rfl, q, rfl⟩
    go_wp2_with fail
    refine (len_calls K fa ao fs.length fc t.length cc (w.drewN (nq + q)) c0 c1 (by omega) (by omega)).mono ?_
    rintro e w1 ⟨rfl, q', rfl⟩
    go_wp2_with fail
    go_ret
    refine ⟨rfl, ?_, (KP.refl bb K w).drewN (nq + q + q'), HR.out (nq + q + q')⟩
    rw [if_neg (by rw [HN.out]; omega)]
    exact HH.out (nq + q + q')
end Go.Proofs.Ybulkaeuq
