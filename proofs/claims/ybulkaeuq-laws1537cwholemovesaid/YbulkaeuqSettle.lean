/-
  The contracts of (*bucket[int]).settle and cut. By the prover of seat b1537a.
-/
import Derived.Test.YbulkaeuqRelease
namespace Go.Proofs.Ybulkaeuq
open Go.RowKit

theorem Settled.drewN {w w' : World} {bb K : Nat} {ns : List Nat} {n : Nat} (h : Settled (w.drewN n) bb K ns w') : Settled w bb K ns w' := by
  obtain ⟨fs, cs, t, vf, g, c, sp, h1, h2, h3, h4⟩ := h
  exact ⟨fs, cs, t, vf, g, c, sp, h1, h2, h3, (Frm.drewN w n _).trans h4⟩

set_option maxHeartbeats 4000000 in
set_option maxRecDepth 100000 in
theorem settle_none (bb K g c fc : Nat) (fs : List Nat) (cs : List (List Nat)) (t : List Nat) (fa sp : Option Addr) (w : World) (h : Bk w bb K fs cs t (.slice fa fs.length fc) (.slice (some ⟨g, 0, none⟩) t.length c) sp) (hF : fs.length < 900) (hbb : bb ≤ w.heap.size) (hf0 : fs.length = 0) :
    Calls Yba.prog 42 #[.pointer (some ⟨K, 0, none⟩)] w fun e w' => e = .returned (.tuple #[]) ∧ Settled w bb K (cs.flatten ++ t) w' := by
  have hne : Hid (fs ≠ [] → t ≠ []) := fun e => absurd (List.eq_nil_of_length_eq_zero hf0) e
  have c0 := h.c0
  have c1 := h.c1
  have c2 := h.c2
  have hcap := (h.cap _ _ _ rfl).1
  have htc : t.length ≤ c := by
    rcases h.own1.2 with ⟨h', _⟩ | ⟨_, _, _, h', _, _, h1, _⟩
    · simp at h'
    · simp at h'; omega
  have hfi : ((fs.length : Int) == 0) = true := beq_iff_eq.2 (by omega)
  have hk0 : fs.length < 1 := by omega
  have hfd : decide (0 < fs.length) = false := decide_eq_false (by omega)
  clear hf0
  by_cases ht0 : t.length = 0
  · have hti : ((t.length : Int) == 0) = true := beq_iff_eq.2 (by omega)
    have h127' : (t.length : Int) ≤ 127 := by omega
    have h4 : (t.length : Int) ≤ (c : Int) / 4 := by omega
    clear ht0
    by_cases h7 : 7 < c
    · have h7i : (7 : Int) < (c : Int) := by omega
      cases sp with
      | none =>
        go_enter Yba.func42, Yba.ntmps42
        go_wp2_with fail
        go_quiet (fail)
        go_wp2_with fail
        refine (release_rest bb K g c fc fs cs t fa none _ (h.drewN _) hF hbb hne.out).mono ?_
        rintro e w' ⟨rfl, hS⟩
        go_wp2_with fail
        go_end0
        exact ⟨rfl, hS.drewN⟩
      | some a =>
        go_enter Yba.func42, Yba.ntmps42
        go_wp2_with fail
        go_quiet (fail)
        go_wp2_with fail
        refine (release_rest bb K g c fc fs cs t fa (some a) _ (h.drewN _) hF hbb hne.out).mono ?_
        rintro e w' ⟨rfl, hS⟩
        go_wp2_with fail
        go_end0
        exact ⟨rfl, hS.drewN⟩
    · have h7i : decide ((7 : Int) < (c : Int)) = false := decide_eq_false (by omega)
      cases sp with
      | none =>
        go_enter Yba.func42, Yba.ntmps42
        go_wp2_with fail
        go_quiet (fail)
        go_wp2_with fail
        go_end0
        exact ⟨rfl, _, _, _, _, _, _, _, h.drewN _, rfl, hne.out, Frm.drewN _ _ _⟩
      | some a =>
        go_enter Yba.func42, Yba.ntmps42
        go_wp2_with fail
        go_quiet (fail)
        go_wp2_with fail
        refine (release_rest bb K g c fc fs cs t fa (some a) _ (h.drewN _) hF hbb hne.out).mono ?_
        rintro e w' ⟨rfl, hS⟩
        go_wp2_with fail
        go_end0
        exact ⟨rfl, hS.drewN⟩
  · have hti : ((t.length : Int) == 0) = false := beq_eq_false_iff_ne.2 (by omega)
    by_cases h127 : t.length ≤ 127
    · have h127' : (t.length : Int) ≤ 127 := by omega
      by_cases h7 : 7 < c
      · have h7i : (7 : Int) < (c : Int) := by omega
        by_cases h4 : t.length ≤ c / 4
        · have h4i : (t.length : Int) ≤ (c : Int) / 4 := by omega
          cases sp with
          | none =>
            go_enter Yba.func42, Yba.ntmps42
            go_wp2_with fail
            go_quiet (fail)
            go_wp2_with fail
            refine (release_rest bb K g c fc fs cs t fa none _ (h.drewN _) hF hbb hne.out).mono ?_
            rintro e w' ⟨rfl, hS⟩
            go_wp2_with fail
            go_end0
            exact ⟨rfl, hS.drewN⟩
          | some a =>
            go_enter Yba.func42, Yba.ntmps42
            go_wp2_with fail
            go_quiet (fail)
            go_wp2_with fail
            refine (release_rest bb K g c fc fs cs t fa (some a) _ (h.drewN _) hF hbb hne.out).mono ?_
            rintro e w' ⟨rfl, hS⟩
            go_wp2_with fail
            go_end0
            exact ⟨rfl, hS.drewN⟩
        · have h4i : ¬ (t.length : Int) ≤ (c : Int) / 4 := by omega
          cases sp with
          | none =>
            go_enter Yba.func42, Yba.ntmps42
            go_wp2_with fail
            go_quiet (fail)
            go_wp2_with fail
            go_end0
            exact ⟨rfl, _, _, _, _, _, _, _, h.drewN _, rfl, hne.out, Frm.drewN _ _ _⟩
          | some a =>
            go_enter Yba.func42, Yba.ntmps42
            go_wp2_with fail
            go_quiet (fail)
            go_wp2_with fail
            refine (release_rest bb K g c fc fs cs t fa (some a) _ (h.drewN _) hF hbb hne.out).mono ?_
            rintro e w' ⟨rfl, hS⟩
            go_wp2_with fail
            go_end0
            exact ⟨rfl, hS.drewN⟩
      · have h7i : decide ((7 : Int) < (c : Int)) = false := decide_eq_false (by omega)
        cases sp with
        | none =>
          go_enter Yba.func42, Yba.ntmps42
          go_wp2_with fail
          go_quiet (fail)
          go_wp2_with fail
          go_end0
          exact ⟨rfl, _, _, _, _, _, _, _, h.drewN _, rfl, hne.out, Frm.drewN _ _ _⟩
        | some a =>
          go_enter Yba.func42, Yba.ntmps42
          go_wp2_with fail
          go_quiet (fail)
          go_wp2_with fail
          refine (release_rest bb K g c fc fs cs t fa (some a) _ (h.drewN _) hF hbb hne.out).mono ?_
          rintro e w' ⟨rfl, hS⟩
          go_wp2_with fail
          go_end0
          exact ⟨rfl, hS.drewN⟩
    · have h127' : ¬ (t.length : Int) ≤ 127 := by omega
      have h7 : 7 < c := by omega
      have h7i : (7 : Int) < (c : Int) := by omega
      have h4i : ¬ (t.length : Int) ≤ (c : Int) / 4 := by omega
      cases sp with
      | none =>
        go_enter Yba.func42, Yba.ntmps42
        go_wp2_with fail
        go_quiet (fail)
        go_wp2_with fail
        go_end0
        exact ⟨rfl, _, _, _, _, _, _, _, h.drewN _, rfl, hne.out, Frm.drewN _ _ _⟩
      | some a =>
        go_enter Yba.func42, Yba.ntmps42
        go_wp2_with fail
        go_quiet (fail)
        go_wp2_with fail
        go_end0
        exact ⟨rfl, _, _, _, _, _, _, _, h.drewN _, rfl, hne.out, Frm.drewN _ _ _⟩

set_option maxHeartbeats 4000000 in
set_option maxRecDepth 100000 in
theorem settle_some (bb K g c fc : Nat) (fs : List Nat) (cs : List (List Nat)) (t : List Nat) (fa sp : Option Addr) (w : World) (h : Bk w bb K fs cs t (.slice fa fs.length fc) (.slice (some ⟨g, 0, none⟩) t.length c) sp) (hF : fs.length < 900) (hbb : bb ≤ w.heap.size) (hf0 : fs.length ≠ 0) (ht0 : t.length ≠ 0) :
    Calls Yba.prog 42 #[.pointer (some ⟨K, 0, none⟩)] w fun e w' => e = .returned (.tuple #[]) ∧ Settled w bb K (cs.flatten ++ t) w' := by
  have hne : Hid (fs ≠ [] → t ≠ []) := fun _ e => ht0 (by rw [e]; rfl)
  have c0 := h.c0
  have c1 := h.c1
  have c2 := h.c2
  have hcap := (h.cap _ _ _ rfl).1
  have htc : t.length ≤ c := by
    rcases h.own1.2 with ⟨h', _⟩ | ⟨_, _, _, h', _, _, h1, _⟩
    · simp at h'
    · simp at h'; omega
  have hfi : ((fs.length : Int) == 0) = false := beq_eq_false_iff_ne.2 (by omega)
  have hti : ((t.length : Int) == 0) = false := beq_eq_false_iff_ne.2 (by omega)
  by_cases h127 : t.length ≤ 127
  · have h127' : (t.length : Int) ≤ 127 := by omega
    cases sp with
    | none =>
      go_enter Yba.func42, Yba.ntmps42
      go_wp2_with fail
      go_quiet (fail)
      go_wp2_with fail
      go_end0
      exact ⟨rfl, _, _, _, _, _, _, _, h.drewN _, rfl, hne.out, Frm.drewN _ _ _⟩
    | some a =>
      go_enter Yba.func42, Yba.ntmps42
      go_wp2_with fail
      go_quiet (fail)
      go_wp2_with fail
      refine (release_rest bb K g c fc fs cs t fa (some a) _ (h.drewN _) hF hbb hne.out).mono ?_
      rintro e w' ⟨rfl, hS⟩
      go_wp2_with fail
      go_end0
      exact ⟨rfl, hS.drewN⟩
  · have h127' : ¬ (t.length : Int) ≤ 127 := by omega
    cases sp with
    | none =>
      go_enter Yba.func42, Yba.ntmps42
      go_wp2_with fail
      go_quiet (fail)
      go_wp2_with fail
      go_end0
      exact ⟨rfl, _, _, _, _, _, _, _, h.drewN _, rfl, hne.out, Frm.drewN _ _ _⟩
    | some a =>
      go_enter Yba.func42, Yba.ntmps42
      go_wp2_with fail
      go_quiet (fail)
      go_wp2_with fail
      go_end0
      exact ⟨rfl, _, _, _, _, _, _, _, h.drewN _, rfl, hne.out, Frm.drewN _ _ _⟩

end Go.Proofs.Ybulkaeuq
