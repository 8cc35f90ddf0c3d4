/-
  The contracts of (*bucket[int]).last, cut, settle, release, and of shrunk. By the prover of seat b1537a.
-/
import Derived.Test.YbulkaeuqBPush
namespace Go.Proofs.Ybulkaeuq
open Go.RowKit

set_option maxHeartbeats 1000000 in
set_option maxRecDepth 100000 in
theorem last_calls (K g n c k : Nat) (w : World) (c1 : w.cell? ⟨K, 1, none⟩ = some (.slice (some ⟨g, 0, none⟩) n c)) (hn : 0 < n) (hnc : n ≤ c) (hc : c ≤ 255) (hk : 0 < k) (hk2 : k ≤ 256) :
    Calls Yba.prog 24 #[.pointer (some ⟨K, 0, none⟩), .int .i64 k] w fun e w' => e = .returned (.slice (some ⟨g, n - k, none⟩) (n - (n - k)) (c - (n - k))) ∧ ∃ q, w' = w.drewN q := by
  by_cases hlt : n < k
  · have e0 : n - k = 0 := by omega
    have hm : ((n : Int) - (k : Int)) < 0 := by omega
    rw [e0]
    clear e0
    go_enter Yba.func24, Yba.ntmps24
    go_wp2_with fail
    go_region
    go_wp2_with fail
    go_ret
    exact ⟨by simp, 1, rfl⟩
  · obtain ⟨m, rfl⟩ : ∃ m, n = m + k := ⟨n - k, by omega⟩
    have hm : (0 : Int) ≤ ((m + k : Nat) : Int) - (k : Int) := by omega
    have e0 : m + k - k = m := by omega
    rw [e0]
    clear e0
    have hmc : ¬ c = m := by omega
    go_enter Yba.func24, Yba.ntmps24
    go_wp2_with fail
    go_region
    go_wp2_with fail
    go_ret
    exact ⟨by simp, 1, rfl⟩

set_option maxHeartbeats 1000000 in
set_option maxRecDepth 100000 in
theorem shrunk64_calls (bb n c least : Nat) (ao : Option Addr) (xs : List Value) (w : World) (own : w.ownsRow bb 28 1 (.slice ao n c) n xs) (h1c : ∀ u ∈ xs, u.oneCell' = true) (hn : n < 1000) (hl : 0 < least) (hl2 : least < 1000) (hbb : bb ≤ w.heap.size) :
    Calls Yba.prog 64 #[.slice ao n c, .int .i64 least] w fun e w' => ∃ ao' c', e = .returned (.slice ao' n c') ∧ w'.ownsRow bb 28 1 (.slice ao' n c') n xs ∧ c' ≤ c ∧ w.grownBy w' (some w.heap.size) ∧ (ao' = ao ∨ (Value.slice ao' n c').ownBlock = some w.heap.size) := by
  obtain ⟨i0, hi0, hz0, hz1, hz2⟩ := info_parts Yba.info28
  have hcm : n ≤ c ∧ c ≤ 9223372036854775807 := by
    rcases own.2 with ⟨h', hn0⟩ | ⟨g, cap, cur, h', _, _, h1, h2, _⟩
    · simp at h'; omega
    · simp at h'; unfold maxLen at h2; omega
  obtain ⟨hnc, hcm⟩ := hcm
  have hnone : Hid (ao = none → n = 0 ∧ c = 0) := fun e => by
    rcases own.2 with ⟨h', h2⟩ | ⟨g, cap, cur, h', _⟩
    · simp at h'; exact ⟨h2, h'.2.2⟩
    · rw [e] at h'; simp at h'
  have hcl : Hid (∀ w', w.grownBy w' none → ∀ ad, ao = some ad → ∀ j u, xs[j]? = some u → w'.cell? (ad.add j) = some u) := by
    intro w' hg ad hao j u hj
    rcases own.2 with ⟨h', _⟩ | ⟨g, cap, cur, h', _⟩
    · simp at h'; rw [h'.1] at hao; cases hao
    · simp only [Value.slice.injEq, true_and] at h'
      obtain ⟨h1, h2⟩ := h'
      rw [hao] at h1
      cases h1
      exact (own.kept hg (by rw [hao]; simp [Value.ownBlock])).cells (g := g) (by rw [hao]; rfl) j u hj
  have hxl : xs.length = n := by have := own.1; omega
  have HXL : Hid (xs.length = n * 1) := own.1
  clear hxl
  by_cases t1 : c ≤ least
  · have t1' : decide ((c : Int) ≤ (least : Int)) = true := decide_eq_true (by omega)
    have t1i : (c : Int) ≤ (least : Int) := by omega
    go_enter Yba.func64, Yba.ntmps64
    go_wp2_with fail
    go_ret
    exact ⟨ao, c, rfl, own, Nat.le_refl _, World.grownBy.refl _ _, Or.inl rfl⟩
  · have t1' : decide ((c : Int) ≤ (least : Int)) = false := decide_eq_false (by omega)
    by_cases t2 : c / 4 < n
    · have t2' : (c : Int) / 4 < (n : Int) := by omega
      go_enter Yba.func64, Yba.ntmps64
      go_wp2_with fail
      go_ret
      exact ⟨ao, c, rfl, own, Nat.le_refl _, World.grownBy.refl _ _, Or.inl rfl⟩
    · have t2' : ¬ (c : Int) / 4 < (n : Int) := by omega
      go_enter Yba.func64, Yba.ntmps64
      go_wp2_with fail
      go_loop [5] (fun s => ∃ d : Nat, s = .int .i64 d ∧ n ≤ d ∧ d ≤ c ∧ 0 < d) (fun s => (intOf s).toNat)
      case atStart => exact ⟨c / 2, by go_num, by omega, by omega, by omega⟩
      case round =>
        obtain ⟨d, rfl, hd1, hd2, hd3⟩ := hrel
        by_cases s1 : least < d
        · have s1' : (least : Int) < (d : Int) := by omega
          by_cases s2 : n ≤ d / 4
          · have s2' : (n : Int) ≤ (d : Int) / 4 := by omega
            go_wp2_with fail
            go_round
            case rel => exact ⟨d / 2, by go_num, by omega, by omega, by omega⟩
            case measure => simp [intOf]; omega
          · have s2' : ¬ (n : Int) ≤ (d : Int) / 4 := by omega
            have hd4 : d < 5000 := by omega
            go_wp2_with (first | (at_make; refine wpList_make_own _ rfl _ _ 44 rfl bb 28 i0 (.pointer none) 1 Yba.underlying44 hi0 hz0 hz1 _ _ _ d rfl rfl (by omega) (by rw [hz2]; omega) (by unfold maxLen; omega) hbb ?_; intro w1 o1 g1) | (at_builtin; refine wpList_append_fits_any _ rfl (.tmp 35) (.tmp 36) 44 rfl bb 28 i0 1 Yba.underlying44 hi0 hz1 w.heap.size 0 d [] rfl o1 ao n c xs rfl HXL.out hnone.out (hcl.out _ g1) h1c (by omega) ?_; intro w2 o2 g2))
            go_ret
            rw [Nat.zero_add, List.nil_append] at o2
            exact ⟨some ⟨w.heap.size, 0, none⟩, d, by simp, o2, hd2, ⟨g2.os.trans g1.os, g2.tape.trans g1.tape, g2.output.trans g1.output, Nat.le_trans g1.size g2.size, fun k hk hne => (g2.block k (Nat.lt_of_lt_of_le hk g1.size) hne).trans (g1.block k hk (by simp))⟩, Or.inr rfl⟩
        · have s1' : decide ((least : Int) < (d : Int)) = false := decide_eq_false (by omega)
          have hd4 : d < 5000 := by omega
          go_wp2_with (first | (at_make; refine wpList_make_own _ rfl _ _ 44 rfl bb 28 i0 (.pointer none) 1 Yba.underlying44 hi0 hz0 hz1 _ _ _ d rfl rfl (by omega) (by rw [hz2]; omega) (by unfold maxLen; omega) hbb ?_; intro w1 o1 g1) | (at_builtin; refine wpList_append_fits_any _ rfl (.tmp 35) (.tmp 36) 44 rfl bb 28 i0 1 Yba.underlying44 hi0 hz1 w.heap.size 0 d [] rfl o1 ao n c xs rfl HXL.out hnone.out (hcl.out _ g1) h1c (by omega) ?_; intro w2 o2 g2))
          go_ret
          rw [Nat.zero_add, List.nil_append] at o2
          exact ⟨some ⟨w.heap.size, 0, none⟩, d, by simp, o2, hd2, ⟨g2.os.trans g1.os, g2.tape.trans g1.tape, g2.output.trans g1.output, Nat.le_trans g1.size g2.size, fun k hk hne => (g2.block k (Nat.lt_of_lt_of_le hk g1.size) hne).trans (g1.block k hk (by simp))⟩, Or.inr rfl⟩

set_option maxHeartbeats 1000000 in
set_option maxRecDepth 100000 in
theorem shrunk63_calls (bb n c least : Nat) (ao : Option Addr) (xs : List Value) (w : World) (own : w.ownsRow bb 72 1 (.slice ao n c) n xs) (h1c : ∀ u ∈ xs, u.oneCell' = true) (hn : n < 1000) (hl : 0 < least) (hl2 : least < 1000) (hbb : bb ≤ w.heap.size) :
    Calls Yba.prog 63 #[.slice ao n c, .int .i64 least] w fun e w' => ∃ ao' c', e = .returned (.slice ao' n c') ∧ w'.ownsRow bb 72 1 (.slice ao' n c') n xs ∧ c' ≤ c ∧ w.grownBy w' (some w.heap.size) ∧ (ao' = ao ∨ (Value.slice ao' n c').ownBlock = some w.heap.size) := by
  obtain ⟨i0, hi0, hz0, hz1, hz2⟩ := info_parts Yba.info72
  have hcm : n ≤ c ∧ c ≤ 9223372036854775807 := by
    rcases own.2 with ⟨h', hn0⟩ | ⟨g, cap, cur, h', _, _, h1, h2, _⟩
    · simp at h'; omega
    · simp at h'; unfold maxLen at h2; omega
  obtain ⟨hnc, hcm⟩ := hcm
  have hnone : Hid (ao = none → n = 0 ∧ c = 0) := fun e => by
    rcases own.2 with ⟨h', h2⟩ | ⟨g, cap, cur, h', _⟩
    · simp at h'; exact ⟨h2, h'.2.2⟩
    · rw [e] at h'; simp at h'
  have hcl : Hid (∀ w', w.grownBy w' none → ∀ ad, ao = some ad → ∀ j u, xs[j]? = some u → w'.cell? (ad.add j) = some u) := by
    intro w' hg ad hao j u hj
    rcases own.2 with ⟨h', _⟩ | ⟨g, cap, cur, h', _⟩
    · simp at h'; rw [h'.1] at hao; cases hao
    · simp only [Value.slice.injEq, true_and] at h'
      obtain ⟨h1, h2⟩ := h'
      rw [hao] at h1
      cases h1
      exact (own.kept hg (by rw [hao]; simp [Value.ownBlock])).cells (g := g) (by rw [hao]; rfl) j u hj
  have hxl : xs.length = n := by have := own.1; omega
  have HXL : Hid (xs.length = n * 1) := own.1
  clear hxl
  by_cases t1 : c ≤ least
  · have t1' : decide ((c : Int) ≤ (least : Int)) = true := decide_eq_true (by omega)
    have t1i : (c : Int) ≤ (least : Int) := by omega
    go_enter Yba.func63, Yba.ntmps63
    go_wp2_with fail
    go_ret
    exact ⟨ao, c, rfl, own, Nat.le_refl _, World.grownBy.refl _ _, Or.inl rfl⟩
  · have t1' : decide ((c : Int) ≤ (least : Int)) = false := decide_eq_false (by omega)
    by_cases t2 : c / 4 < n
    · have t2' : (c : Int) / 4 < (n : Int) := by omega
      go_enter Yba.func63, Yba.ntmps63
      go_wp2_with fail
      go_ret
      exact ⟨ao, c, rfl, own, Nat.le_refl _, World.grownBy.refl _ _, Or.inl rfl⟩
    · have t2' : ¬ (c : Int) / 4 < (n : Int) := by omega
      go_enter Yba.func63, Yba.ntmps63
      go_wp2_with fail
      go_loop [5] (fun s => ∃ d : Nat, s = .int .i64 d ∧ n ≤ d ∧ d ≤ c ∧ 0 < d) (fun s => (intOf s).toNat)
      case atStart => exact ⟨c / 2, by go_num, by omega, by omega, by omega⟩
      case round =>
        obtain ⟨d, rfl, hd1, hd2, hd3⟩ := hrel
        by_cases s1 : least < d
        · have s1' : (least : Int) < (d : Int) := by omega
          by_cases s2 : n ≤ d / 4
          · have s2' : (n : Int) ≤ (d : Int) / 4 := by omega
            go_wp2_with fail
            go_round
            case rel => exact ⟨d / 2, by go_num, by omega, by omega, by omega⟩
            case measure => simp [intOf]; omega
          · have s2' : ¬ (n : Int) ≤ (d : Int) / 4 := by omega
            have hd4 : d < 5000 := by omega
            go_wp2_with (first | (at_make; refine wpList_make_own _ rfl _ _ 71 rfl bb 72 i0 (.pointer none) 1 Yba.underlying71 hi0 hz0 hz1 _ _ _ d rfl rfl (by omega) (by rw [hz2]; omega) (by unfold maxLen; omega) hbb ?_; intro w1 o1 g1) | (at_builtin; refine wpList_append_fits_any _ rfl (.tmp 35) (.tmp 36) 71 rfl bb 72 i0 1 Yba.underlying71 hi0 hz1 w.heap.size 0 d [] rfl o1 ao n c xs rfl HXL.out hnone.out (hcl.out _ g1) h1c (by omega) ?_; intro w2 o2 g2))
            go_ret
            rw [Nat.zero_add, List.nil_append] at o2
            exact ⟨some ⟨w.heap.size, 0, none⟩, d, by simp, o2, hd2, ⟨g2.os.trans g1.os, g2.tape.trans g1.tape, g2.output.trans g1.output, Nat.le_trans g1.size g2.size, fun k hk hne => (g2.block k (Nat.lt_of_lt_of_le hk g1.size) hne).trans (g1.block k hk (by simp))⟩, Or.inr rfl⟩
        · have s1' : decide ((least : Int) < (d : Int)) = false := decide_eq_false (by omega)
          have hd4 : d < 5000 := by omega
          go_wp2_with (first | (at_make; refine wpList_make_own _ rfl _ _ 71 rfl bb 72 i0 (.pointer none) 1 Yba.underlying71 hi0 hz0 hz1 _ _ _ d rfl rfl (by omega) (by rw [hz2]; omega) (by unfold maxLen; omega) hbb ?_; intro w1 o1 g1) | (at_builtin; refine wpList_append_fits_any _ rfl (.tmp 35) (.tmp 36) 71 rfl bb 72 i0 1 Yba.underlying71 hi0 hz1 w.heap.size 0 d [] rfl o1 ao n c xs rfl HXL.out hnone.out (hcl.out _ g1) h1c (by omega) ?_; intro w2 o2 g2))
          go_ret
          rw [Nat.zero_add, List.nil_append] at o2
          exact ⟨some ⟨w.heap.size, 0, none⟩, d, by simp, o2, hd2, ⟨g2.os.trans g1.os, g2.tape.trans g1.tape, g2.output.trans g1.output, Nat.le_trans g1.size g2.size, fun k hk hne => (g2.block k (Nat.lt_of_lt_of_le hk g1.size) hne).trans (g1.block k hk (by simp))⟩, Or.inr rfl⟩

end Go.Proofs.Ybulkaeuq
