/-
  LawS1540BRaw walked. By the prover of seat b1540aF.
-/
import Derived.Test.YbulkaewgFmtCheckAll
import Derived.Laws.CopyOwn
namespace Go.Proofs.YbulkaewgFmt
open Go.RowKit Go.Extern.Stop Go.Stop Go.Extern

theorem row_made {w w' : World} {n : Nat} (h : w'.ownsRow w.heap.size 5 1 (.slice (some ⟨w.heap.size, 0, none⟩) n n) n (madeCells (Value.int .u8 0).cells (n * 1)).toList) : w'.heap[w.heap.size]? = some (.cells (List.replicate n (Value.int .u8 0)).toArray 5 (0, 0)) := by
  have e : (madeCells (Value.int .u8 0).cells (n * 1)).toList = List.replicate n (Value.int .u8 0) := by
    rw [Nat.mul_one]
    show (madeCells #[Value.int .u8 0] n).toList = _
    rw [toList_madeCells_one]
  rw [e] at h
  rcases h.2 with ⟨h', _⟩ | ⟨g, cap, cur, h', hbs, hg, r1, r2, r3, r4⟩
  · simp at h'
  · simp only [Value.slice.injEq, Option.some.injEq, Addr.mk.injEq, and_true, true_and] at h'
    obtain ⟨rfl, rfl⟩ := h'
    rw [hg]
    congr 2
    apply Array.ext'
    rw [List.take_of_length_le (by rw [Array.length_toList]; omega)] at r4
    rw [r4]

theorem copied_cells {w' : World} {g n : Nat} {zs : List Int} (hz : zs.length = n) (h : w'.heap[g]? = some (.cells (splice (List.replicate n (Value.int .u8 0)) 0 (zs.map (Value.int .u8))).toArray 5 (0, 0))) (j : Nat) (hj : j < n) : w'.cell? ⟨g, j, none⟩ = some (.int .u8 (zs.getD j 0)) := by
  have e : splice (List.replicate n (Value.int .u8 0)) 0 (zs.map (Value.int .u8)) = zs.map (Value.int .u8) := by
    simp [splice, hz]
  rw [e] at h
  rw [cell_of_row _ _ _ _ _ _ h]
  simp [show j < zs.length by omega]

set_option maxHeartbeats 4000000 in
set_option maxRecDepth 100000 in
theorem raw_walk (F : Interp) (ao : Option Addr) (n cap0 : Nat) (zs : List Int) (ch : Int) (a0 a2 a3 : Addr) (w : World) (v : Vars a0 a2 a3 w) (hF : F.answers w.tape) (hz : zs.length = n)
    (hrow : 0 < n → ∃ b off, ao = some ⟨b, off, none⟩ ∧ b < w.heap.size ∧ ∀ j, j < n → w.cell? ⟨b, off + j, none⟩ = some (.int .u8 (zs.getD j 0)))
    (hzb : ∀ j, j < n → 0 ≤ zs.getD j 0 ∧ zs.getD j 0 < 256) (d0 : 0 ≤ ch) (d1 : ch ≤ 255) :
    Calls Ybaf.prog 3 #[.slice ao n cap0, .int .u8 ch] w fun e w' => e = .returned (.bool true) ∧ Below w.heap.size w w' := by
  by_cases hn : n ≤ 1024
  · have HROW : Hid (0 < n → ∃ b off, ao = some ⟨b, off, none⟩ ∧ b < w.heap.size ∧ ∀ j, j < n → w.cell? ⟨b, off + j, none⟩ = some (.int .u8 (zs.getD j 0))) := hrow
    have hn1 : (n : Int) ≤ 1024 := by omega
    obtain ⟨k0, hk0⟩ : ∃ k0 : Nat, ch % 5 = (k0 : Int) := Int.eq_ofNat_of_zero_le (Int.emod_nonneg _ (by omega))
    have hk4 : k0 ≤ 4 := by omega
    obtain ⟨k, hk⟩ : ∃ k : Nat, (k0 : Int) + 1 = (k : Int) := ⟨k0 + 1, by omega⟩
    have HZ : Hid (zs.length = n) := hz
    have HZB : Hid (∀ j, j < n → 0 ≤ zs.getD j 0 ∧ zs.getD j 0 < 256) := hzb
    have HVV : Hid (Vars a0 a2 a3 w) := v
    have HF : Hid (F.answers w.tape) := hF
    clear hrow hz hzb v hF
    have hsrc : Hid (∀ w1, Below w.heap.size w w1 → 0 < (zs.map (Value.int .u8)).length → some (⟨w.heap.size, 0, none⟩ : Addr) = some ⟨w.heap.size, 0, none⟩ ∧ ∃ ad, ao = some ad ∧ ∀ j v, (zs.map (Value.int .u8))[j]? = some v → w1.cell? (ad.add j) = some v) := by
      intro w1 bel hp
      have hp' : 0 < n := by rw [List.length_map, HZ.out] at hp; exact hp
      obtain ⟨b, off, rfl, hb, hc⟩ := HROW.out hp'
      refine ⟨rfl, _, rfl, fun j v hj => ?_⟩
      have hjn : j < n := by have := (List.getElem?_eq_some_iff.1 hj).1; rw [List.length_map, HZ.out] at this; exact this
      rw [Addr.add_lit, (bel.cell (p := ⟨b, off + j, none⟩) hb).trans (hc j hjn), ← hj]
      simp [show j < zs.length by rw [HZ.out]; exact hjn]
    obtain ⟨i0, hi0, hz0, hz1, hz2⟩ := info_parts Ybaf.info5
    have k1 : Hid ((Ybaf.prog.info? 5).map (·.size) = some 1) := by rw [hi0]; exact congrArg some hz1
    have k2 : Hid (0 + (zs.map (Value.int .u8)).length ≤ (List.replicate n (Value.int .u8 0)).length) := by rw [List.length_map, HZ.out, List.length_replicate, Nat.zero_add]; exact Nat.le_refl n
    have k3 : Hid (∀ v ∈ zs.map (Value.int .u8), v.oneCell' = true) := by
      intro v hv
      obtain ⟨x, _, rfl⟩ := List.mem_map.1 hv
      rfl
    have k4 : Hid ((zs.map (Value.int .u8)).length = Nat.min n n) := by rw [List.length_map, HZ.out]; exact (Nat.min_self n).symm
    have k5 : Hid (∀ w1, w.grownBy w1 none → Below w.heap.size w w1) := fun w1 hgr1 => (Below.refl _ _).grown hgr1 (Nat.le_refl _) (fun k hk => by cases hk)
    go_enter Ybaf.func3, Ybaf.ntmps3
    go_wp2_with (first | (at_make; refine wpList_make_full _ rfl _ _ 22 rfl w.heap.size 5 i0 (.int .u8 0) 1 Ybaf.underlying22 hi0 hz0 hz1 _ _ _ _ n rfl rfl (by omega) (by omega) (by rw [hz2]; omega) (by unfold maxLen; omega) (Nat.le_refl _) ?_; intro w1 hown1 hgr1) | (refine wpList_copy_splice rfl (.tmp 12) (.tmp 13) 22 22 rfl 5 Ybaf.underlying22 k1.out (some ⟨w.heap.size, 0, none⟩) ao n n n cap0 rfl rfl w.heap.size 0 (List.replicate n (.int .u8 0)) 5 (row_made hown1) (zs.map (Value.int .u8)) k4.out (hsrc.out _ (k5.out _ hgr1)) k2.out k3.out w.heap.size w (k5.out _ hgr1) (Nat.le_refl _) ?_; intro w2 hh2 bel2))
    refine (check_calls F w.heap.size n n k zs a0 a2 a3 w2 (HVV.out.below bel2) (by rw [bel2.tape]; exact HF.out) (by omega) (Nat.le_refl _) (by omega) (by omega) (lt_of_block hh2.out) (copied_cells HZ.out hh2.out) HZB.out).mono ?_
    rintro e w3 ⟨rfl, bel3⟩
    have BL : Hid (Below w.heap.size w w3) := bel2.trans ⟨bel3.os, bel3.tape, bel3.output, bel3.size, fun k hk => bel3.block k (by have := bel2.size; omega)⟩
    clear bel2 bel3 hh2 hown1 hgr1
    go_wp2_with fail
    go_ret
    exact ⟨rfl, BL.out⟩
  · have hn1 : (1024 : Int) < (n : Int) := by omega
    clear v hF hrow hzb
    go_enter Ybaf.func3, Ybaf.ntmps3
    go_wp2_with fail
    go_ret
    exact ⟨rfl, Below.refl _ _⟩
end Go.Proofs.YbulkaewgFmt
