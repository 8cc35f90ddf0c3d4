/-
  slices.Sort and slices.Equal at []int64, on rows that the call itself made. By the prover of seat b1537a.
-/
import Derived.Test.YbulkaeuqShelf
import Derived.Test.YbulkaeuqBase
import Derived.Sort.OwnSortedInts
namespace Go.Proofs.Ybulkaeuq
open Go.RowKit Go.Sort Go.Shelf

def leZ (x y : Int) : Bool := decide (x ≤ y)

theorem mergeSort_perm_eq {l l' : List Int} (h : l.Perm l') : (l.mergeSort fun x y => decide (x ≤ y)) = l'.mergeSort fun x y => decide (x ≤ y) := by
  have tr : ∀ a b c : Int, decide (a ≤ b) = true → decide (b ≤ c) = true → decide (a ≤ c) = true := fun a b c h1 h2 => by simp only [decide_eq_true_eq] at *; omega
  have to : ∀ a b : Int, (decide (a ≤ b) || decide (b ≤ a)) = true := fun a b => by simp only [Bool.or_eq_true, decide_eq_true_eq]; omega
  refine List.Perm.eq_of_pairwise (le := fun a b => decide (a ≤ b) = true) (fun a b _ _ h1 h2 => ?_) (List.pairwise_mergeSort tr to l) (List.pairwise_mergeSort tr to l') (((List.mergeSort_perm l _).trans h).trans (List.mergeSort_perm l' _).symm)
  simp only [decide_eq_true_eq] at h1 h2
  omega

theorem sort_own (base g cap : Nat) (zs : List Int) (w : World) (hown : w.ownsRow base 2 1 (.slice (some ⟨g, 0, none⟩) zs.length cap) zs.length (zs.map (Value.int .i64))) (hl : zs.length < 100000000) :
    Calls Yba.prog 9 #[.slice (some ⟨g, 0, none⟩) zs.length cap] w fun e w' =>
      e = .returned (.tuple #[]) ∧ w'.ownsRow base 2 1 (.slice (some ⟨g, 0, none⟩) zs.length cap) zs.length ((zs.mergeSort fun x y => decide (x ≤ y)).map (Value.int .i64)) ∧ w.grownBy w' (some g) := by
  rcases hown.2 with ⟨h, _⟩ | ⟨g', cap', cur, h, hb, hg, h1, h2, h3, h4⟩
  · simp at h
  · simp only [Value.slice.injEq, Option.some.injEq, Addr.mk.injEq, and_true, true_and] at h
    obtain ⟨rfl, rfl⟩ := h
    have hH := holds_of_blockI (ss := zs) hg (by simpa using h4)
    have hc : Calls Yba.prog 9 #[.slice (some ⟨g, 0, none⟩) zs.length cap] w _ := AnyM.slices_Sort_int Yba.sl9 g 0 cap zs w hH (Array.getElem?_eq_some_iff.1 hg).1 (by omega)
    refine Calls.mono hc ?_
    rintro e w' ⟨rfl, n, os, rfl⟩
    exact ⟨rfl, ownsRow_sortedI (by simp) hb hg h1 h2 h3, grownBy_sortedI _⟩

theorem equal_own (base g1 g2 c1 c2 : Nat) (xs ys : List Int) (w : World) (h1 : w.ownsRow base 2 1 (.slice (some ⟨g1, 0, none⟩) xs.length c1) xs.length (xs.map (Value.int .i64))) (h2 : w.ownsRow base 2 1 (.slice (some ⟨g2, 0, none⟩) ys.length c2) ys.length (ys.map (Value.int .i64)))
    (l1 : xs.length < 100000000) (l2 : ys.length < 100000000) :
    Calls Yba.prog 11 #[.slice (some ⟨g1, 0, none⟩) xs.length c1, .slice (some ⟨g2, 0, none⟩) ys.length c2] w fun e w' => e = .returned (.bool (xs == ys)) ∧ ∃ q, w' = w.drewN q := by
  have cell : ∀ (g c : Nat) (zs : List Int), w.ownsRow base 2 1 (.slice (some ⟨g, 0, none⟩) zs.length c) zs.length (zs.map (Value.int .i64)) → ∀ j, j < zs.length → w.cell? ⟨g, 0 + j, none⟩ = some (.int .i64 (zs.getD j 0)) := by
    intro g c zs h j hj
    rw [Nat.zero_add, h.cellAt j (by omega)]
    simp [hj]
  have hc : Calls Yba.prog 11 #[.slice (some ⟨g1, 0, none⟩) xs.length c1, .slice (some ⟨g2, 0, none⟩) ys.length c2] w _ :=
    AnyG.slices_Equal_int Yba.sl11 g1 0 xs.length c1 g2 0 ys.length c2 xs ys w (Nat.le_refl _) (Nat.le_refl _) (by omega) (by omega) (cell g1 c1 xs h1) (cell g2 c2 ys h2)
  refine Calls.mono hc ?_
  rintro e w' ⟨rfl, q⟩
  exact ⟨by rw [List.take_length, List.take_length], q⟩
end Go.Proofs.Ybulkaeuq
