/-
  inOrder walked: the row of nodes holds the same nodes, by their deadlines. By the prover of seat b1537a.
-/
import Derived.Test.YbulkaeuqOrdA
namespace Go.Proofs.Ybulkaeuq
open Go.RowKit

/-! ### The plain law: k i is the deadline at place i, n the length. -/
/-- no fall within s .. i -/
def Asc (k : Nat → Int) (s i : Nat) : Prop := ∀ t, s < t → t < i → k (t - 1) ≤ k t
/-- below s: two places lie in one ascending run, or the later is no greater -/
def Runs (k : Nat → Int) (s : Nat) : Prop := ∀ a b, a < b → b < s → k b ≤ k a ∨ Asc k a (b + 1)

structure Inv1 (k : Nat → Int) (n s i r : Nat) (b : Int) : Prop where
  si : s < i
  asc : Asc k s i
  runs : Runs k s
  low : ∀ a, a < s → b ≤ k a
  r0 : r = 0 → s = 0
  r1 : r = 1 → Asc k 0 s
  fin : n < i → s = n
  ir : r ≤ s

theorem Asc.le {k : Nat → Int} {s i : Nat} (h : Asc k s i) : ∀ d a, s ≤ a → a + d < i → k a ≤ k (a + d)
  | 0, _, _, _ => Int.le_refl _
  | d + 1, a, h1, h2 => Int.le_trans (Asc.le h d a h1 (by omega)) (by have := h (a + (d + 1)) (by omega) h2; rwa [show a + (d + 1) - 1 = a + d by omega] at this)
theorem Asc.le' {k : Nat → Int} {s i a b : Nat} (h : Asc k s i) (h1 : s ≤ a) (h2 : a ≤ b) (h3 : b < i) : k a ≤ k b := by
  have := h.le (b - a) a h1 (by omega)
  rwa [show a + (b - a) = b by omega] at this

theorem Inv1.start (k : Nat → Int) (n : Nat) (b : Int) (hn : 0 < n) : Inv1 k n 0 1 0 b :=
  ⟨by omega, fun t h1 h2 => by omega, fun a b h1 h2 => by omega, fun a h => by omega, fun _ => rfl, fun h => by omega, fun h => by omega, Nat.le_refl _⟩

theorem Inv1.go {k : Nat → Int} {n s i r : Nat} {b : Int} (h : Inv1 k n s i r b) (hi : i < n) (hk : k (i - 1) ≤ k i) : Inv1 k n s (i + 1) r b :=
  ⟨by have := h.si; omega, fun t h1 h2 => by
    by_cases e : t = i
    · rw [e]; exact hk
    · exact h.asc t h1 (by omega), h.runs, h.low, h.r0, h.r1, fun h => by omega, h.ir⟩

theorem Inv1.cut {k : Nat → Int} {n s i r : Nat} {b : Int} (h : Inv1 k n s i r b) (hi : i ≤ n) (hb : k (i - 1) ≤ b) : Inv1 k n i (i + 1) (r + 1) (k s) := by
  have si := h.si
  have low' : ∀ a, a < i → k s ≤ k a := by
    intro a ha
    by_cases hs : a < s
    · have h1 := h.low a hs
      have h2 := h.asc.le' (Nat.le_refl s) (show s ≤ i - 1 by omega) (by omega)
      omega
    · exact h.asc.le' (Nat.le_refl s) (by omega) ha
  refine ⟨by omega, fun t h1 h2 => by omega, ?_, low', fun h => by omega, ?_, fun _ => by omega, by have := h.ir; omega⟩
  · intro a c hac hc
    by_cases hcs : c < s
    · exact h.runs a c hac hcs
    · by_cases has : a < s
      · have h1 := h.low a has
        have h2 := h.asc.le' (show s ≤ c by omega) (show c ≤ i - 1 by omega) (by omega)
        exact Or.inl (by omega)
      · exact Or.inr fun t h1 h2 => h.asc t (by omega) (by omega)
  · intro hr
    have := h.r0 (by omega)
    subst this
    exact h.asc

/-- the second loop: the nodes of the runs that are turned lie, last run first, in A -/
structure Inv2 (f : Nat → Int) (l : List Nat) (s i : Nat) (A : List Nat) : Prop where
  si : s < i
  sn : s ≤ l.length
  asc : Asc (fun t => f (l.getD t 0)) s i
  perm : A.Perm (l.take s)
  ord : A.Pairwise (fun a b => f a ≤ f b)
  fall : 0 < s → s < l.length → f (l.getD s 0) < f (l.getD (s - 1) 0)
  fin : l.length < i → s = l.length

theorem Inv2.start (f : Nat → Int) (l : List Nat) (hn : 0 < l.length) : Inv2 f l 0 1 [] :=
  ⟨by omega, by omega, fun t h1 h2 => by omega, by simp, List.Pairwise.nil, fun h => by omega, fun h => by omega⟩

theorem Inv2.go {f : Nat → Int} {l : List Nat} {s i : Nat} {A : List Nat} (h : Inv2 f l s i A) (hi : i < l.length) (hk : f (l.getD (i - 1) 0) ≤ f (l.getD i 0)) : Inv2 f l s (i + 1) A :=
  ⟨by have := h.si; omega, h.sn, fun t h1 h2 => by
    by_cases e : t = i
    · rw [e]; exact hk
    · exact h.asc t h1 (by omega), h.perm, h.ord, h.fall, fun h => by omega⟩

theorem asc_pairwise {f : Nat → Int} {l : List Nat} {s i : Nat} (h : Asc (fun t => f (l.getD t 0)) s i) (hi : i ≤ l.length) : ((l.take i).drop s).Pairwise (fun a b => f a ≤ f b) := by
  rw [List.pairwise_iff_getElem]
  intro a b ha hb hab
  simp only [List.length_drop, List.length_take] at ha hb
  have := h.le' (show s ≤ s + a by omega) (show s + a ≤ s + b by omega) (by omega)
  simp only [List.getElem_drop, List.getElem_take]
  simpa [List.getD_eq_getElem?_getD, show s + a < l.length by omega, show s + b < l.length by omega] using this

theorem take_split {l : List Nat} {s i : Nat} (h : s ≤ i) : l.take i = l.take s ++ (l.take i).drop s := by
  conv => lhs; rw [← List.take_append_drop s (l.take i), List.take_take, Nat.min_eq_left h]

theorem Inv2.cut {f : Nat → Int} {l : List Nat} {s i : Nat} {A : List Nat} (h : Inv2 f l s i A) (R : Runs (fun t => f (l.getD t 0)) l.length) (hi : i ≤ l.length) (hk : i < l.length → f (l.getD i 0) < f (l.getD (i - 1) 0)) :
    Inv2 f l i (i + 1) ((l.take i).drop s ++ A) := by
  have si := h.si
  refine ⟨by omega, hi, fun t h1 h2 => by omega, ?_, ?_, fun _ hl => hk hl, fun _ => by omega⟩
  · rw [take_split (Nat.le_of_lt si)]
    exact List.perm_append_comm.trans (List.Perm.append h.perm (by rw [← take_split (Nat.le_of_lt si)]))
  · rw [List.pairwise_append]
    refine ⟨asc_pairwise h.asc hi, h.ord, ?_⟩
    intro x hx y hy
    have hy' := h.perm.mem_iff.1 hy
    obtain ⟨a, ha, rfl⟩ := List.getElem_of_mem hx
    obtain ⟨b, hb, rfl⟩ := List.getElem_of_mem hy'
    simp only [List.length_drop, List.length_take] at ha hb
    simp only [List.getElem_drop, List.getElem_take]
    have hf := h.fall (by omega) (by omega)
    have := R b (s + a) (by omega) (by omega)
    rcases this with h1 | h1
    · simpa [List.getD_eq_getElem?_getD, show s + a < l.length by omega, show b < l.length by omega] using h1
    · have := h1 s (by omega) (by omega)
      simp only at this
      omega
end Go.Proofs.Ybulkaeuq
