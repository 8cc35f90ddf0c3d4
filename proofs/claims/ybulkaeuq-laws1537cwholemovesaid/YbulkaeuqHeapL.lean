/-
  THE PLAIN LAW of the 4-ary heap: lists of (deadline, node). No Go in sight. By the prover of seat b1537a.
-/
namespace Go.Proofs.Ybulkaeuq

/-- the deadline at index k -/
def wn (l : List (Int × Nat)) (k : Nat) : Int := (l.getD k (0, 0)).1
/-- the node at index k -/
def nn (l : List (Int × Nat)) (k : Nat) : Nat := (l.getD k (0, 0)).2
def par (k : Nat) : Nat := (k - 1) / 4

theorem getD_set (l : List (Int × Nat)) (i k : Nat) (x : Int × Nat) : (l.set i x).getD k (0, 0) = if i = k ∧ k < l.length then x else l.getD k (0, 0) := by
  simp only [List.getD_eq_getElem?_getD, List.getElem?_set]
  by_cases h : i = k
  · subst h
    by_cases h2 : i < l.length
    · simp [h2]
    · simp [h2]
  · simp [h]
theorem wn_set (l : List (Int × Nat)) (i k : Nat) (x : Int × Nat) : wn (l.set i x) k = if i = k ∧ k < l.length then x.1 else wn l k := by
  unfold wn; rw [getD_set]; split <;> rfl
theorem nn_set (l : List (Int × Nat)) (i k : Nat) (x : Int × Nat) : nn (l.set i x) k = if i = k ∧ k < l.length then x.2 else nn l k := by
  unfold nn; rw [getD_set]; split <;> rfl
theorem wn_get (l : List (Int × Nat)) (k : Nat) (h : k < l.length) : l[k].1 = wn l k := by simp [wn, h]
theorem nn_get (l : List (Int × Nat)) (k : Nat) (h : k < l.length) : l[k].2 = nn l k := by simp [nn, h]
theorem pair_get (l : List (Int × Nat)) (k : Nat) (h : k < l.length) : l[k] = (wn l k, nn l k) := by simp [wn, nn, h]

/-- exchange of two places is a permutation -/
theorem swap_perm (l : List (Int × Nat)) (i j : Nat) (e : Int × Nat) (hi : i < l.length) (hj : j < l.length) (hij : i ≠ j) :
    ((l.set i (l[j])).set j e).Perm (l.set i e) := by
  rw [List.perm_iff_count]
  intro a
  rw [List.count_set (by simpa using hj), List.count_set hi, List.count_set hi]
  have e1 : (l.set i l[j])[j]'(by simpa using hj) = l[j] := by
    rw [List.getElem_set]; simp [hij]
  rw [e1]
  have c1 : (if l[i] == a then 1 else 0) ≤ l.count a := by
    split
    · rename_i h
      exact List.count_pos_iff.2 (by have := List.getElem_mem hi; rwa [eq_of_beq h] at this)
    · omega
  omega

/-- order in the heap, at every place but those that x lets go -/
def Ord (l : List (Int × Nat)) (x : Nat → Prop) : Prop := ∀ k, 0 < k → k < l.length → ¬ x k → wn l (par k) ≤ wn l k

structure UpInv (L0 es : List (Int × Nat)) (h : Nat) (e : Int × Nat) : Prop where
  hh : h < es.length
  len : es.length = L0.length
  perm : (es.set h e).Perm L0
  ord : ∀ k, 0 < k → k < es.length → k ≠ h → wn (es.set h e) (par k) ≤ wn es k
  ord2 : ∀ k, 0 < k → k < es.length → par k = h → 0 < h → wn es (par h) ≤ wn es k

theorem par_lt {k : Nat} (h : 0 < k) : par k < k := by unfold par; omega

theorem UpInv.step {L0 es : List (Int × Nat)} {h : Nat} {e : Int × Nat} (I : UpInv L0 es h e) (h0 : 0 < h) (hlt : e.1 < wn es (par h)) :
    UpInv L0 (es.set h (wn es (par h), nn es (par h))) (par h) e := by
  have hp : par h < es.length := Nat.lt_trans (par_lt h0) I.hh
  have hne : h ≠ par h := by have := par_lt h0; omega
  refine ⟨by simpa using hp, by simpa using I.len, ?_, ?_, ?_⟩
  · rw [← pair_get es (par h) hp]
    exact (swap_perm es h (par h) e I.hh hp hne).trans I.perm
  · intro k hk hkl hkp
    simp only [List.length_set] at hkl
    have hpk := par_lt hk
    by_cases e1 : k = h
    · subst e1
      simp only [wn_set, List.length_set]
      rw [if_pos ⟨trivial, hp⟩, if_pos ⟨trivial, hkl⟩]
      exact Int.le_of_lt hlt
    · by_cases e2 : par k = h
      · have := I.ord2 k hk hkl e2 h0
        simp only [wn_set, List.length_set, e2]
        rw [if_neg (by omega), if_pos ⟨trivial, I.hh⟩, if_neg (by omega)]
        exact this
      · have o := I.ord k hk hkl e1
        simp only [wn_set, List.length_set] at o ⊢
        rw [if_neg (by omega)] at o
        rw [if_neg (c := h = par k ∧ _) (by omega), if_neg (c := h = k ∧ _) (by omega)]
        by_cases e3 : par h = par k
        · rw [if_pos ⟨e3, by omega⟩]
          rw [← e3] at o
          omega
        · rw [if_neg (by omega)]
          exact o
  · intro k hk hkl hkp hp0
    simp only [List.length_set] at hkl
    have hpk := par_lt hk
    have hpp := par_lt hp0
    have hph := par_lt h0
    have o1 := I.ord (par h) hp0 hp (by omega)
    simp only [wn_set] at o1 ⊢
    rw [if_neg (by omega)] at o1
    rw [if_neg (by omega)]
    by_cases e1 : h = k
    · rw [if_pos ⟨e1, hkl⟩]; exact o1
    · rw [if_neg (by omega)]
      have o2 := I.ord k hk hkl (by omega)
      simp only [wn_set] at o2
      rw [if_neg (by omega), hkp] at o2
      omega

theorem UpInv.stop {L0 es : List (Int × Nat)} {h : Nat} {e : Int × Nat} (I : UpInv L0 es h e) (hs : h = 0 ∨ wn es (par h) ≤ e.1) :
    (es.set h e).Perm L0 ∧ Ord (es.set h e) (fun _ => False) := by
  refine ⟨I.perm, ?_⟩
  intro k hk hkl _
  simp only [List.length_set] at hkl
  by_cases e1 : k = h
  · subst e1
    have := par_lt hk
    rcases hs with hs | hs
    · omega
    · simp only [wn_set]
      rw [if_neg (by omega), if_pos ⟨trivial, hkl⟩]
      exact hs
  · have o := I.ord k hk hkl e1
    rw [wn_set (k := k), if_neg (by omega)]
    exact o

/-- what push starts up from: a heap in order, one entry behind it -/
theorem UpInv.start {es : List (Int × Nat)} {e : Int × Nat} (h : Ord es (fun _ => False)) : UpInv (es ++ [e]) (es ++ [e]) es.length e := by
  have hset : (es ++ [e]).set es.length e = es ++ [e] := by simp
  refine ⟨by simp, rfl, by rw [hset], ?_, ?_⟩
  · intro k hk hkl hne
    rw [hset]
    simp only [List.length_append, List.length_cons, List.length_nil] at hkl
    have hp := par_lt hk
    have := h k hk (by omega) (fun f => f)
    unfold wn at this ⊢
    simp only [List.getD_eq_getElem?_getD] at this ⊢
    rw [List.getElem?_append_left (by omega), List.getElem?_append_left (by omega)]
    exact this
  · intro k hk hkl hpk
    simp only [List.length_append, List.length_cons, List.length_nil] at hkl
    have hp := par_lt hk
    omega

/-! ### down -/
structure DnInv (L0 es : List (Int × Nat)) (i h : Nat) (e : Int × Nat) : Prop where
  hh : h < es.length
  hi : i ≤ h
  len : es.length = L0.length
  perm : (es.set h e).Perm L0
  ord : ∀ k, 0 < k → k < es.length → k ≠ i → par k ≠ h → wn (es.set h e) (par k) ≤ wn (es.set h e) k
  ord2 : ∀ k, 0 < k → k < es.length → par k = h → h ≠ i → wn es (par h) ≤ wn es k

theorem DnInv.start {es : List (Int × Nat)} {i : Nat} {e : Int × Nat} (h : Ord es (fun _ => False)) (hi : i < es.length) : DnInv (es.set i e) es i i e := by
  refine ⟨hi, Nat.le_refl _, by simp, List.Perm.refl _, ?_, ?_⟩
  · intro k hk hkl hne hp
    simp only [wn_set]
    rw [if_neg (by omega), if_neg (by omega)]
    exact h k hk hkl (fun f => f)
  · intro k _ _ _ hne
    exact absurd rfl hne

/-- c: the least of h's children, due before e: it goes up -/
theorem DnInv.step {L0 es : List (Int × Nat)} {i h c : Nat} {e : Int × Nat} (I : DnInv L0 es i h e) (hc : c < es.length) (hc0 : 0 < c) (hpc : par c = h)
    (hleast : ∀ k, 0 < k → k < es.length → par k = h → wn es c ≤ wn es k) (hlt : wn es c < e.1) :
    DnInv L0 (es.set h (wn es c, nn es c)) i c e := by
  have hlc : h < c := by have := par_lt hc0; omega
  have hil := I.hi
  refine ⟨by simpa using hc, by omega, by simpa using I.len, ?_, ?_, ?_⟩
  · rw [← pair_get es c hc]
    exact (swap_perm es h c e I.hh hc (by omega)).trans I.perm
  · intro k hk hkl hki hkc
    simp only [List.length_set] at hkl
    have hpk := par_lt hk
    by_cases e1 : k = h
    · subst e1
      have o := I.ord2 c hc0 hc hpc hki
      simp only [wn_set, List.length_set]
      rw [if_neg (by omega), if_neg (by omega), if_neg (by omega), if_pos ⟨trivial, hkl⟩]
      exact o
    · by_cases e2 : par k = h
      · have hl := hleast k hk hkl e2
        simp only [wn_set, List.length_set, e2]
        rw [if_neg (by omega), if_pos ⟨trivial, I.hh⟩]
        by_cases e3 : c = k
        · rw [if_pos ⟨e3, hkl⟩]; omega
        · rw [if_neg (by omega), if_neg (by omega)]; exact hl
      · have o := I.ord k hk hkl hki e2
        simp only [wn_set, List.length_set] at o ⊢
        rw [if_neg (by omega), if_neg (by omega)] at o
        have hck : c ≠ k := by intro e3; subst e3; exact e2 hpc
        rw [if_neg (by omega), if_neg (by omega), if_neg (by omega), if_neg (by omega)]
        exact o
  · intro k hk hkl hkc _
    simp only [List.length_set] at hkl
    have hpk := par_lt hk
    have o := I.ord k hk hkl (by omega) (by omega)
    simp only [wn_set] at o ⊢
    rw [if_neg (by omega), if_neg (by omega), hkc] at o
    rw [hpc, if_pos ⟨rfl, I.hh⟩, if_neg (by omega)]
    exact o

theorem DnInv.stop {L0 es : List (Int × Nat)} {i h : Nat} {e : Int × Nat} (I : DnInv L0 es i h e) (hs : ∀ k, 0 < k → k < es.length → par k = h → e.1 ≤ wn es k) :
    (es.set h e).Perm L0 ∧ Ord (es.set h e) (fun k => k = i) := by
  refine ⟨I.perm, ?_⟩
  intro k hk hkl hki
  simp only [List.length_set] at hkl
  have hpk := par_lt hk
  by_cases e2 : par k = h
  · have := hs k hk hkl e2
    simp only [wn_set, e2]
    rw [if_pos ⟨trivial, I.hh⟩, if_neg (by omega)]
    exact this
  · exact I.ord k hk hkl hki e2

theorem par_iff (k h : Nat) (hk : 0 < k) : par k = h ↔ 4 * h + 1 ≤ k ∧ k ≤ 4 * h + 4 := by unfold par; omega

/-- the heap's head is the least -/
theorem Ord.head {l : List (Int × Nat)} (h : Ord l (fun _ => False)) (k : Nat) (hk : k < l.length) : wn l 0 ≤ wn l k := by
  induction k using Nat.strongRecOn with
  | _ k ih =>
    by_cases h0 : k = 0
    · subst h0; exact Int.le_refl _
    · have hp := par_lt (by omega : 0 < k)
      exact Int.le_trans (ih (par k) hp (by omega)) (h k (by omega) hk (fun f => f))

end Go.Proofs.Ybulkaeuq
