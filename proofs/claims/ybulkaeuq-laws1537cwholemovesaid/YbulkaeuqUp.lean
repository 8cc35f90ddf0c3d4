/-
  The contract of (*heap[int]).up. By the prover of seat b1537a.
-/
import Derived.Test.YbulkaeuqSet
namespace Go.Proofs.Ybulkaeuq
open Go.RowKit

/-- which old cells up and down may turn: the row's, and the positions of the nodes of L -/
def HS (g : Nat) (L : List (Int × Nat)) (k o : Nat) : Prop := (k = g ∧ o < L.length * 2) ∨ (o = 2 ∧ ∃ t, (t, k) ∈ L)

/-- node and position of place k -/
def NP (w : World) (es : List (Int × Nat)) (k : Nat) : Prop := Nd w (nn es k) (wn es k) ∧ w.cell? ⟨nn es k, 2, none⟩ = some (.int .i64 ((k : Int) * 1024 + 1))

theorem mem_pair (l : List (Int × Nat)) (k : Nat) (h : k < l.length) : (wn l k, nn l k) ∈ l := by
  rw [← pair_get l k h]; exact List.getElem_mem h

theorem nn_ne {l : List (Int × Nat)} (hd : (l.map (·.2)).Nodup) {j k : Nat} (hj : j < l.length) (hk : k < l.length) (hjk : j ≠ k) : nn l j ≠ nn l k := by
  have h := List.pairwise_iff_getElem.1 hd
  intro e
  rw [← nn_get l j hj, ← nn_get l k hk] at e
  rcases Nat.lt_or_gt_of_ne hjk with h1 | h1
  · exact h j k (by simpa using hj) (by simpa using hk) h1 (by simpa using e)
  · exact h k j (by simpa using hk) (by simpa using hj) h1 (by simpa using e.symm)

theorem perm_nodup {l m : List (Int × Nat)} (h : l.Perm m) (hd : (m.map (·.2)).Nodup) : (l.map (·.2)).Nodup := (h.map _).nodup_iff.2 hd

/-- the state in the loops of up and down: a hole at h, to be filled by e -/
structure Hole (L0 : List (Int × Nat)) (e : Int × Nat) (base B ho g cap : Nat) (w1 : World) (h : Nat) (es : List (Int × Nat)) (w : World) : Prop where
  hh : h < es.length
  len : es.length = L0.length
  perm : (es.set h e).Perm L0
  st : HeapSt w base B ho g cap es
  np : ∀ k, k < es.length → k ≠ h → NP w es k
  nd : Nd w e.2 e.1
  frm : Frm w1 w (HS g L0)

theorem Hole.step {L0 : List (Int × Nat)} {e : Int × Nat} {base B ho g cap : Nat} {w1 : World} {h : Nat} {es : List (Int × Nat)} {w : World} (R : Hole L0 e base B ho g cap w1 h es w) (hd : (L0.map (·.2)).Nodup)
    (c : Nat) (hc : c < es.length) (hch : c ≠ h) {w' : World} (H' : HeapSt w' base B ho g cap (es.set h (wn es c, nn es c))) (hp : w'.cell? ⟨nn es c, 2, none⟩ = some (.int .i64 ((h : Int) * 1024 + 1)))
    (F : Frm w w' (fun k o => (k = g ∧ o < es.length * 2) ∨ (k = nn es c ∧ o = 2))) :
    Hole L0 e base B ho g cap w1 c (es.set h (wn es c, nn es c)) w' := by
  have hd' := perm_nodup R.perm hd
  have hgc := R.st.gp (R.np c hc hch).1
  refine ⟨by simpa using hc, by simpa using R.len, ?_, H', ?_, ?_, ?_⟩
  · rw [← pair_get es c hc]
    exact (swap_perm es h c e R.hh hc (fun x => hch x.symm)).trans R.perm
  · intro k hk hkc
    simp only [List.length_set] at hk
    unfold NP
    rw [nn_set, wn_set]
    by_cases e1 : h = k
    · subst e1
      rw [if_pos ⟨rfl, hk⟩, if_pos ⟨rfl, hk⟩]
      exact ⟨Nd.frm F (R.np c hc hch).1 (by rintro (⟨x, _⟩ | ⟨_, x⟩); exact hgc x.symm; simp at x), hp⟩
    · rw [if_neg (by omega), if_neg (by omega)]
      obtain ⟨n1, n2⟩ := R.np k hk (fun x => e1 x.symm)
      have hgk := R.st.gp n1
      have hne : nn es k ≠ nn es c := by
        have := nn_ne hd' (j := k) (k := c) (by simpa using hk) (by simpa using hc) hkc
        rwa [nn_set, nn_set, if_neg (by omega), if_neg (by omega)] at this
      refine ⟨Nd.frm F n1 (by rintro (⟨x, _⟩ | ⟨_, x⟩); exact hgk x.symm; simp at x), ?_⟩
      rw [F.cell _ _ n1.lt (by rintro (⟨x, _⟩ | ⟨x, _⟩); exact hgk x.symm; exact hne x)]
      exact n2
  · have := R.st.gp R.nd
    exact Nd.frm F R.nd (by rintro (⟨x, _⟩ | ⟨_, x⟩); exact this x.symm; simp at x)
  · refine R.frm.trans (F.mono ?_)
    rintro k o _ (⟨x, y⟩ | ⟨x, y⟩)
    · exact Or.inl ⟨x, by rw [← R.len]; exact y⟩
    · refine Or.inr ⟨y, wn es c, ?_⟩
      have := mem_pair (es.set h e) c (by simpa using hc)
      rw [nn_set, wn_set, if_neg (by omega), if_neg (by omega)] at this
      rw [x]
      exact R.perm.mem_iff.1 this

/-- the end: e is put into the hole -/
theorem Hole.stop {L0 : List (Int × Nat)} {e : Int × Nat} {base B ho g cap : Nat} {w1 : World} {h : Nat} {es : List (Int × Nat)} {w : World} (R : Hole L0 e base B ho g cap w1 h es w) (hd : (L0.map (·.2)).Nodup)
    {w' : World} (hp : w'.cell? ⟨e.2, 2, none⟩ = some (.int .i64 ((h : Int) * 1024 + 1)))
    (F : Frm w w' (fun k o => (k = g ∧ o < es.length * 2) ∨ (k = e.2 ∧ o = 2))) :
    (∀ k, k < (es.set h e).length → NP w' (es.set h e) k) ∧ Frm w1 w' (HS g L0) := by
  have hd' := perm_nodup R.perm hd
  have hge := R.st.gp R.nd
  refine ⟨?_, ?_⟩
  · intro k hk
    simp only [List.length_set] at hk
    unfold NP
    rw [nn_set, wn_set]
    by_cases e1 : h = k
    · subst e1
      rw [if_pos ⟨rfl, hk⟩, if_pos ⟨rfl, hk⟩]
      exact ⟨Nd.frm F R.nd (by rintro (⟨x, _⟩ | ⟨_, x⟩); exact hge x.symm; simp at x), hp⟩
    · rw [if_neg (by omega), if_neg (by omega)]
      obtain ⟨n1, n2⟩ := R.np k hk (fun x => e1 x.symm)
      have hgk := R.st.gp n1
      have hne : nn es k ≠ e.2 := by
        have := nn_ne hd' (j := k) (k := h) (by simpa using hk) (by simpa using R.hh) (fun x => e1 x.symm)
        rwa [nn_set, nn_set, if_neg (by omega), if_pos ⟨rfl, R.hh⟩] at this
      refine ⟨Nd.frm F n1 (by rintro (⟨x, _⟩ | ⟨_, x⟩); exact hgk x.symm; simp at x), ?_⟩
      rw [F.cell _ _ n1.lt (by rintro (⟨x, _⟩ | ⟨x, _⟩); exact hgk x.symm; exact hne x)]
      exact n2
  · refine R.frm.trans (F.mono ?_)
    rintro k o _ (⟨x, y⟩ | ⟨x, y⟩)
    · exact Or.inl ⟨x, by rw [← R.len]; exact y⟩
    · refine Or.inr ⟨y, e.1, ?_⟩
      have := mem_pair (es.set h e) h (by simpa using R.hh)
      rw [nn_set, wn_set, if_pos ⟨rfl, R.hh⟩, if_pos ⟨rfl, R.hh⟩] at this
      rw [x]
      exact R.perm.mem_iff.1 this

/-- the box that holds e, in a later world -/
theorem Hole.box {L0 : List (Int × Nat)} {e : Int × Nat} {base B ho g cap : Nat} {w : World} {h : Nat} {es : List (Int × Nat)} {wr : World}
    (R : Hole L0 e base B ho g cap (w.alloc (.cells #[.int .i64 e.1, .pointer (some ⟨e.2, 0, none⟩)] 32)) h es wr) (hg : g < w.heap.size) (hL : ∀ t k, (t, k) ∈ L0 → k < w.heap.size) :
    wr.cell? ⟨w.heap.size, 0, none⟩ = some (.int .i64 e.1) ∧ wr.cell? ⟨w.heap.size, 1, none⟩ = some (.pointer (some ⟨e.2, 0, none⟩)) := by
  have hS : ∀ o, ¬ HS g L0 w.heap.size o := by
    rintro o (⟨x, _⟩ | ⟨_, t, x⟩)
    · omega
    · have := hL _ _ x; omega
  refine ⟨?_, ?_⟩
  · rw [R.frm.cell _ _ (by simp) (hS 0)]; simp
  · rw [R.frm.cell _ _ (by simp) (hS 1)]; simp

theorem Hole.drewN {L0 : List (Int × Nat)} {e : Int × Nat} {base B ho g cap : Nat} {w1 : World} {h : Nat} {es : List (Int × Nat)} {w : World} (R : Hole L0 e base B ho g cap w1 h es w) (n : Nat) :
    Hole L0 e base B ho g cap w1 h es (w.drewN n) :=
  ⟨R.hh, R.len, R.perm, ⟨R.st.hdr, R.st.own, R.st.shB⟩, fun k h1 h2 => ⟨⟨(R.np k h1 h2).1.shp, (R.np k h1 h2).1.when, (R.np k h1 h2).1.frz⟩, (R.np k h1 h2).2⟩, ⟨R.nd.shp, R.nd.when, R.nd.frz⟩, R.frm.trans (Frm.drewN _ _ _)⟩

set_option maxHeartbeats 1000000 in
set_option maxRecDepth 100000 in
theorem up_calls (L0 : List (Int × Nat)) (e : Int × Nat) (base B ho g cap i : Nat) (es : List (Int × Nat)) (w : World) (hn : es.length < 100000000) (hd : (L0.map (·.2)).Nodup)
    (I : UpInv L0 es i e) (H : HeapSt w base B ho g cap es) (hN : ∀ k, k < es.length → k ≠ i → NP w es k) (hNe : Nd w e.2 e.1) (hL : ∀ t k, (t, k) ∈ L0 → k < w.heap.size) :
    Calls Yba.prog 19 #[.pointer (some ⟨B, ho, none⟩), .int .i64 i, .agg #[.int .i64 e.1, .pointer (some ⟨e.2, 0, none⟩)]] w fun r w' =>
      r = .returned (.tuple #[]) ∧ ∃ es', es'.Perm L0 ∧ Ord es' (fun _ => False) ∧ HeapSt w' base B ho g cap es' ∧ (∀ k, k < es'.length → NP w' es' k) ∧ Frm w w' (HS g L0) := by
  have hg := H.ltg
  have hB := H.ltB
  obtain ⟨e1, e2⟩ := e
  go_enter Yba.func19, Yba.ntmps19
  go_wp2
  go_loopw [1] (fun i wr => ∃ (h : Nat) (er : List (Int × Nat)), i = .int .i64 h ∧ UpInv L0 er h (e1, e2) ∧ Hole L0 (e1, e2) base B ho g cap (w.alloc (.cells #[.int .i64 e1, .pointer (some ⟨e2, 0, none⟩)] 32)) h er wr) (fun i _ => (intOf i).toNat)
  case atStart =>
    refine ⟨i, es, rfl, I, I.hh, I.len, I.perm, H.frm (Frm.alloc _ _ (fun _ _ => False)) (fun h => h) (fun _ h => h), fun k h1 h2 => ?_, hNe.frm (Frm.alloc _ _ (fun _ _ => False)) (fun h => h), Frm.refl _ _⟩
    obtain ⟨n1, n2⟩ := hN k h1 h2
    exact ⟨n1.frm (Frm.alloc _ _ (fun _ _ => False)) (fun h => h), (World.cell?_alloc_lt _ _ _ n1.lt).trans n2⟩
  case round =>
    obtain ⟨h, er, rfl, J, R⟩ := hrel
    have hbox := R.box hg hL
    obtain ⟨b0, b1⟩ := hbox
    have hrl : er.length < 100000000 := by rw [R.len, ← I.len]; exact hn
    have hhd := R.st.hdr
    have hhl := R.hh
    by_cases h0 : 0 < h
    · have hp := par_lt h0
      have hpl : par h < er.length := by omega
      have hev := R.st.even (par h) hpl
      have hod := R.st.odd (par h) hpl
      obtain ⟨P, hP⟩ : ∃ P, P = par h := ⟨_, rfl⟩
      rw [← hP] at hev hod hp hpl
      have hPd : ((h : Int) - 1) / 4 = (P : Int) := by rw [hP]; unfold par; omega
      have HP : Hid (P = par h) := hP
      clear hP
      by_cases c : wn er P ≤ e1
      · go_wp2_with fail
        go_quiet (fail)
        go_wp2_with fail
        refine (set_calls base B ho g cap h e2 e1 er _ (R.drewN _).st hhl hrl (R.drewN _).nd).mono ?_
        rintro r w' ⟨rfl, H', hp', F⟩
        go_wp2_with fail
        go_end0
        obtain ⟨q1, q2⟩ := (R.drewN _).stop hd hp' F
        obtain ⟨q3, q4⟩ := J.stop (Or.inr (by rw [← HP.out]; exact c))
        exact ⟨rfl, _, q3, q4, H', q1, (Frm.alloc _ _ _).trans q2⟩
      · go_wp2_with fail
        go_quiet (fail)
        go_wp2_with fail
        refine (set_calls base B ho g cap h (nn er P) (wn er P) er _ (R.drewN _).st hhl hrl ((R.drewN _).np P hpl (by omega)).1).mono ?_
        rintro r w' ⟨rfl, H', hp', F⟩
        go_wp2_with fail
        go_roundw
        case rel =>
          refine ⟨P, er.set h (wn er P, nn er P), rfl, ?_, (R.drewN _).step hd P hpl (by omega) H' hp' F⟩
          have := J.step h0 (by rw [← HP.out]; exact (show e1 < wn er P by omega))
          rw [← HP.out] at this
          exact this
        case measure => simp [intOf]; omega
    · obtain rfl : h = 0 := by omega
      go_wp2_with fail
      refine (set_calls base B ho g cap 0 e2 e1 er wr R.st hhl hrl R.nd).mono ?_
      rintro r w' ⟨rfl, H', hp', F⟩
      go_wp2_with fail
      go_end0
      obtain ⟨q1, q2⟩ := R.stop hd hp' F
      obtain ⟨q3, q4⟩ := J.stop (Or.inl rfl)
      exact ⟨rfl, _, q3, q4, H', q1, (Frm.alloc _ _ _).trans q2⟩

end Go.Proofs.Ybulkaeuq
