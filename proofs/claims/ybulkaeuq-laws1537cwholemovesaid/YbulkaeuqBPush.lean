/-
  The contract of (*bucket[int]).push. By the prover of seat b1537a.
-/
import Derived.Test.YbulkaeuqRoom
namespace Go.Proofs.Ybulkaeuq
open Go.RowKit

theorem ownsRow_snoc {w : World} {base e g n c : Nat} {xs : List Value} (h : w.ownsRow base e 1 (.slice (some ⟨g, 0, none⟩) n c) n xs) (hr : n < c) (v : Value) : (w.setCell ⟨g, n, none⟩ v).ownsRow base e 1 (.slice (some ⟨g, 0, none⟩) (n + 1) c) (n + 1) (xs ++ [v]) := by
  have hl : xs.length = n := by have := h.1; omega
  rcases h.2 with ⟨h', _⟩ | ⟨g', cap', cur, h', hbs, hg, hnc, hcm, hcs, htake⟩
  · simp at h'
  · simp only [Value.slice.injEq, Option.some.injEq, Addr.mk.injEq, and_true, true_and] at h'
    obtain ⟨rfl, rfl⟩ := h'
    refine ⟨by simp [hl], .inr ⟨g, c, cur.setIfInBounds n v, rfl, hbs, heap_setCell_same w g n cur e v hg, by omega, hcm, by simpa using hcs, ?_⟩⟩
    rw [Array.toList_setIfInBounds, Nat.mul_one]
    rw [Nat.mul_one] at htake
    have hcl : n < cur.toList.length := by rw [Array.length_toList, hcs]; omega
    rw [List.take_succ_eq_append_getElem (by simpa using hcl), List.take_set_of_le (Nat.le_refl _), htake]
    simp

/-- a store into the tail's own block: 'full' and the whole arrays stand -/
theorem Bk.pushed {w : World} {bb K g c p : Nat} {fs : List Nat} {cs : List (List Nat)} {t : List Nat} {vf : Value} {sp : Option Addr} (h : Bk w bb K fs cs t vf (.slice (some ⟨g, 0, none⟩) t.length c) sp) (hr : t.length < c) :
    Bk ((w.setCell ⟨K, 1, none⟩ (.slice (some ⟨g, 0, none⟩) (t.length + 1) c)).setCell ⟨g, t.length, none⟩ (.pointer (some ⟨p, 0, none⟩))) bb K fs cs (t ++ [p]) vf (.slice (some ⟨g, 0, none⟩) (t.length + 1) c) sp ∧
    Frm w ((w.setCell ⟨K, 1, none⟩ (.slice (some ⟨g, 0, none⟩) (t.length + 1) c)).setCell ⟨g, t.length, none⟩ (.pointer (some ⟨p, 0, none⟩))) (BS w bb K) := by
  have hg := h.own1.lt g rfl
  have hgK : g ≠ K := by have := h.hK; omega
  obtain ⟨m, hm⟩ := shape_of_own h.own1 (k := g) rfl
  have hKg : ∀ o, (⟨g, t.length, none⟩ : Addr) ≠ ⟨K, o, none⟩ := fun o e => hgK (congrArg Addr.block e)
  have keep : ∀ k, k ≠ K → k ≠ g → ((w.setCell ⟨K, 1, none⟩ (.slice (some ⟨g, 0, none⟩) (t.length + 1) c)).setCell ⟨g, t.length, none⟩ (.pointer (some ⟨p, 0, none⟩))).heap[k]? = w.heap[k]? := fun k h1 h2 => (Below.heap_setCell _ _ _ _ h2).trans (Below.heap_setCell _ _ _ _ h1)
  refine ⟨⟨?_, ?_, ?_, ?_, ?_, h.hK, ?_, ?_, h.lcs, ?_, h.nod, h.apt, ?_⟩, ?_⟩
  · rw [World.cell?_setCell_other _ _ _ _ (hKg 0), World.cell?_setCell_other _ _ _ _ (by simp)]; exact h.c0
  · rw [World.cell?_setCell_other _ _ _ _ (hKg 1)]; exact World.cell?_setCell_same _ _ _ h.c1
  · rw [World.cell?_setCell_other _ _ _ _ (hKg 2), World.cell?_setCell_other _ _ _ _ (by simp)]; exact h.c2
  · rw [shape?_setCell, shape?_setCell]; exact h.sh
  · intro o; rw [World.frozen?_setCell, World.frozen?_setCell]; exact h.fz o
  · refine ownsRow_kept h.own0 fun k hk => keep k (fun e => ownsRow_notK h.own0 h.hK (e ▸ hk)) ?_
    intro e
    obtain ⟨m', hm'⟩ := shape_of_own h.own0 hk
    rw [e, hm] at hm'; simp at hm'
  · have o1 : (w.setCell ⟨K, 1, none⟩ (.slice (some ⟨g, 0, none⟩) (t.length + 1) c)).ownsRow bb 28 1 (.slice (some ⟨g, 0, none⟩) t.length c) t.length (ptrs t) := ownsRow_kept h.own1 fun k hk => Below.heap_setCell _ _ _ _ (fun e => ownsRow_notK h.own1 h.hK (by rw [← (show k = K from e)]; exact hk))
    have := ownsRow_snoc o1 hr (.pointer (some ⟨p, 0, none⟩))
    rw [List.length_append, ptrs_append]
    exact this
  · intro i hi
    refine ownsRow_kept (h.chk i hi) fun k hk => keep k (fun e => ownsRow_notK (h.chk i hi) h.hK (e ▸ hk)) ?_
    intro e
    simp [Value.ownBlock] at hk
    rw [e] at hk
    exact h.apt _ (List.getElem_mem hi) (by simp [Value.ownBlock]; rw [← hk]; simp [hi])
  · intro a n' c' e
    simp at e
    have := h.cap _ _ _ rfl
    rw [← e.2.2]
    exact this
  · exact (Frm.setCell w K 1 _ _ (Or.inl ⟨rfl, by omega⟩)).trans (Frm.setCell _ g t.length _ _ (Or.inr ⟨hg.1, m, Or.inl hm⟩))

theorem flatten_len {w : World} {bb K : Nat} {fs : List Nat} {cs : List (List Nat)} {t : List Nat} {vf vt : Value} {sp : Option Addr} (h : Bk w bb K fs cs t vf vt sp) : cs.flatten.length = fs.length * 255 := by
  have : ∀ c ∈ cs, c.length = 255 := by
    intro c hc
    obtain ⟨i, hi, he⟩ := List.getElem_of_mem hc
    have := (h.chk i (by rw [← h.lcs]; exact hi)).1
    rw [ptrs_length] at this
    simp [hi, he] at this
    exact this
  rw [List.length_flatten, ← h.lcs]
  clear h
  induction cs with
  | nil => rfl
  | cons a l ih =>
    have ha := this a (by simp)
    simp only [List.map_cons, List.sum_cons, List.length_cons]
    rw [ih (fun c hc => this c (by simp [hc])), ha]
    omega

/-- what push asks of the world where there is room -/
theorem Bk.vt_room {w : World} {bb K : Nat} {fs : List Nat} {cs : List (List Nat)} {t : List Nat} {vf vt : Value} {sp : Option Addr} (h : Bk w bb K fs cs t vf vt sp) : (vt = .slice none 0 0 ∧ t = []) ∨ ∃ g c, vt = .slice (some ⟨g, 0, none⟩) t.length c ∧ t.length ≤ c ∧ c ≤ 255 ∧ (fs ≠ [] → c = 255) := by
  rcases h.own1.2 with ⟨h1, h2⟩ | ⟨g, c, cur, h1, _, _, h2, _⟩
  · exact Or.inl ⟨h1, List.eq_nil_of_length_eq_zero h2⟩
  · obtain ⟨h3, h4⟩ := h.cap _ _ _ h1
    exact Or.inr ⟨g, c, h1, h2, h3, h4⟩

theorem Bk.vf_form {w : World} {bb K : Nat} {fs : List Nat} {cs : List (List Nat)} {t : List Nat} {vf vt : Value} {sp : Option Addr} (h : Bk w bb K fs cs t vf vt sp) : ∃ fa fc, vf = .slice fa fs.length fc := by
  rcases h.own0.2 with ⟨h1, h2⟩ | ⟨g, c, cur, h1, _⟩
  · exact ⟨none, 0, by rw [h1, h2]⟩
  · exact ⟨_, _, h1⟩

theorem Bk.drewN {w : World} {bb K : Nat} {fs : List Nat} {cs : List (List Nat)} {t : List Nat} {vf vt : Value} {sp : Option Addr} (h : Bk w bb K fs cs t vf vt sp) (n : Nat) : Bk (w.drewN n) bb K fs cs t vf vt sp :=
  ⟨h.c0, h.c1, h.c2, h.sh, h.fz, h.hK, h.own0, h.own1, h.lcs, h.chk, h.nod, h.apt, h.cap⟩

set_option maxHeartbeats 1000000 in
set_option maxRecDepth 100000 in
theorem bpush_room (bb K g c p fc : Nat) (fs : List Nat) (cs : List (List Nat)) (t : List Nat) (fa : Option Addr) (w : World) (h : Bk w bb K fs cs t (.slice fa fs.length fc) (.slice (some ⟨g, 0, none⟩) t.length c) none) (hr : t.length < c) (hF : fs.length < 1000) :
    Calls Yba.prog 23 #[.pointer (some ⟨K, 0, none⟩), .pointer (some ⟨p, 0, none⟩)] w fun e w' => e = .returned (.int .i64 ((fs.length * 255 + t.length : Nat) : Int)) ∧ Bk w' bb K fs cs (t ++ [p]) (.slice fa fs.length fc) (.slice (some ⟨g, 0, none⟩) (t.length + 1) c) none ∧ Frm w w' (BS w bb K) := by
  have c0 := h.c0
  have c1 := h.c1
  have f1 := h.fz 1
  have hK := h.lt
  have hg := h.own1.lt g rfl
  have hgf := h.own1.frozenAt t.length
  obtain ⟨cap1, _⟩ := h.cap _ _ _ rfl
  have hgK : g ≠ K := by have := h.hK; omega
  obtain ⟨u, hu⟩ : ∃ u, w.cell? ⟨g, t.length, none⟩ = some u := cell_of_shape (ownsRow_shape h.own1) t.length (by omega)
  have hne : ((t.length : Int) == (c : Int)) = false := beq_eq_false_iff_ne.2 (by omega)
  obtain ⟨r1, r2⟩ := h.pushed hr (p := p)
  go_enter Yba.func23, Yba.ntmps23
  go_wp2_with fail
  go_quiet (fail)
  go_wp2_with fail
  go_ret
  exact ⟨ret_int (by omega), r1.drewN _, r2.trans (Frm.drewN _ _ _)⟩

set_option maxHeartbeats 1000000 in
set_option maxRecDepth 100000 in
theorem bpush_grow (bb K p fc : Nat) (t : List Nat) (ao fa : Option Addr) (w : World) (h : Bk w bb K [] [] t (.slice fa 0 fc) (.slice ao t.length t.length) none) (hn : t.length < 255) (hbb : bb ≤ w.heap.size) :
    Calls Yba.prog 23 #[.pointer (some ⟨K, 0, none⟩), .pointer (some ⟨p, 0, none⟩)] w fun e w' => e = .returned (.int .i64 ((t.length : Nat) : Int)) ∧ ∃ vt', Bk w' bb K [] [] (t ++ [p]) (.slice fa 0 fc) vt' none ∧ Frm w w' (BS w bb K) := by
  have c1 := h.c1
  have heq : ((t.length : Int) == (t.length : Int)) = true := by simp
  go_enter Yba.func23, Yba.ntmps23
  go_wp2_with fail
  go_quiet (fail)
  go_wp2_with fail
  refine (makeRoom_grow bb K t ao fa fc _ (h.drewN _) hn hbb).mono ?_
  rintro e w1 ⟨rfl, g, c, h1, hc, F1⟩
  have d0 := h1.c0
  have d1 := h1.c1
  have f1 := h1.fz 1
  have hK := h1.lt
  have hg := h1.own1.lt g rfl
  have hgf := h1.own1.frozenAt t.length
  obtain ⟨cap1, _⟩ := h1.cap _ _ _ rfl
  have hgK : g ≠ K := by have := h1.hK; omega
  obtain ⟨u, hu⟩ : ∃ u, w1.cell? ⟨g, t.length, none⟩ = some u := cell_of_shape (ownsRow_shape h1.own1) t.length (by omega)
  obtain ⟨r1, r2⟩ := h1.pushed hc (p := p)
  clear heq
  go_wp2_with fail
  go_ret
  exact ⟨ret_int (by omega), _, r1, BS.trans ((Frm.drewN w _ _).trans F1) r2⟩

set_option maxHeartbeats 1000000 in
set_option maxRecDepth 100000 in
theorem bpush_full (bb K g p fc : Nat) (fs : List Nat) (cs : List (List Nat)) (t : List Nat) (fa : Option Addr) (w : World) (h : Bk w bb K fs cs t (.slice fa fs.length fc) (.slice (some ⟨g, 0, none⟩) 255 255) none) (ht : t.length = 255) (hF : fs.length < 900) (hbb : bb ≤ w.heap.size) :
    Calls Yba.prog 23 #[.pointer (some ⟨K, 0, none⟩), .pointer (some ⟨p, 0, none⟩)] w fun e w' => e = .returned (.int .i64 (((fs.length + 1) * 255 : Nat) : Int)) ∧ ∃ vf' vt', Bk w' bb K (fs ++ [g]) (cs ++ [t]) [p] vf' vt' none ∧ Frm w w' (BS w bb K) := by
  have c1 := h.c1
  go_enter Yba.func23, Yba.ntmps23
  go_wp2_with fail
  go_quiet (fail)
  go_wp2_with fail
  refine (makeRoom_full bb K g fc fs cs t fa _ (h.drewN _) ht (by omega) hbb).mono ?_
  rintro e w1 ⟨rfl, vf', g', h1, F1⟩
  obtain ⟨fa', fc', rfl⟩ := h1.vf_form
  have d0 := h1.c0
  have d1 := h1.c1
  have f1 := h1.fz 1
  have hK := h1.lt
  have hg := h1.own1.lt g' rfl
  have hgf := h1.own1.frozenAt 0
  have hgK : g' ≠ K := by have := h1.hK; omega
  obtain ⟨u, hu⟩ : ∃ u, w1.cell? ⟨g', 0, none⟩ = some u := cell_of_shape (ownsRow_shape h1.own1) 0 (by omega)
  obtain ⟨r1, r2⟩ := h1.pushed (by simp) (p := p)
  rw [List.length_append, List.length_cons, List.length_nil] at d0
  have hfl : (fs ++ [g]).length = fs.length + 1 := by simp
  rw [hfl] at r1
  go_wp2_with fail
  go_ret
  exact ⟨ret_int (by omega), _, _, r1, BS.trans ((Frm.drewN w _ _).trans F1) r2⟩

theorem bpush_calls (bb K p : Nat) (fs : List Nat) (cs : List (List Nat)) (t : List Nat) (vf vt : Value) (w : World) (h : Bk w bb K fs cs t vf vt none) (hF : fs.length < 900) (hbb : bb ≤ w.heap.size) :
    Calls Yba.prog 23 #[.pointer (some ⟨K, 0, none⟩), .pointer (some ⟨p, 0, none⟩)] w fun e w' => e = .returned (.int .i64 (((cs.flatten ++ t).length : Nat) : Int)) ∧
      ∃ fs' cs' t' vf' vt', Bk w' bb K fs' cs' t' vf' vt' none ∧ cs'.flatten ++ t' = cs.flatten ++ t ++ [p] ∧ t' ≠ [] ∧ Frm w w' (BS w bb K) := by
  have hfl := flatten_len h
  obtain ⟨fa, fc, rfl⟩ := h.vf_form
  have small : fs = [] → ∀ ao, vt = .slice ao t.length t.length → t.length < 255 → Calls Yba.prog 23 #[.pointer (some ⟨K, 0, none⟩), .pointer (some ⟨p, 0, none⟩)] w fun e w' => e = .returned (.int .i64 (((cs.flatten ++ t).length : Nat) : Int)) ∧
      ∃ fs' cs' t' vf' vt', Bk w' bb K fs' cs' t' vf' vt' none ∧ cs'.flatten ++ t' = cs.flatten ++ t ++ [p] ∧ t' ≠ [] ∧ Frm w w' (BS w bb K) := by
    rintro rfl ao rfl hl
    obtain rfl : cs = [] := List.eq_nil_of_length_eq_zero h.lcs
    refine (bpush_grow bb K p fc t ao fa w h hl hbb).mono ?_
    rintro e w' ⟨rfl, vt', r1, r2⟩
    exact ⟨by simp, _, _, _, _, _, r1, by simp, by simp, r2⟩
  rcases h.vt_room with ⟨rfl, rfl⟩ | ⟨g, c, rfl, h1, h2, h3⟩
  · refine small ?_ none rfl (by simp)
    have := h.cap _ _ _ rfl
    exact Classical.not_not.1 (fun hne => by have := this.2 hne; omega)
  · by_cases hr : t.length < c
    · refine (bpush_room bb K g c p fc fs cs t fa w h hr (by omega)).mono ?_
      rintro e w' ⟨rfl, r1, r2⟩
      exact ⟨by rw [List.length_append, hfl], _, _, _, _, _, r1, by simp, by simp, r2⟩
    · obtain rfl : c = t.length := by omega
      by_cases h255 : t.length = 255
      · rw [h255] at h
        refine (bpush_full bb K g p fc fs cs t fa w h h255 hF hbb).mono ?_
        rintro e w' ⟨rfl, vf', vt', r1, r2⟩
        exact ⟨ret_int (by rw [List.length_append, hfl]; omega), _, _, _, _, _, r1, by simp, by simp, r2⟩
      · exact small (Classical.not_not.1 (fun hne => by have := h3 hne; omega)) _ rfl (by omega)

end Go.Proofs.Ybulkaeuq
