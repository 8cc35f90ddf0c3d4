/-
  (*bucket[int]).settle, all its ways, and cut. By the prover of seat b1537a.
-/
import Derived.Test.YbulkaeuqSettle
namespace Go.Proofs.Ybulkaeuq
open Go.RowKit

set_option maxHeartbeats 4000000 in
set_option maxRecDepth 100000 in
theorem settle_move (bb K g gf fc f : Nat) (fs : List Nat) (cs : List (List Nat)) (ch : List Nat) (sp : Option Addr) (w : World) (h : Bk w bb K (fs ++ [f]) (cs ++ [ch]) [] (.slice (some ⟨gf, 0, none⟩) (fs.length + 1) fc) (.slice (some ⟨g, 0, none⟩) 0 255) sp) (hF : fs.length < 900) (hbb : bb ≤ w.heap.size) :
    Calls Yba.prog 42 #[.pointer (some ⟨K, 0, none⟩)] w fun e w' => e = .returned (.tuple #[]) ∧ Settled w bb K ((cs ++ [ch]).flatten) w' := by
  have c0 := h.c0
  have c1 := h.c1
  have c2 := h.c2
  have hfi : (((fs.length : Int) + 1) == 0) = false := beq_eq_false_iff_ne.2 (by omega)
  cases sp with
  | none =>
    go_enter Yba.func42, Yba.ntmps42
    go_wp2_with fail
    go_quiet (fail)
    go_wp2_with fail
    refine (release_move bb K g gf fc f fs cs ch none _ (h.drewN _) hF hbb).mono ?_
    rintro e w' ⟨rfl, hS⟩
    go_wp2_with fail
    go_end0
    exact ⟨rfl, hS.drewN⟩
  | some a =>
    go_enter Yba.func42, Yba.ntmps42
    go_wp2_with fail
    go_quiet (fail)
    go_wp2_with fail
    refine (release_move bb K g gf fc f fs cs ch (some a) _ (h.drewN _) hF hbb).mono ?_
    rintro e w' ⟨rfl, hS⟩
    go_wp2_with fail
    go_end0
    exact ⟨rfl, hS.drewN⟩

theorem snoc_form {α : Type} (l : List α) (h : l.length ≠ 0) : ∃ m a, l = m ++ [a] := by
  induction l with
  | nil => simp at h
  | cons x xs ih =>
    cases xs with
    | nil => exact ⟨[], x, rfl⟩
    | cons y ys =>
      obtain ⟨m, a, e⟩ := ih (by simp)
      exact ⟨x :: m, a, by rw [e]; rfl⟩

theorem settle_calls (bb K g c : Nat) (fs : List Nat) (cs : List (List Nat)) (t : List Nat) (vf : Value) (sp : Option Addr) (w : World) (h : Bk w bb K fs cs t vf (.slice (some ⟨g, 0, none⟩) t.length c) sp) (hF : fs.length < 900) (hbb : bb ≤ w.heap.size) :
    Calls Yba.prog 42 #[.pointer (some ⟨K, 0, none⟩)] w fun e w' => e = .returned (.tuple #[]) ∧ Settled w bb K (cs.flatten ++ t) w' := by
  obtain ⟨fa, fc, rfl⟩ := h.vf_form
  by_cases hf0 : fs.length = 0
  · exact settle_none bb K g c fc fs cs t fa sp w h hF hbb hf0
  · by_cases ht0 : t.length = 0
    · obtain rfl : t = [] := List.eq_nil_of_length_eq_zero ht0
      obtain ⟨fs', f, rfl⟩ := snoc_form fs hf0
      obtain ⟨cs', ch, rfl⟩ := snoc_form cs (by rw [h.lcs]; exact hf0)
      have hc := (h.cap _ _ _ rfl).2 (by simp)
      subst hc
      obtain ⟨gf, fc', he⟩ := ownsRow_form h.own0 (by omega)
      simp at he
      obtain ⟨rfl, rfl⟩ := he
      have hl : (fs' ++ [f]).length = fs'.length + 1 := by simp
      rw [hl] at h
      rw [List.append_nil]
      exact settle_move bb K g gf fc f fs' cs' ch sp w h (by omega) hbb
    · exact settle_some bb K g c fc fs cs t fa sp w h hF hbb hf0 ht0

theorem setCells_past {base e g n c : Nat} {xs : List Value} : ∀ (vs : List Value) (j : Nat) (w : World), w.ownsRow base e 1 (.slice (some ⟨g, 0, none⟩) n c) n xs → n ≤ j →
    (w.setCells g j vs).ownsRow base e 1 (.slice (some ⟨g, 0, none⟩) n c) n xs ∧ w.grownBy (w.setCells g j vs) (some g) ∧ (w.setCells g j vs).heap.size = w.heap.size
  | [], j, w, h, _ => ⟨h, World.grownBy.refl _ _, rfl⟩
  | v :: vs, j, w, h, hj => by
    obtain ⟨h1, h2, h3⟩ := setCells_past vs (j + 1) (w.setCell ⟨g, j, none⟩ v) (ownsRow_past h j hj v) (by omega)
    refine ⟨h1, ⟨h2.os, h2.tape, h2.output, ?_, fun k hk hne => ?_⟩, ?_⟩
    · rw [World.setCells]; have := h2.size; simpa using this
    · exact (h2.block k (by simpa using hk) hne).trans (Below.heap_setCell _ _ _ _ (fun e => hne (by simp [e])))
    · rw [World.setCells, h3]; simp

theorem zero28 (w : World) : (zeroValue 28).run Yba.prog w = .ok (.pointer none) w := by kernel_rfl

/-- behind the clear and the store of the shorter tail -/
theorem Bk.cleared {w W : World} {bb K g c m : Nat} {fs : List Nat} {cs : List (List Nat)} {t : List Nat} {vf : Value} {sp : Option Addr} (h : Bk w bb K fs cs t vf (.slice (some ⟨g, 0, none⟩) t.length c) sp) (hm : m ≤ t.length)
    (hg : w.grownBy W (some g)) (own : W.ownsRow bb 28 1 (.slice (some ⟨g, 0, none⟩) m c) m (ptrs (t.take m))) :
    Bk (W.setCell ⟨K, 1, none⟩ (.slice (some ⟨g, 0, none⟩) m c)) bb K fs cs (t.take m) vf (.slice (some ⟨g, 0, none⟩) (t.take m).length c) sp ∧ Frm w (W.setCell ⟨K, 1, none⟩ (.slice (some ⟨g, 0, none⟩) m c)) (BS w bb K) := by
  have hl : (t.take m).length = m := by simp; omega
  have hgK : g ≠ K := by have := h.own1.lt g rfl; have := h.hK; omega
  obtain ⟨mg, hmg⟩ := shape_of_own h.own1 (k := g) rfl
  have hgb := (h.own1.lt g rfl).1
  have blk : ∀ k, k < w.heap.size → k ≠ g → W.heap[k]? = w.heap[k]? := fun k hk hne => hg.block k hk (by simp [hne])
  have bK := blk K h.lt (fun e => hgK e.symm)
  refine ⟨⟨?_, ?_, ?_, ?_, ?_, h.hK, ?_, ?_, h.lcs, ?_, h.nod, h.apt, ?_⟩, ?_⟩
  · rw [World.cell?_setCell_other _ _ _ _ (by simp), World.cell?_of_block (w := w) (a := ⟨K, 0, none⟩) bK]; exact h.c0
  · rw [hl]
    exact World.cell?_setCell_same _ _ _ ((World.cell?_of_block (w := w) (a := ⟨K, 1, none⟩) bK).trans h.c1)
  · rw [World.cell?_setCell_other _ _ _ _ (by simp), World.cell?_of_block (w := w) (a := ⟨K, 2, none⟩) bK]; exact h.c2
  · rw [shape?_setCell]
    have e : W.shape? K = w.shape? K := by simp only [World.shape?, bK]
    rw [e]; exact h.sh
  · intro o
    rw [World.frozen?_setCell, World.frozen?_of_block (w := w) (a := ⟨K, o, none⟩) bK]; exact h.fz o
  · refine ownsRow_kept h.own0 fun k hk => ?_
    have hkl := h.own0.lt k hk
    have := h.hK
    rw [Below.heap_setCell _ _ _ _ (by simp; omega), blk k hkl.2 ?_]
    intro e
    obtain ⟨m', hm'⟩ := shape_of_own h.own0 hk
    rw [e, hmg] at hm'; simp at hm'
  · rw [hl]
    exact ownsRow_kept own fun k hk => Below.heap_setCell _ _ _ _ (fun e => ownsRow_notK own h.hK (by rw [← (show k = K from e)]; exact hk))
  · intro i hi
    refine ownsRow_kept (h.chk i hi) fun k hk => ?_
    have hkl := (h.chk i hi).lt k hk
    have := h.hK
    rw [Below.heap_setCell _ _ _ _ (by simp; omega), blk k hkl.2 ?_]
    intro e
    simp [Value.ownBlock] at hk
    rw [e] at hk
    exact h.apt _ (List.getElem_mem hi) (by simp [Value.ownBlock]; rw [← hk]; simp [hi])
  · intro a n' c' e
    simp at e
    have := h.cap _ _ _ rfl
    rw [← e.2.2]
    exact this
  · have F1 : Frm w W (BS w bb K) := (Frm.grown hg (fun k _ => k = g) (fun k hk _ => by simpa using hk.symm)).mono (fun k o hk e => Or.inr ⟨by rw [e]; exact hgb, mg, Or.inl (by rw [e]; exact hmg)⟩)
    exact F1.trans2 (Frm.setCell W K 1 _ (BS w bb K) (Or.inl ⟨rfl, by omega⟩)) (fun _ _ _ h => h)

theorem Settled.frm {w W w' : World} {bb K : Nat} {ns : List Nat} (F : Frm w W (BS w bb K)) (h : Settled W bb K ns w') : Settled w bb K ns w' := by
  obtain ⟨fs, cs, t, vf, g, c, sp, h1, h2, h3, h4⟩ := h
  exact ⟨fs, cs, t, vf, g, c, sp, h1, h2, h3, BS.trans F h4⟩

set_option maxHeartbeats 4000000 in
set_option maxRecDepth 100000 in
theorem cut_calls (bb K g c k : Nat) (fs : List Nat) (cs : List (List Nat)) (t : List Nat) (vf : Value) (sp : Option Addr) (w : World) (h : Bk w bb K fs cs t vf (.slice (some ⟨g, 0, none⟩) t.length c) sp) (hk : 0 < k) (hkt : k ≤ t.length) (hF : fs.length < 900) (hbb : bb ≤ w.heap.size) :
    Calls Yba.prog 26 #[.pointer (some ⟨K, 0, none⟩), .int .i64 k] w fun e w' => e = .returned (.tuple #[]) ∧ Settled w bb K (cs.flatten ++ t.take (t.length - k)) w' := by
  obtain ⟨m, hm⟩ : ∃ m, t.length = m + k := ⟨t.length - k, by omega⟩
  have c1 := h.c1
  have f1 := h.fz 1
  have hK := h.lt
  have hcap := (h.cap _ _ _ rfl).1
  have htc : t.length ≤ c := by
    rcases h.own1.2 with ⟨h', _⟩ | ⟨_, _, _, h', _, _, h1, _⟩
    · simp at h'
    · simp at h'; omega
  have hgK : g ≠ K := by have := h.own1.lt g rfl; have := h.hK; omega
  have ocut := ownsRow_cut h.own1 m (by omega)
  have e1 : (ptrs t).take m = ptrs (t.take m) := by simp [ptrs, List.map_take]
  rw [e1] at ocut
  obtain ⟨s1, s2, s3⟩ := setCells_past (List.replicate k (Value.pointer none)) m w ocut (Nat.le_refl _)
  have hclr : ∀ ty, (Builtin.clear_ #[44] ty #[.slice (some ⟨g, m, none⟩) k (c - m)]).run Yba.prog w = .ok (.tuple #[]) (w.setCells g m (List.replicate k (.pointer none))) := fun ty =>
    Lib.run_clear_slice w 44 28 ty (.pointer none) Yba.underlying44 zero28 rfl rfl g m k (c - m) hk (fun j hj => by rw [h.own1.cellAt (m + j) (by omega), ptrs_get t (m + j) (by omega)]; rfl) (fun j hj => h.own1.frozenAt _)
  obtain ⟨W, hW⟩ : ∃ W, W = w.setCells g m (List.replicate k (.pointer none)) := ⟨_, rfl⟩
  rw [← hW] at hclr s1 s2 s3
  clear hW
  obtain ⟨b1, F1⟩ := h.cleared (m := m) (by omega) s2 s1
  have bK : W.heap[K]? = w.heap[K]? := s2.block K hK (by simp; omega)
  have d1 := (World.cell?_of_block (a := ⟨K, 1, none⟩) bK).trans c1
  have d2 := (World.frozen?_of_block (a := ⟨K, 1, none⟩) bK).trans f1
  have ek : t.length - k = m := by omega
  rw [ek]
  rw [hm] at c1 d1
  have hcm : ¬ c = m := by omega
  have hmc : m + k ≤ c := by omega
  have HM : Hid (t.length = m + k) := hm
  have hbW : Hid (bb ≤ (W.setCell ⟨K, 1, none⟩ (.slice (some ⟨g, 0, none⟩) m c)).heap.size) := by
    have : bb ≤ W.heap.size := by omega
    show bb ≤ _
    simpa using this
  clear hm ek hkt htc bK s3
  go_enter Yba.func26, Yba.ntmps26
  go_wp2_with (simp only [hclr])
  refine (settle_calls bb K g c fs cs (t.take m) vf sp _ b1 hF hbW.out).mono ?_
  rintro e w' ⟨rfl, hS⟩
  go_wp2_with fail
  go_end0
  exact ⟨rfl, hS.frm F1⟩
end Go.Proofs.Ybulkaeuq
