/-
  The bucket's makeRoom where a full array goes into 'full', and its push. By the prover of seat b1537a.
-/
import Derived.Test.YbulkaeuqBucket
namespace Go.Proofs.Ybulkaeuq
open Go.RowKit

theorem shape_of_own {w : World} {base e size n : Nat} {v : Value} {xs : List Value} (h : w.ownsRow base e size v n xs) {k : Nat} (hk : v.ownBlock = some k) : ∃ m, w.shape? k = some (e, m) := by
  rcases h.2 with ⟨h', _⟩ | ⟨g, cap, cur, h', hbs, hg, r⟩
  · rw [h'] at hk; simp [Value.ownBlock] at hk
  · rw [h'] at hk
    simp [Value.ownBlock] at hk
    subst hk
    exact ⟨cur.size, by simp [World.shape?, hg]⟩

theorem run_arrayAt (g n c : Nat) (h : 255 ≤ n) (w : World) : Sem.run Yba.prog (Instr.arrayAt 140 (.slice (some ⟨g, 0, none⟩) n c)) w = .ok (.pointer (some ⟨g, 0, none⟩)) w := by
  simp [Instr.arrayAt, run_underlying Yba.underlying140]
  omega

theorem one_cell (w : World) (a : Value) (t n : Nat) (hn : n = w.heap.size) : ∀ j u, [a][j]? = some u → (w.alloc (.cells #[a] t)).cell? ((⟨n, 0, none⟩ : Addr).add j) = some u := by
  subst hn
  intro j u hj
  match j, hj with
  | 0, hj => simp at hj; subst hj; simp [Addr.add]
theorem one_one (a : Value) (ha : a.oneCell' = true) : ∀ u ∈ [a], u.oneCell' = true := by
  intro u hu
  simp at hu
  rw [hu]; exact ha

theorem Bk.full {w W w1 w3 : World} {bb K g gf fc' : Nat} {fs : List Nat} {cs : List (List Nat)} {t : List Nat} {vf : Value} (h : Bk w bb K fs cs t vf (.slice (some ⟨g, 0, none⟩) 255 255) none) (ht : t.length = 255)
    (F0 : Frm w W (fun _ _ => False)) (g1 : W.grownBy w1 vf.ownBlock) (o1 : w1.ownsRow bb 72 1 (.slice (some ⟨gf, 0, none⟩) (fs.length + 1) fc') (fs.length + 1) (ptrs fs ++ [.pointer (some ⟨g, 0, none⟩)]))
    (g3 : (w1.setCell ⟨K, 0, none⟩ (.slice (some ⟨gf, 0, none⟩) (fs.length + 1) fc')).grownBy w3 none) (o3 : w3.ownsRow bb 28 1 (.slice (some ⟨w1.heap.size, 0, none⟩) 0 255) 0 []) :
    Bk (w3.setCell ⟨K, 1, none⟩ (.slice (some ⟨w1.heap.size, 0, none⟩) 0 255)) bb K (fs ++ [g]) (cs ++ [t]) [] (.slice (some ⟨gf, 0, none⟩) (fs.length + 1) fc') (.slice (some ⟨w1.heap.size, 0, none⟩) 0 255) none ∧
    Frm w (w3.setCell ⟨K, 1, none⟩ (.slice (some ⟨w1.heap.size, 0, none⟩) 0 255)) (BS w bb K) := by
  have hK := h.lt
  have hKb := h.hK
  have hs1 : w.heap.size ≤ w1.heap.size := Nat.le_trans F0.size g1.size
  have hs3 : w1.heap.size ≤ w3.heap.size := by have := g3.size; simpa using this
  have nK0 : some K ≠ vf.ownBlock := fun e => ownsRow_notK h.own0 hKb e.symm
  -- a block that is neither K nor the row of 'full'
  have b1 : ∀ k, k < w.heap.size → some k ≠ vf.ownBlock → w1.heap[k]? = w.heap[k]? := fun k hk hne => (g1.block k (Nat.lt_of_lt_of_le hk F0.size) hne).trans (F0.blk k hk (fun _ f => f))
  have b3 : ∀ k, k < w1.heap.size → k ≠ K → w3.heap[k]? = w1.heap[k]? := fun k hk hne => (g3.block k (by simpa using hk) (by simp)).trans (Below.heap_setCell _ _ _ _ hne)
  have b4 : ∀ k, k ≠ K → (w3.setCell ⟨K, 1, none⟩ (.slice (some ⟨w1.heap.size, 0, none⟩) 0 255)).heap[k]? = w3.heap[k]? := fun k hne => Below.heap_setCell _ _ _ _ hne
  have n28 : ∀ {n : Nat} {v : Value} {xs : List Value}, w.ownsRow bb 28 1 v n xs → (w3.setCell ⟨K, 1, none⟩ (.slice (some ⟨w1.heap.size, 0, none⟩) 0 255)).ownsRow bb 28 1 v n xs := by
    intro n v xs ho
    refine ownsRow_kept ho fun k hk => ?_
    obtain ⟨hb, hl⟩ := ho.lt k hk
    have hkK : k ≠ K := by omega
    have hne : some k ≠ vf.ownBlock := by
      intro e
      obtain ⟨m, hm⟩ := shape_of_own ho hk
      obtain ⟨m', hm'⟩ := shape_of_own h.own0 e.symm
      rw [hm] at hm'; simp at hm'
    rw [b4 k hkK, b3 k (by omega) hkK, b1 k hl hne]
  have cK : w1.cell? ⟨K, 0, none⟩ = some vf := (World.cell?_of_block (w := w) (a := ⟨K, 0, none⟩) (b1 K hK nK0)).trans h.c0
  have kblk : w1.heap[K]? = w.heap[K]? := b1 K hK nK0
  have blk3 : w3.heap[K]? = (w1.setCell ⟨K, 0, none⟩ (.slice (some ⟨gf, 0, none⟩) (fs.length + 1) fc')).heap[K]? := g3.block K (by simp; omega) (by simp)
  have c3 : ∀ o, w3.cell? ⟨K, o, none⟩ = (w1.setCell ⟨K, 0, none⟩ (.slice (some ⟨gf, 0, none⟩) (fs.length + 1) fc')).cell? ⟨K, o, none⟩ := fun o => World.cell?_of_block (a := ⟨K, o, none⟩) blk3
  have c31 : w3.cell? ⟨K, 1, none⟩ = some (.slice (some ⟨g, 0, none⟩) 255 255) := by
    rw [c3 1, World.cell?_setCell_other _ _ _ _ (by simp), World.cell?_of_block (w := w) (a := ⟨K, 1, none⟩) kblk]; exact h.c1
  have hgl : g < w.heap.size ∧ bb ≤ g := ⟨(h.own1.lt g rfl).2, (h.own1.lt g rfl).1⟩
  refine ⟨⟨?_, ?_, ?_, ?_, ?_, hKb, ?_, ?_, by simp [h.lcs], ?_, ?_, ?_, ?_⟩, ?_⟩
  · rw [World.cell?_setCell_other _ _ _ _ (by simp), c3 0]
    exact World.cell?_setCell_same _ _ _ cK
  · exact World.cell?_setCell_same _ _ _ c31
  · rw [World.cell?_setCell_other _ _ _ _ (by simp), c3 2, World.cell?_setCell_other _ _ _ _ (by simp), World.cell?_of_block (w := w) (a := ⟨K, 2, none⟩) kblk]; exact h.c2
  · rw [shape?_setCell]
    have e1 : w3.shape? K = (w1.setCell ⟨K, 0, none⟩ (.slice (some ⟨gf, 0, none⟩) (fs.length + 1) fc')).shape? K := by simp only [World.shape?, blk3]
    rw [e1, shape?_setCell]
    have e2 : w1.shape? K = w.shape? K := by simp only [World.shape?, kblk]
    rw [e2]; exact h.sh
  · intro o
    rw [World.frozen?_setCell, World.frozen?_of_block (a := ⟨K, o, none⟩) blk3, World.frozen?_setCell, World.frozen?_of_block (w := w) (a := ⟨K, o, none⟩) kblk]
    exact h.fz o
  · rw [ptrs_append, List.length_append]
    refine ownsRow_kept o1 fun k hk => ?_
    have hkb := o1.lt k hk
    rw [b4 k (by omega), b3 k hkb.2 (by omega)]
  · refine ownsRow_kept o3 fun k hk => b4 k ?_
    simp [Value.ownBlock] at hk
    omega
  · intro i hi
    rw [List.length_append, List.length_cons, List.length_nil] at hi
    by_cases hif : i < fs.length
    · rw [show (fs ++ [g]).getD i 0 = fs.getD i 0 by simp [List.getElem?_append_left hif], show (cs ++ [t]).getD i [] = cs.getD i [] by simp [List.getElem?_append_left (show i < cs.length by rw [h.lcs]; exact hif)]]
      exact n28 (h.chk i hif)
    · obtain rfl : i = fs.length := by omega
      have e1 : (fs ++ [g]).getD fs.length 0 = g := by simp
      have e2 : (cs ++ [t]).getD fs.length [] = t := by simp [← h.lcs]
      rw [e1, e2]
      have := n28 h.own1
      rw [ht] at this
      exact this
  · rw [List.nodup_append]
    refine ⟨h.nod, by simp, ?_⟩
    intro a ha b hb
    simp at hb
    subst hb
    intro e
    subst e
    exact h.apt a ha rfl
  · intro f hf
    simp [Value.ownBlock]
    intro e
    rw [List.mem_append] at hf
    rcases hf with hf | hf
    · obtain ⟨i, hi, he⟩ := List.getElem_of_mem hf
      have := ((h.chk i hi).lt f (by simp [Value.ownBlock, hi, he])).2
      omega
    · simp at hf; omega
  · intro a n c e
    simp at e
    exact ⟨by omega, fun _ => e.2.2.symm⟩
  · have F1 : Frm w w1 (BS w bb K) := (F0.mono (fun _ _ _ f => f.elim)).trans2 (Frm.grown g1 (fun k _ => some k = vf.ownBlock) (fun k hk _ => hk.symm)) (by
      intro k o hk hkv
      obtain ⟨m, hm⟩ := shape_of_own h.own0 hkv.symm
      exact Or.inr ⟨(h.own0.lt k hkv.symm).1, m, Or.inr hm⟩)
    have F2 := F1.trans (Frm.setCell w1 K 0 (.slice (some ⟨gf, 0, none⟩) (fs.length + 1) fc') (BS w bb K) (Or.inl ⟨rfl, by omega⟩))
    have F3 := F2.trans (Frm.grown_new g3 (BS w bb K) (fun k hk => by cases hk))
    exact F3.trans (Frm.setCell w3 K 1 _ (BS w bb K) (Or.inl ⟨rfl, by omega⟩))

set_option maxHeartbeats 1000000 in
set_option maxRecDepth 100000 in
/-- makeRoom, the tail a whole array: it goes into 'full' -/
theorem makeRoom_full (bb K g fc : Nat) (fs : List Nat) (cs : List (List Nat)) (t : List Nat) (fa : Option Addr) (w : World) (h : Bk w bb K fs cs t (.slice fa fs.length fc) (.slice (some ⟨g, 0, none⟩) 255 255) none) (ht : t.length = 255) (hF : fs.length < 1000) (hbb : bb ≤ w.heap.size) :
    Calls Yba.prog 39 #[.pointer (some ⟨K, 0, none⟩)] w fun e w' => e = .returned (.tuple #[]) ∧ ∃ vf' g', Bk w' bb K (fs ++ [g]) (cs ++ [t]) [] vf' (.slice (some ⟨g', 0, none⟩) 0 255) none ∧ Frm w w' (BS w bb K) := by
  have c0 := h.c0
  have c1 := h.c1
  have c2 := h.c2
  have f0 := h.fz 0
  have f1 := h.fz 1
  have hK := h.lt
  obtain ⟨i0, hi0, hz0, hz1, hz2⟩ := info_parts Yba.info28
  obtain ⟨j0, hj0, hy0, hy1, hy2⟩ := info_parts Yba.info72
  have nK0 : Hid (some K ≠ (Value.slice fa fs.length fc).ownBlock) := fun e => ownsRow_notK h.own0 h.hK e.symm
  have kst : Hid (∀ w1, ((w.alloc (.cells #[.pointer (some ⟨g, 0, none⟩)] 72)).drew).grownBy w1 (Value.slice fa fs.length fc).ownBlock → w1.cell? ⟨K, 0, none⟩ = some (.slice fa fs.length fc) ∧ w1.cell? ⟨K, 1, none⟩ = some (.slice (some ⟨g, 0, none⟩) 255 255) ∧ w1.cell? ⟨K, 2, none⟩ = some (.pointer none) ∧ w1.frozen? ⟨K, 0, none⟩ = false ∧ w1.frozen? ⟨K, 1, none⟩ = false ∧ K < w1.heap.size ∧ bb ≤ w1.heap.size) := by
    intro w1 g1
    have hb : w1.heap[K]? = w.heap[K]? := (g1.block K (by simp; omega) nK0.out).trans (Below.heap_alloc _ _ _ hK)
    have hs := g1.size
    simp at hs
    exact ⟨(World.cell?_of_block (a := ⟨K, 0, none⟩) hb).trans c0, (World.cell?_of_block (a := ⟨K, 1, none⟩) hb).trans c1, (World.cell?_of_block (a := ⟨K, 2, none⟩) hb).trans c2, (World.frozen?_of_block (a := ⟨K, 0, none⟩) hb).trans f0, (World.frozen?_of_block (a := ⟨K, 1, none⟩) hb).trans f1, by omega, by omega⟩
  have harr := run_arrayAt g 255 255 (by decide)
  have kst3 : Hid (∀ (w1 w3 : World) {v : Value}, w1.cell? ⟨K, 1, none⟩ = some (.slice (some ⟨g, 0, none⟩) 255 255) → w1.frozen? ⟨K, 1, none⟩ = false → K < w1.heap.size → (w1.setCell ⟨K, 0, none⟩ v).grownBy w3 none → w3.cell? ⟨K, 1, none⟩ = some (.slice (some ⟨g, 0, none⟩) 255 255) ∧ w3.frozen? ⟨K, 1, none⟩ = false) := by
    intro w1 w3 v a1 a2 a3 g3
    have hb := g3.block K (by simpa using a3) (by simp)
    refine ⟨?_, ?_⟩
    · rw [World.cell?_of_block (a := ⟨K, 1, none⟩) hb, World.cell?_setCell_other _ _ _ _ (by simp)]; exact a1
    · rw [World.frozen?_of_block (a := ⟨K, 1, none⟩) hb, World.frozen?_setCell]; exact a2
  by_cases hf0 : fs.length = 0
  · have hfi : ((fs.length : Int) == 0) = true := beq_iff_eq.2 (by omega)
    clear hf0
    go_enter Yba.func39, Yba.ntmps39
    go_wp2_with fail
    go_region_law (refine step_append_own rfl (.tmp 33) (.tmp 39) 71 rfl bb 72 j0 (.pointer none) 1 8 Yba.underlying71 hj0 hy0 hy1 hy2 rfl (by decide) (.slice fa fs.length fc) fs.length (ptrs fs) (by simp [Act.eval]) (by exact h.own0.alloc _) ⟨w.heap.size, 0, none⟩ 1 1 [.pointer (some ⟨g, 0, none⟩)] (by simp [Act.eval]) rfl (by exact one_cell _ _ _ _ rfl) (by exact one_one _ rfl) (by unfold maxLen; omega) (by omega) (by simp; omega) ?_; intro v' w1 hown1 hgrow1 hwh1; obtain ⟨gf, fc', rfl⟩ := ownsRow_form hown1 (by omega); obtain ⟨k0, k1, k2, k3, k4, k5, k6⟩ := kst.out _ hgrow1)
    all_goals
      go_wp2_with (at_make; refine wpList_make_own _ rfl _ _ 44 rfl bb 28 i0 (.pointer none) 1 Yba.underlying44 hi0 hz0 hz1 _ _ _ 255 rfl rfl (by omega) (by rw [hz2]; omega) (by unfold maxLen; omega) (by simp; omega) ?_; intro w3 o3 g3; simp only [World.size_setCell] at o3; obtain ⟨m1, m2⟩ := kst3.out _ _ k1 k4 k5 g3)
      go_end0
      obtain ⟨r1, r2⟩ := h.full ht ((Frm.alloc _ _ _).trans (Frm.drew _ _)) hgrow1 hown1 g3 o3
      exact ⟨rfl, _, _, r1, r2⟩
  · have hfi : ((fs.length : Int) == 0) = false := beq_eq_false_iff_ne.2 (by omega)
    go_enter Yba.func39, Yba.ntmps39
    go_wp2_with fail
    go_region_law (refine step_append_own rfl (.tmp 33) (.tmp 39) 71 rfl bb 72 j0 (.pointer none) 1 8 Yba.underlying71 hj0 hy0 hy1 hy2 rfl (by decide) (.slice fa fs.length fc) fs.length (ptrs fs) (by simp [Act.eval]) (by exact h.own0.alloc _) ⟨w.heap.size, 0, none⟩ 1 1 [.pointer (some ⟨g, 0, none⟩)] (by simp [Act.eval]) rfl (by exact one_cell _ _ _ _ rfl) (by exact one_one _ rfl) (by unfold maxLen; omega) (by omega) (by simp; omega) ?_; intro v' w1 hown1 hgrow1 hwh1; obtain ⟨gf, fc', rfl⟩ := ownsRow_form hown1 (by omega); obtain ⟨k0, k1, k2, k3, k4, k5, k6⟩ := kst.out _ hgrow1)
    all_goals
      go_wp2_with (at_make; refine wpList_make_own _ rfl _ _ 44 rfl bb 28 i0 (.pointer none) 1 Yba.underlying44 hi0 hz0 hz1 _ _ _ 255 rfl rfl (by omega) (by rw [hz2]; omega) (by unfold maxLen; omega) (by simp; omega) ?_; intro w3 o3 g3; simp only [World.size_setCell] at o3; obtain ⟨m1, m2⟩ := kst3.out _ _ k1 k4 k5 g3)
      go_end0
      obtain ⟨r1, r2⟩ := h.full ht ((Frm.alloc _ _ _).trans (Frm.drew _ _)) hgrow1 hown1 g3 o3
      exact ⟨rfl, _, _, r1, r2⟩
end Go.Proofs.Ybulkaeuq
