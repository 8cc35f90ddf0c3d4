/-
  The contracts of (*bucket[int]).release and settle. By the prover of seat b1537a.
-/
import Derived.Test.YbulkaeuqShrunk
namespace Go.Proofs.Ybulkaeuq
open Go.RowKit

theorem Bk.respare {w : World} {bb K : Nat} {fs : List Nat} {cs : List (List Nat)} {t : List Nat} {vf vt : Value} {sp : Option Addr} (h : Bk w bb K fs cs t vf vt sp) (sp' : Option Addr) : Bk (w.setCell ⟨K, 2, none⟩ (.pointer sp')) bb K fs cs t vf vt sp' := by
  have hb : ∀ k, k ≠ K → (w.setCell ⟨K, 2, none⟩ (.pointer sp')).heap[k]? = w.heap[k]? := fun k hk => Below.heap_setCell _ _ _ _ hk
  refine ⟨?_, ?_, ?_, ?_, ?_, h.hK, ?_, ?_, h.lcs, ?_, h.nod, h.apt, h.cap⟩
  · rw [World.cell?_setCell_other _ _ _ _ (by simp)]; exact h.c0
  · rw [World.cell?_setCell_other _ _ _ _ (by simp)]; exact h.c1
  · exact World.cell?_setCell_same _ _ _ h.c2
  · rw [shape?_setCell]; exact h.sh
  · intro o; rw [World.frozen?_setCell]; exact h.fz o
  · exact ownsRow_kept h.own0 fun k hk => hb k (fun e => ownsRow_notK h.own0 h.hK (e ▸ hk))
  · exact ownsRow_kept h.own1 fun k hk => hb k (fun e => ownsRow_notK h.own1 h.hK (e ▸ hk))
  · intro i hi
    exact ownsRow_kept (h.chk i hi) fun k hk => hb k (fun e => ownsRow_notK (h.chk i hi) h.hK (e ▸ hk))

theorem Frm.K2 (w : World) (bb K : Nat) (v : Value) : Frm w (w.setCell ⟨K, 2, none⟩ v) (BS w bb K) := Frm.setCell w K 2 v _ (Or.inl ⟨rfl, by omega⟩)
theorem Frm.K1 (w : World) (bb K : Nat) (v : Value) : Frm w (w.setCell ⟨K, 1, none⟩ v) (BS w bb K) := Frm.setCell w K 1 v _ (Or.inl ⟨rfl, by omega⟩)
theorem Frm.K0 (w : World) (bb K : Nat) (v : Value) : Frm w (w.setCell ⟨K, 0, none⟩ v) (BS w bb K) := Frm.setCell w K 0 v _ (Or.inl ⟨rfl, by omega⟩)

/-- what release and settle leave: the same nodes -/
def Settled (w : World) (bb K : Nat) (ns : List Nat) (w' : World) : Prop :=
  ∃ fs cs t vf g c sp, Bk w' bb K fs cs t vf (.slice (some ⟨g, 0, none⟩) t.length c) sp ∧ cs.flatten ++ t = ns ∧ (fs ≠ [] → t ≠ []) ∧ Frm w w' (BS w bb K)

/-- the tail, shrunk, is stored -/
theorem Bk.shrunk {w w1 : World} {bb K g : Nat} {fs : List Nat} {cs : List (List Nat)} {t : List Nat} {vf : Value} {sp : Option Addr} {c : Nat} (h : Bk w bb K fs cs t vf (.slice (some ⟨g, 0, none⟩) t.length c) sp) (hf : fs = [])
    {ao' : Option Addr} {c' : Nat} (own : w1.ownsRow bb 28 1 (.slice ao' t.length c') t.length (ptrs t)) (hc : c' ≤ c) (hg : w.grownBy w1 (some w.heap.size)) (ha : ao' = some ⟨g, 0, none⟩ ∨ (Value.slice ao' t.length c').ownBlock = some w.heap.size) :
    ∃ g', ao' = some ⟨g', 0, none⟩ ∧ Bk (w1.setCell ⟨K, 1, none⟩ (.slice ao' t.length c')) bb K fs cs t vf (.slice (some ⟨g', 0, none⟩) t.length c') sp ∧ Frm w (w1.setCell ⟨K, 1, none⟩ (.slice ao' t.length c')) (BS w bb K) := by
  have h1 := h.grown hg (fun k hk => by simp at hk; omega)
  have hcap := (h.cap _ _ _ rfl).1
  obtain ⟨g', rfl⟩ : ∃ g', ao' = some ⟨g', 0, none⟩ := by
    rcases ha with ha | ha
    · exact ⟨g, ha⟩
    · rcases own.2 with ⟨h', _⟩ | ⟨g', _, _, h', _⟩
      · simp at h'; rw [h'.1] at ha; simp [Value.ownBlock] at ha
      · simp at h'; exact ⟨g', h'.1⟩
  refine ⟨g', rfl, h1.retail own (by rw [hf]; simp) ?_, ?_⟩
  · intro a n c'' e
    simp at e
    exact ⟨by omega, fun hne => absurd hf hne⟩
  · exact (Frm.grown_new hg _ (fun k hk => by simp at hk; omega)).trans2 (Frm.setCell w1 K 1 _ (BS w bb K) (Or.inl ⟨rfl, by omega⟩)) (fun _ _ _ h => h)

set_option maxHeartbeats 2000000 in
set_option maxRecDepth 100000 in
/-- release where the tail is not empty, or is the only array -/
theorem release_rest (bb K g c fc : Nat) (fs : List Nat) (cs : List (List Nat)) (t : List Nat) (fa sp : Option Addr) (w : World) (h : Bk w bb K fs cs t (.slice fa fs.length fc) (.slice (some ⟨g, 0, none⟩) t.length c) sp) (hF : fs.length < 900) (hbb : bb ≤ w.heap.size) (hne : fs ≠ [] → t ≠ []) :
    Calls Yba.prog 55 #[.pointer (some ⟨K, 0, none⟩)] w fun e w' => e = .returned (.tuple #[]) ∧ Settled w bb K (cs.flatten ++ t) w' := by
  have c0 := h.c0
  have c1 := h.c1
  have c2 := h.c2
  have f1 := h.fz 1
  have f2 := h.fz 2
  have hcap := (h.cap _ _ _ rfl).1
  have hK := h.lt
  have htc : t.length ≤ c := by
    rcases h.own1.2 with ⟨h', _⟩ | ⟨_, _, _, h', _, _, h1, _⟩
    · simp at h'
    · simp at h'; omega
  by_cases hf0 : fs.length = 0
  · have hfs : Hid (fs = []) := List.eq_nil_of_length_eq_zero hf0
    have hfi : ((fs.length : Int) == 0) = true := beq_iff_eq.2 (by omega)
    have hk0 : fs.length < 1 := by omega
    clear hf0
    by_cases ht0 : t.length = 0
    · have hti : ((t.length : Int) == 0) = true := beq_iff_eq.2 (by omega)
      have h127' : (t.length : Int) ≤ 127 := by omega
      clear ht0
      have hr := h.respare none
      go_enter Yba.func55, Yba.ntmps55
      go_wp2_with fail
      refine (shrunk64_calls bb t.length c 7 (some ⟨g, 0, none⟩) (ptrs t) _ hr.own1 (ptrs_one t) (by omega) (by omega) (by omega) (by simp; exact hbb)).mono ?_
      rintro e w1 ⟨ao', c', rfl, o1, hc', hg1, ha⟩
      obtain ⟨g', rfl, b1, F1⟩ := hr.shrunk hfs.out o1 hc' hg1 ha
      have hb1 : w1.heap[K]? = (w.setCell ⟨K, 2, none⟩ (.pointer none)).heap[K]? := hg1.block K (by simp; omega) (by simp; omega)
      have d1 := (World.cell?_of_block (a := ⟨K, 1, none⟩) hb1).trans hr.c1
      have d2 := (World.frozen?_of_block (a := ⟨K, 1, none⟩) hb1).trans (hr.fz 1)
      go_wp2_with fail
      go_end0
      exact ⟨rfl, _, _, _, _, _, _, _, b1, rfl, hne, BS.trans (Frm.K2 w bb K _) F1⟩
    · have hti : ((t.length : Int) == 0) = false := beq_eq_false_iff_ne.2 (by omega)
      by_cases h127 : t.length ≤ 127
      · have h127' : (t.length : Int) ≤ 127 := by omega
        have hr := h.respare none
        go_enter Yba.func55, Yba.ntmps55
        go_wp2_with fail
        refine (shrunk64_calls bb t.length c 7 (some ⟨g, 0, none⟩) (ptrs t) _ hr.own1 (ptrs_one t) (by omega) (by omega) (by omega) (by simp; exact hbb)).mono ?_
        rintro e w1 ⟨ao', c', rfl, o1, hc', hg1, ha⟩
        obtain ⟨g', rfl, b1, F1⟩ := hr.shrunk hfs.out o1 hc' hg1 ha
        have hb1 : w1.heap[K]? = (w.setCell ⟨K, 2, none⟩ (.pointer none)).heap[K]? := hg1.block K (by simp; omega) (by simp; omega)
        have d1 := (World.cell?_of_block (a := ⟨K, 1, none⟩) hb1).trans hr.c1
        have d2 := (World.frozen?_of_block (a := ⟨K, 1, none⟩) hb1).trans (hr.fz 1)
        go_wp2_with fail
        go_end0
        exact ⟨rfl, _, _, _, _, _, _, _, b1, rfl, hne, BS.trans (Frm.K2 w bb K _) F1⟩
      · have h127' : ¬ (t.length : Int) ≤ 127 := by omega
        go_enter Yba.func55, Yba.ntmps55
        go_wp2_with fail
        refine (shrunk64_calls bb t.length c 7 (some ⟨g, 0, none⟩) (ptrs t) _ h.own1 (ptrs_one t) (by omega) (by omega) (by omega) hbb).mono ?_
        rintro e w1 ⟨ao', c', rfl, o1, hc', hg1, ha⟩
        obtain ⟨g', rfl, b1, F1⟩ := h.shrunk hfs.out o1 hc' hg1 ha
        have hb1 : w1.heap[K]? = w.heap[K]? := hg1.block K hK (by simp; omega)
        have d1 := (World.cell?_of_block (a := ⟨K, 1, none⟩) hb1).trans h.c1
        have d2 := (World.frozen?_of_block (a := ⟨K, 1, none⟩) hb1).trans (h.fz 1)
        go_wp2_with fail
        go_end0
        exact ⟨rfl, _, _, _, _, _, _, _, b1, rfl, hne, F1⟩
  · have hfi : ((fs.length : Int) == 0) = false := beq_eq_false_iff_ne.2 (by omega)
    have hfs : Hid (fs ≠ []) := fun e => hf0 (by rw [e]; rfl)
    have htn : t.length ≠ 0 := fun e => hne hfs.out (List.eq_nil_of_length_eq_zero e)
    have hti : ((t.length : Int) == 0) = false := beq_eq_false_iff_ne.2 (by omega)
    by_cases h127 : t.length ≤ 127
    · have h127' : (t.length : Int) ≤ 127 := by omega
      go_enter Yba.func55, Yba.ntmps55
      go_wp2_with fail
      go_end0
      exact ⟨rfl, _, _, _, _, _, _, _, h.respare none, rfl, hne, Frm.K2 _ _ _ _⟩
    · have h127' : ¬ (t.length : Int) ≤ 127 := by omega
      go_enter Yba.func55, Yba.ntmps55
      go_wp2_with fail
      go_end0
      exact ⟨rfl, _, _, _, _, _, _, _, h, rfl, hne, Frm.refl _ _⟩

theorem ownsRow_cut {w : World} {base e g n c : Nat} {xs : List Value} (h : w.ownsRow base e 1 (.slice (some ⟨g, 0, none⟩) n c) n xs) (m : Nat) (hm : m ≤ n) : w.ownsRow base e 1 (.slice (some ⟨g, 0, none⟩) m c) m (xs.take m) := by
  have hl : xs.length = n := by have := h.1; omega
  rcases h.2 with ⟨h', _⟩ | ⟨g', cap', cur, h', hbs, hg, hnc, hcm, hcs, htake⟩
  · simp at h'
  · simp only [Value.slice.injEq, Option.some.injEq, Addr.mk.injEq, and_true, true_and] at h'
    obtain ⟨rfl, rfl⟩ := h'
    refine ⟨by simp; omega, .inr ⟨g, c, cur, rfl, hbs, hg, by omega, hcm, hcs, ?_⟩⟩
    rw [Nat.mul_one] at htake ⊢
    rw [← htake, List.take_take, Nat.min_eq_left hm]

/-- a store behind what is owned -/
theorem ownsRow_past {w : World} {base e g n c : Nat} {xs : List Value} (h : w.ownsRow base e 1 (.slice (some ⟨g, 0, none⟩) n c) n xs) (j : Nat) (hj : n ≤ j) (v : Value) : (w.setCell ⟨g, j, none⟩ v).ownsRow base e 1 (.slice (some ⟨g, 0, none⟩) n c) n xs := by
  rcases h.2 with ⟨h', _⟩ | ⟨g', cap', cur, h', hbs, hg, hnc, hcm, hcs, htake⟩
  · simp at h'
  · simp only [Value.slice.injEq, Option.some.injEq, Addr.mk.injEq, and_true, true_and] at h'
    obtain ⟨rfl, rfl⟩ := h'
    refine ⟨h.1, .inr ⟨g, c, cur.setIfInBounds j v, rfl, hbs, heap_setCell_same w g j cur e v hg, hnc, hcm, by simpa using hcs, ?_⟩⟩
    rw [Array.toList_setIfInBounds, Nat.mul_one, List.take_set_of_le hj]
    rw [Nat.mul_one] at htake
    exact htake

/-- the world behind the first three stores of release -/
def moved3 (w : World) (K g f gf k : Nat) : World := ((w.setCell ⟨K, 2, none⟩ (.pointer (some ⟨g, 0, none⟩))).setCell ⟨K, 1, none⟩ (.slice (some ⟨f, 0, none⟩) 255 255)).setCell ⟨gf, k, none⟩ (.pointer none)

theorem Bk.moved {w w4 : World} {bb K g gf fc f : Nat} {fs : List Nat} {cs : List (List Nat)} {ch : List Nat} {sp ao' : Option Addr} {c' : Nat} (h : Bk w bb K (fs ++ [f]) (cs ++ [ch]) [] (.slice (some ⟨gf, 0, none⟩) (fs.length + 1) fc) (.slice (some ⟨g, 0, none⟩) 0 255) sp)
    (o4 : w4.ownsRow bb 72 1 (.slice ao' fs.length c') fs.length (ptrs fs)) (g4 : (moved3 w K g f gf fs.length).grownBy w4 (some (moved3 w K g f gf fs.length).heap.size)) :
    Bk (w4.setCell ⟨K, 0, none⟩ (.slice ao' fs.length c')) bb K fs cs ch (.slice ao' fs.length c') (.slice (some ⟨f, 0, none⟩) 255 255) (some ⟨g, 0, none⟩) ∧ ch.length = 255 ∧
    Frm w (w4.setCell ⟨K, 0, none⟩ (.slice ao' fs.length c')) (BS w bb K) := by
  have hlc : cs.length = fs.length := by have := h.lcs; simpa using this
  have hkc := h.chk fs.length (by simp)
  have e1 : (fs ++ [f]).getD fs.length 0 = f := by simp
  have e2 : (cs ++ [ch]).getD fs.length [] = ch := by simp [← hlc]
  rw [e1, e2] at hkc
  have hch : ch.length = 255 := by have := hkc.1; rw [ptrs_length] at this; omega
  have hK := h.lt
  have hKb := h.hK
  have hgf := h.own0.lt gf rfl
  obtain ⟨mg, hmg⟩ := shape_of_own h.own0 (k := gf) rfl
  have hs3 : (moved3 w K g f gf fs.length).heap.size = w.heap.size := by simp [moved3]
  rw [hs3] at g4
  have keep : ∀ k, k < w.heap.size → k ≠ K → k ≠ gf → (w4.setCell ⟨K, 0, none⟩ (.slice ao' fs.length c')).heap[k]? = w.heap[k]? := by
    intro k hk h1 h2
    rw [Below.heap_setCell _ _ _ _ h1, g4.block k (by rw [hs3]; exact hk) (by simp; omega)]
    unfold moved3
    rw [Below.heap_setCell _ _ _ _ h2, Below.heap_setCell _ _ _ _ h1, Below.heap_setCell _ _ _ _ h1]
  have n28 : ∀ {n : Nat} {v : Value} {xs : List Value}, w.ownsRow bb 28 1 v n xs → (w4.setCell ⟨K, 0, none⟩ (.slice ao' fs.length c')).ownsRow bb 28 1 v n xs := by
    intro n v xs ho
    refine ownsRow_kept ho fun k hk => ?_
    obtain ⟨hb, hl⟩ := ho.lt k hk
    refine keep k hl (by omega) ?_
    intro e
    obtain ⟨m, hm⟩ := shape_of_own ho hk
    rw [e, hmg] at hm; simp at hm
  have blk4 : w4.heap[K]? = (moved3 w K g f gf fs.length).heap[K]? := g4.block K (by rw [hs3]; exact hK) (by simp; omega)
  have nKg : ∀ o, (⟨gf, fs.length, none⟩ : Addr) ≠ ⟨K, o, none⟩ := fun o e => by have := congrArg Addr.block e; simp at this; omega
  have cK : ∀ o, (moved3 w K g f gf fs.length).cell? ⟨K, o, none⟩ = ((w.setCell ⟨K, 2, none⟩ (.pointer (some ⟨g, 0, none⟩))).setCell ⟨K, 1, none⟩ (.slice (some ⟨f, 0, none⟩) 255 255)).cell? ⟨K, o, none⟩ := fun o => by
    unfold moved3
    rw [World.cell?_setCell_other _ _ _ _ (nKg o)]
  refine ⟨⟨?_, ?_, ?_, ?_, ?_, hKb, ?_, ?_, hlc, ?_, ?_, ?_, ?_⟩, hch, ?_⟩
  · refine World.cell?_setCell_same (u := .slice (some ⟨gf, 0, none⟩) (fs.length + 1) fc) _ _ _ ?_
    rw [World.cell?_of_block (a := ⟨K, 0, none⟩) blk4, cK 0, World.cell?_setCell_other _ _ _ _ (by simp), World.cell?_setCell_other _ _ _ _ (by simp)]; exact h.c0
  · rw [World.cell?_setCell_other _ _ _ _ (by simp), World.cell?_of_block (a := ⟨K, 1, none⟩) blk4, cK 1]
    refine World.cell?_setCell_same (u := .slice (some ⟨g, 0, none⟩) 0 255) _ _ _ ?_
    rw [World.cell?_setCell_other _ _ _ _ (by simp)]; exact h.c1
  · rw [World.cell?_setCell_other _ _ _ _ (by simp), World.cell?_of_block (a := ⟨K, 2, none⟩) blk4, cK 2, World.cell?_setCell_other _ _ _ _ (by simp)]
    exact World.cell?_setCell_same _ _ _ h.c2
  · rw [shape?_setCell]
    have e3 : w4.shape? K = (moved3 w K g f gf fs.length).shape? K := by simp only [World.shape?, blk4]
    rw [e3]
    unfold moved3
    rw [shape?_setCell, shape?_setCell, shape?_setCell]; exact h.sh
  · intro o
    rw [World.frozen?_setCell, World.frozen?_of_block (a := ⟨K, o, none⟩) blk4]
    unfold moved3
    rw [World.frozen?_setCell, World.frozen?_setCell, World.frozen?_setCell]; exact h.fz o
  · exact ownsRow_kept o4 fun k hk => Below.heap_setCell _ _ _ _ (fun e => ownsRow_notK o4 hKb (by rw [← (show k = K from e)]; exact hk))
  · rw [hch]; exact n28 hkc
  · intro i hi
    have := h.chk i (by simp; omega)
    rw [show (fs ++ [f]).getD i 0 = fs.getD i 0 by simp [List.getElem?_append_left hi], show (cs ++ [ch]).getD i [] = cs.getD i [] by simp [List.getElem?_append_left (show i < cs.length by omega)]] at this
    exact n28 this
  · exact (List.nodup_append.1 h.nod).1
  · intro f' hf'
    simp [Value.ownBlock]
    intro e
    exact (List.nodup_append.1 h.nod).2.2 f' hf' f (by simp) e.symm
  · intro a n c e
    simp at e
    exact ⟨by omega, fun _ => by omega⟩
  · have F3 : Frm w (moved3 w K g f gf fs.length) (BS w bb K) := by
      unfold moved3
      exact (((Frm.setCell w K 2 _ _ (Or.inl ⟨rfl, by omega⟩)).trans (Frm.setCell _ K 1 _ _ (Or.inl ⟨rfl, by omega⟩))).trans (Frm.setCell _ gf fs.length _ _ (Or.inr ⟨hgf.1, mg, Or.inr hmg⟩)))
    exact (F3.trans2 (Frm.grown_new g4 (BS w bb K) (fun k hk => by rw [hs3]; simp at hk; omega)) (fun _ _ _ h => h)).trans2 (Frm.setCell w4 K 0 _ (BS w bb K) (Or.inl ⟨rfl, by omega⟩)) (fun _ _ _ h => h)

set_option maxHeartbeats 2000000 in
set_option maxRecDepth 100000 in
/-- release where the tail is empty and a whole array is there: it becomes the tail -/
theorem release_move (bb K g gf fc f : Nat) (fs : List Nat) (cs : List (List Nat)) (ch : List Nat) (sp : Option Addr) (w : World) (h : Bk w bb K (fs ++ [f]) (cs ++ [ch]) [] (.slice (some ⟨gf, 0, none⟩) (fs.length + 1) fc) (.slice (some ⟨g, 0, none⟩) 0 255) sp) (hF : fs.length < 900) (hbb : bb ≤ w.heap.size) :
    Calls Yba.prog 55 #[.pointer (some ⟨K, 0, none⟩)] w fun e w' => e = .returned (.tuple #[]) ∧ Settled w bb K ((cs ++ [ch]).flatten) w' := by
  have c0 := h.c0
  have c1 := h.c1
  have c2 := h.c2
  have f0 := h.fz 0
  have f1 := h.fz 1
  have f2 := h.fz 2
  have hK := h.lt
  have hgK : gf ≠ K := by have := h.own0.lt gf rfl; have := h.hK; omega
  have hgl := (h.own0.lt gf rfl).2
  have hrow : w.ownsRow bb 72 1 (.slice (some ⟨gf, 0, none⟩) (fs.length + 1) fc) (fs.length + 1) (ptrs (fs ++ [f])) := by have := h.own0; rw [List.length_append] at this; exact this
  have hcg := ownsRow_ptr_cell hrow fs.length (by omega)
  have e1 : (fs ++ [f]).getD fs.length 0 = f := by simp
  rw [e1] at hcg
  clear e1
  have hfg := hrow.frozenAt fs.length
  have hfc : fs.length + 1 ≤ fc ∧ fc ≤ 9223372036854775807 := by
    rcases hrow.2 with ⟨h', _⟩ | ⟨_, _, _, h', _, _, h1, h2, _⟩
    · simp at h'
    · simp at h'; unfold maxLen at h2; omega
  obtain ⟨hfc1, hfc2⟩ := hfc
  have harr := run_arrayAt g 255 255 (by decide)
  have hown : Hid ((moved3 w K g f gf fs.length).ownsRow bb 72 1 (.slice (some ⟨gf, 0, none⟩) fs.length fc) fs.length (ptrs fs)) := by
    have := ownsRow_cut hrow fs.length (by omega)
    rw [ptrs_append, List.take_left' (by rw [ptrs_length])] at this
    unfold moved3
    refine ownsRow_past ?_ fs.length (Nat.le_refl _) _
    exact ownsRow_kept this fun k hk => by
      simp [Value.ownBlock] at hk
      rw [Below.heap_setCell _ _ _ _ (by simp; omega), Below.heap_setCell _ _ _ _ (by simp; omega)]
  go_enter Yba.func55, Yba.ntmps55
  go_wp2_with fail
  refine (shrunk63_calls bb fs.length fc 1 (some ⟨gf, 0, none⟩) (ptrs fs) (moved3 w K g f gf fs.length) hown.out (ptrs_one fs) (by omega) (by omega) (by omega) (by simp [moved3]; exact hbb)).mono ?_
  rintro e w4 ⟨ao', c', rfl, o4, hc', g4, ha⟩
  obtain ⟨b4, hch, F4⟩ := h.moved o4 g4
  have blk4 : w4.heap[K]? = (moved3 w K g f gf fs.length).heap[K]? := g4.block K (by simp [moved3]; omega) (by simp [moved3]; omega)
  have d0 : w4.cell? ⟨K, 0, none⟩ = some (.slice (some ⟨gf, 0, none⟩) (fs.length + 1) fc) := by
    rw [World.cell?_of_block (a := ⟨K, 0, none⟩) blk4]
    unfold moved3
    rw [World.cell?_setCell_other _ _ _ _ (fun e => hgK (congrArg Addr.block e)), World.cell?_setCell_other _ _ _ _ (by simp), World.cell?_setCell_other _ _ _ _ (by simp)]
    exact c0
  have d1 : w4.frozen? ⟨K, 0, none⟩ = false := by
    rw [World.frozen?_of_block (a := ⟨K, 0, none⟩) blk4]
    unfold moved3
    rw [World.frozen?_setCell, World.frozen?_setCell, World.frozen?_setCell]; exact f0
  clear blk4
  go_wp2_with fail
  refine bodyPost_ret (results_none rfl _ _ _) rfl ?_
  have hb4 : Bk (w4.setCell ⟨K, 0, none⟩ (.slice ao' fs.length c')) bb K fs cs ch (.slice ao' fs.length c') (.slice (some ⟨f, 0, none⟩) ch.length 255) (some ⟨g, 0, none⟩) := by rw [hch]; exact b4
  exact ⟨rfl, _, _, _, _, _, _, _, hb4, by simp, fun _ e => by rw [e] at hch; simp at hch, F4⟩
end Go.Proofs.Ybulkaeuq
