/-
  The ring filled; (*run[int]).load walked. By the prover of seat b1537a.
-/
import Derived.Test.YbulkaeuqLoadA
namespace Go.Proofs.Ybulkaeuq
open Go.RowKit

/-- i nodes of l lie in the ring -/
structure Fill (Q G cc : Nat) (l : List Nat) (i : Nat) (w : World) : Prop where
  run : RunC Q (.slice (some ⟨G, 0, none⟩) cc cc) i 0 0 w
  ring : Ring G cc w
  put : ∀ t, t < i → w.cell? ⟨G, t, none⟩ = some (pe (l.getD t 0))
  pos : ∀ t, t < i → w.cell? ⟨l.getD t 0, 2, none⟩ = some (.int .i64 ((t : Int) * 1024 + 2))

theorem Fill.step {Q G cc i p : Nat} {l : List Nat} {w : World} (h : Fill Q G cc l i w) (hi : i < l.length) (hp : l.getD i 0 = p) (hsp : w.shape? p = some (30, 3)) (hsQ : w.shape? Q = some (56, 76)) (hc : i < cc) (hd : l.Nodup) (hl : ∀ t, t < l.length → w.shape? (l.getD t 0) = some (30, 3)) :
    Fill Q G cc l (i + 1) (((w.setCell ⟨G, i, none⟩ (pe p)).setCell ⟨p, 2, none⟩ (.int .i64 ((i : Int) * 1024 + 2))).setCell ⟨Q, 5, none⟩ (.int .i64 ((i : Int) + 1))) := by
  have GQ : G ≠ Q := shape_ne h.ring.shp hsQ (by simp)
  have Gp : G ≠ p := shape_ne h.ring.shp hsp (by simp)
  have pQ : p ≠ Q := shape_ne hsp hsQ (by simp)
  obtain ⟨vg, hvg⟩ := cell_of_shape h.ring.shp i hc
  obtain ⟨vp, hvp⟩ := cell_of_shape hsp 2 (by decide)
  have ne : ∀ t, t < i → l.getD t 0 ≠ p := by
    intro t ht e
    rw [← hp] at e
    have h1 := List.pairwise_iff_getElem.1 hd t i (by omega) hi ht
    simp [List.getD_eq_getElem?_getD, hi, show t < l.length by omega] at e
    exact h1 e
  refine ⟨⟨?_, ?_, ?_, ?_, ?_⟩, ⟨?_, ?_⟩, ?_, ?_⟩
  · rw [World.cell?_setCell_other _ _ _ _ (by simp), World.cell?_setCell_other _ _ _ _ (fun e => by simp only [Addr.mk.injEq, and_true] at e; omega), World.cell?_setCell_other _ _ _ _ (fun e => by simp only [Addr.mk.injEq, and_true] at e; omega)]; exact h.run.c3
  · rw [World.cell?_setCell_other _ _ _ _ (by simp), World.cell?_setCell_other _ _ _ _ (fun e => by simp only [Addr.mk.injEq, and_true] at e; omega), World.cell?_setCell_other _ _ _ _ (fun e => by simp only [Addr.mk.injEq, and_true] at e; omega)]; exact h.run.c4
  · have : (((w.setCell ⟨G, i, none⟩ (pe p)).setCell ⟨p, 2, none⟩ (.int .i64 ((i : Int) * 1024 + 2)))).cell? ⟨Q, 5, none⟩ = some (.int .i64 i) := by
      rw [World.cell?_setCell_other _ _ _ _ (fun e => by simp only [Addr.mk.injEq, and_true] at e; omega), World.cell?_setCell_other _ _ _ _ (fun e => by simp only [Addr.mk.injEq, and_true] at e; omega)]; exact h.run.c5
    rw [World.cell?_setCell_same _ _ _ this]
    simp
  · rw [World.cell?_setCell_other _ _ _ _ (by simp), World.cell?_setCell_other _ _ _ _ (fun e => by simp only [Addr.mk.injEq, and_true] at e; omega), World.cell?_setCell_other _ _ _ _ (fun e => by simp only [Addr.mk.injEq, and_true] at e; omega)]; exact h.run.c6
  · rw [World.cell?_setCell_other _ _ _ _ (by simp), World.cell?_setCell_other _ _ _ _ (fun e => by simp only [Addr.mk.injEq, and_true] at e; omega), World.cell?_setCell_other _ _ _ _ (fun e => by simp only [Addr.mk.injEq, and_true] at e; omega)]; exact h.run.c7
  · simp only [shape?_setCell]; exact h.ring.shp
  · intro o; simp only [World.frozen?_setCell]; exact h.ring.frz o
  · intro t ht
    rw [World.cell?_setCell_other _ _ _ _ (fun e => by simp only [Addr.mk.injEq, and_true] at e; omega), World.cell?_setCell_other _ _ _ _ (fun e => by simp only [Addr.mk.injEq, and_true] at e; omega)]
    by_cases e : t = i
    · subst e
      rw [World.cell?_setCell_same _ _ _ hvg, hp]
    · rw [World.cell?_setCell_other _ _ _ _ (fun e => by simp only [Addr.mk.injEq, and_true] at e; omega)]
      exact h.put t (by omega)
  · intro t ht
    by_cases e : t = i
    · subst e
      rw [hp, World.cell?_setCell_other _ _ _ _ (fun e => by simp only [Addr.mk.injEq, and_true] at e; omega)]
      refine World.cell?_setCell_same (u := vp) _ _ _ ?_
      rw [World.cell?_setCell_other _ _ _ _ (fun e => by simp only [Addr.mk.injEq, and_true] at e; omega)]
      exact hvp
    · have h1 := ne t (by omega)
      have h2 : l.getD t 0 ≠ Q := shape_ne (hl t (by omega)) hsQ (by simp)
      have h3 : l.getD t 0 ≠ G := shape_ne (hl t (by omega)) h.ring.shp (by simp)
      rw [World.cell?_setCell_other _ _ _ _ (fun e => by simp only [Addr.mk.injEq, and_true] at e; omega), World.cell?_setCell_other _ _ _ _ (fun e => by simp only [Addr.mk.injEq, and_true] at e; omega), World.cell?_setCell_other _ _ _ _ (fun e => by simp only [Addr.mk.injEq, and_true] at e; omega)]
      exact h.pos t (by omega)

/-- .. and of what lay there before the ring was made only the run's cells and the nodes' positions turn -/
theorem Fill.frm {Q G i p : Nat} {P : List (Int × Nat)} {w1 w : World} {a b c : Value} (F : Frm w1 w (RS Q P)) (hG : w1.heap.size ≤ G) (hp : ∃ j, j < P.length ∧ p = nn P j) :
    Frm w1 (((w.setCell ⟨G, i, none⟩ a).setCell ⟨p, 2, none⟩ b).setCell ⟨Q, 5, none⟩ c) (RS Q P) := by
  have F1 : Frm w1 (w.setCell ⟨G, i, none⟩ a) (RS Q P) := F.trans2 (Frm.setCell w G i a (fun k _ => k = G) rfl) (fun k o hk e => by omega)
  exact (F1.trans (Frm.setCell _ p 2 b (RS Q P) (Or.inr ⟨rfl, hp⟩))).trans (Frm.setCell _ Q 5 c (RS Q P) (Or.inl ⟨rfl, by omega, by omega⟩))

/-- what load leaves -/
def LPost (base bb Q W K : Nat) (P : List (Int × Nat)) (w0 w : World) (e : Ending) (w' : World) : Prop :=
  ∃ fs cs t vf vt sp G cc, ∃ l : List Nat, e = .returned (.bool true) ∧ MB base bb Q W K 1 true P w0 fs cs t vf vt sp 0 0 [] w' ∧ KP bb K w w' ∧ l.Perm (P.map (·.2)) ∧ l.Pairwise (fun a b => key P a ≤ key P b) ∧
    RunC Q (.slice (some ⟨G, 0, none⟩) cc cc) P.length P.length (key P (l.getD (P.length - 1) 0)) w' ∧ P.length ≤ cc ∧ cc ≤ 512 ∧
    (∀ t, t < P.length → w'.cell? ⟨G, t, none⟩ = some (pe (l.getD t 0))) ∧ (∀ t, t < P.length → w'.cell? ⟨l.getD t 0, 2, none⟩ = some (.int .i64 ((t : Int) * 1024 + 2))) ∧ G ≠ Q

/-- the state of load's first loop: the bucket's last nodes are taken -/
structure Tk (base bb Q W K : Nat) (P : List (Int × Nat)) (w0 w : World) (B m : Nat) (T fs : List Nat) (cs : List (List Nat)) (t : List Nat) (vf vt : Value) (sp : Option Addr) (wr : World) : Prop where
  mb : MB base bb Q W K 1 true P w0 fs cs t vf vt sp m 0 [] wr
  perm : T.Perm ((P.drop m).map (·.2))
  buf : Buf B T wr
  kp : KP bb K w wr
  run : RunC Q (.slice none 0 0) 0 0 0 wr
  le : m ≤ P.length
  hB : bb ≤ B

theorem Tk.len {base bb Q W K : Nat} {P : List (Int × Nat)} {w0 w : World} {B m : Nat} {T fs : List Nat} {cs : List (List Nat)} {t : List Nat} {vf vt : Value} {sp : Option Addr} {wr : World} (h : Tk base bb Q W K P w0 w B m T fs cs t vf vt sp wr) : T.length + m = P.length := by
  have := h.perm.length_eq
  have := h.le
  simp at *
  omega

theorem Tk.start {base bb Q W K : Nat} {P : List (Int × Nat)} {w0 w : World} {fs : List Nat} {cs : List (List Nat)} {t : List Nat} {vf vt : Value} {sp : Option Addr} (h : MB base bb Q W K 1 true P w0 fs cs t vf vt sp P.length P.length [] w) (R : RunC Q (.slice none 0 0) 0 0 0 w) (q : Nat) (c : Array Value) (hc : c.size = 256) :
    Tk base bb Q W K P w0 w w.heap.size P.length [] fs cs t vf vt sp ((w.drewN q).alloc (.cells c 96)) := by
  have hb : w.heap.size = (w.drewN q).heap.size := rfl
  have h1 : MB base bb Q W K 1 true P w0 fs cs t vf vt sp P.length 0 [] ((w.drewN q).alloc (.cells c 96)) := ((h.drewN q).lower (Nat.zero_le _)).frmB (Frm.alloc _ _ _) ((h.drewN q).bk.grown (World.grownBy_alloc _ _ none) (fun k hk => by cases hk)) h.ns h.ft
  refine ⟨h1, by simp, ⟨?_, ?_, ?_, ?_⟩, ((KP.refl bb K w).drewN q).step (Frm.alloc _ _ (fun _ _ => False)) (fun _ _ _ _ _ _ _ _ f => f), R.frm (S := fun _ _ => False) ((Frm.drewN w q _).trans (Frm.alloc _ _ _)) (fun _ _ _ f => f), Nat.le_refl _, h.qs.bbl⟩
  · rw [hb, shape?_alloc_new, hc]
  · intro o; rw [hb]; exact frozen_of_row _ _ o _ _ (heap_alloc_new _ _)
  · simp
  · intro j hj; simp at hj

/-- the tail is taken whole: appended to the buffer, cut off the bucket -/
theorem Tk.step {base bb Q W K : Nat} {P : List (Int × Nat)} {w0 w : World} {B m : Nat} {T fs : List Nat} {cs : List (List Nat)} {t : List Nat} {vf vt : Value} {sp : Option Addr} {wr w2 : World} (h : Tk base bb Q W K P w0 w B m T fs cs t vf vt sp wr) (hP : P.length ≤ 256)
    {fs' : List Nat} {cs' : List (List Nat)} {t' : List Nat} {vf' vt' : Value} {sp' : Option Addr} (bk : Bk w2 bb K fs' cs' t' vf' vt' sp') (ns : cs'.flatten ++ t' = cs.flatten ++ t.take (t.length - t.length)) (ft : fs' ≠ [] → t' ≠ [])
    (F : Frm (wr.setCells B (0 + T.length) (ptrs t)) w2 (BS (wr.setCells B (0 + T.length) (ptrs t)) bb K)) : Tk base bb Q W K P w0 w B (m - t.length) (T ++ t) fs' cs' t' vf' vt' sp' w2 := by
  obtain ⟨g1, g2, g3, g4⟩ := tail_get h.mb.ns h.le
  have hl := h.len
  have hle := h.le
  have F1 := frm_setCells B (ptrs t) (0 + T.length) wr
  have hb2 := h.buf.append t (by omega)
  have BQ : Q ≠ B := shape_ne h.mb.qs.shQ h.buf.shp (by simp)
  have m1 := h.mb.off F1 h.buf.shp (by have := h.mb.qs.hQ; have := h.mb.qs.Qb; have := h.hB; omega)
  have r1 := h.run.frm F1 (fun o _ _ e => BQ e)
  have k1 := h.kp.off F1 h.hB
  have hns := g4 (t.length - t.length) (by omega)
  rw [show m - t.length + (t.length - t.length) = m - t.length by omega] at hns
  refine ⟨m1.frmB F bk (ns.trans hns) ft, ?_, hb2.bs m1.bk.sh F, k1.bs F, r1.frm F (fun o _ _ => (m1.qs.notB m1.bk.sh o).1), by omega, h.hB⟩
  have ht : t = ((P.drop (m - t.length)).take t.length).map (·.2) := by
    apply List.ext_getElem?
    intro i
    by_cases hi : i < t.length
    · have := g3 i hi
      rw [List.getElem?_map, List.getElem?_take_of_lt hi, List.getElem?_drop, List.getElem?_eq_getElem hi, List.getElem?_eq_getElem (show m - t.length + i < P.length by omega)]
      simp only [Option.map_some, Option.some.injEq]
      rw [nn_get, ← this]
      simp [hi]
    · rw [List.getElem?_eq_none (by omega), List.getElem?_eq_none (by simp; omega)]
  have hsplit : (P.drop m ++ (P.drop (m - t.length)).take t.length).Perm (P.drop (m - t.length)) := seg_whole P g1
  have := hsplit.map (·.2)
  rw [List.map_append, ← ht] at this
  exact (h.perm.append_right t).trans this
end Go.Proofs.Ybulkaeuq
