/-
  The run: slot and resize. By the prover of seat b1537a.
-/
import Derived.Test.YbulkaeuqBuild
import Derived.Test.YbulkaeuqOrdC
namespace Go.Proofs.Ybulkaeuq
open Go.RowKit

set_option maxHeartbeats 400000 in
theorem slot_calls (Q j L c : Nat) (a : Option Addr) (w : World) (h3 : w.cell? ⟨Q, 3, none⟩ = some (.slice a L c)) (h4 : w.cell? ⟨Q, 4, none⟩ = some (.int .i64 0)) (hj : j < L) (hL : L ≤ 1000) :
    Calls Yba.prog 18 #[.pointer (some ⟨Q, 3, none⟩), .int .i64 j] w fun e w' => e = .returned (.int .i64 j) ∧ w' = w := by
  go_enter Yba.func18, Yba.ntmps18
  go_wp2
  go_ret
  exact ⟨rfl, rfl⟩

/-- the cells of the queue's run: the ring, its head, its length, the count of live nodes, the last deadline -/
structure RunC (Q : Nat) (v : Value) (n live : Nat) (last : Int) (w : World) : Prop where
  c3 : w.cell? ⟨Q, 3, none⟩ = some v
  c4 : w.cell? ⟨Q, 4, none⟩ = some (.int .i64 0)
  c5 : w.cell? ⟨Q, 5, none⟩ = some (.int .i64 n)
  c6 : w.cell? ⟨Q, 6, none⟩ = some (.int .i64 live)
  c7 : w.cell? ⟨Q, 7, none⟩ = some (.int .i64 last)

theorem RunC.frm {Q : Nat} {v : Value} {n live : Nat} {last : Int} {w w' : World} {S : Nat → Nat → Prop} (h : RunC Q v n live last w) (F : Frm w w' S) (hS : ∀ o, 3 ≤ o → o ≤ 7 → ¬ S Q o) : RunC Q v n live last w' := by
  have lt : Q < w.heap.size := World.block_lt_of_cell? w _ h.c3
  exact ⟨(F.cell Q 3 lt (hS 3 (by omega) (by omega))).trans h.c3, (F.cell Q 4 lt (hS 4 (by omega) (by omega))).trans h.c4, (F.cell Q 5 lt (hS 5 (by omega) (by omega))).trans h.c5, (F.cell Q 6 lt (hS 6 (by omega) (by omega))).trans h.c6, (F.cell Q 7 lt (hS 7 (by omega) (by omega))).trans h.c7⟩

/-- the ring: cc places of the block G, none of them frozen -/
structure Ring (G cc : Nat) (w : World) : Prop where
  shp : w.shape? G = some (28, cc)
  frz : ∀ o, w.frozen? ⟨G, o, none⟩ = false

/-- what resize leaves -/
def ZPost (Q cc : Nat) (w : World) (e : Ending) (w' : World) : Prop :=
  e = .returned (.tuple #[]) ∧ ∃ G, w.heap.size ≤ G ∧ Ring G cc w' ∧ RunC Q (.slice (some ⟨G, 0, none⟩) cc cc) 0 0 0 w' ∧ Frm w w' (fun k o => k = Q ∧ 3 ≤ o ∧ o ≤ 5)

set_option maxHeartbeats 1000000 in
set_option maxRecDepth 100000 in
theorem resize_calls (Q cc : Nat) (w : World) (hr : RunC Q (.slice none 0 0) 0 0 0 w) (fz : ∀ o, w.frozen? ⟨Q, o, none⟩ = false) (hc : cc ≤ 512) :
    Calls Yba.prog 45 #[.pointer (some ⟨Q, 3, none⟩), .int .i64 cc] w (ZPost Q cc w) := by
  obtain ⟨i0, hi0, hz0, hz1, hz2⟩ := info_parts Yba.info28
  have c3 := hr.c3
  have lt : Q < w.heap.size := World.block_lt_of_cell? w _ c3
  have kst : Hid (∀ w1, w.grownBy w1 none → (w1.cell? ⟨Q, 3, none⟩ = some (.slice none 0 0) ∧ w1.cell? ⟨Q, 4, none⟩ = some (.int .i64 0) ∧ w1.cell? ⟨Q, 5, none⟩ = some (.int .i64 0)) ∧ w1.frozen? ⟨Q, 3, none⟩ = false ∧ w1.frozen? ⟨Q, 4, none⟩ = false ∧ w1.frozen? ⟨Q, 5, none⟩ = false) := by
    intro w1 g1
    have hb := g1.block Q lt (by simp)
    have R1 : RunC Q (.slice none 0 0) 0 0 0 w1 := hr.frm (S := fun _ _ => False) (Frm.grown_new g1 _ (fun k hk => by cases hk)) (fun _ _ _ h => h)
    exact ⟨⟨R1.c3, R1.c4, R1.c5⟩, (World.frozen?_of_block (a := ⟨Q, 3, none⟩) hb).trans (fz 3), (World.frozen?_of_block (a := ⟨Q, 4, none⟩) hb).trans (fz 4), (World.frozen?_of_block (a := ⟨Q, 5, none⟩) hb).trans (fz 5)⟩
  have fin : Hid (∀ w1, w.grownBy w1 none → w1.ownsRow w.heap.size 28 1 (.slice (some ⟨w.heap.size, 0, none⟩) cc cc) cc (madeCells (Value.pointer none).cells (cc * 1)).toList →
      ZPost Q cc w (.returned (.tuple #[])) (((w1.setCell ⟨Q, 3, none⟩ (.slice (some ⟨w.heap.size, 0, none⟩) cc cc)).setCell ⟨Q, 4, none⟩ (.int .i64 0)).setCell ⟨Q, 5, none⟩ (.int .i64 0))) := by
    intro w1 g1 o1
    have R1 : RunC Q (.slice none 0 0) 0 0 0 w1 := hr.frm (S := fun _ _ => False) (Frm.grown_new g1 _ (fun k hk => by cases hk)) (fun _ _ _ h => h)
    have hne : w.heap.size ≠ Q := by omega
    have F1 : Frm w w1 (fun k o => k = Q ∧ 3 ≤ o ∧ o ≤ 5) := Frm.grown_new g1 _ (fun k hk => by cases hk)
    refine ⟨rfl, w.heap.size, Nat.le_refl _, ⟨?_, ?_⟩, ⟨?_, ?_, ?_, ?_, ?_⟩, ((F1.trans (Frm.setCell _ Q 3 _ _ ⟨rfl, by omega, by omega⟩)).trans (Frm.setCell _ Q 4 _ _ ⟨rfl, by omega, by omega⟩)).trans (Frm.setCell _ Q 5 _ _ ⟨rfl, by omega, by omega⟩)⟩
    · simp only [shape?_setCell]; simpa using ownsRow_shape o1
    · intro o
      simp only [World.frozen?_setCell]
      rcases o1.2 with ⟨h', _⟩ | ⟨g, cap, cur, h', hbs, hg, r⟩
      · simp at h'
      · simp only [Value.slice.injEq, Option.some.injEq, Addr.mk.injEq, and_true, true_and] at h'
        obtain ⟨rfl, rfl⟩ := h'
        exact frozen_of_row w1 _ o _ _ hg
    · rw [World.cell?_setCell_other _ _ _ _ (by simp), World.cell?_setCell_other _ _ _ _ (by simp)]
      exact World.cell?_setCell_same _ _ _ R1.c3
    · rw [World.cell?_setCell_other _ _ _ _ (by simp)]
      refine World.cell?_setCell_same (u := .int .i64 0) _ _ _ ?_
      rw [World.cell?_setCell_other _ _ _ _ (by simp)]; exact R1.c4
    · refine World.cell?_setCell_same (u := .int .i64 0) _ _ _ ?_
      rw [World.cell?_setCell_other _ _ _ _ (by simp), World.cell?_setCell_other _ _ _ _ (by simp)]; exact R1.c5
    · rw [World.cell?_setCell_other _ _ _ _ (by simp), World.cell?_setCell_other _ _ _ _ (by simp), World.cell?_setCell_other _ _ _ _ (by simp)]; exact R1.c6
    · rw [World.cell?_setCell_other _ _ _ _ (by simp), World.cell?_setCell_other _ _ _ _ (by simp), World.cell?_setCell_other _ _ _ _ (by simp)]; exact R1.c7
  clear hr fz c3
  go_enter Yba.func45, Yba.ntmps45
  go_wp2_with (at_make; refine wpList_make_full _ rfl _ _ 44 rfl w.heap.size 28 i0 (.pointer none) 1 Yba.underlying44 hi0 hz0 hz1 _ _ _ _ cc rfl rfl (by omega) (by omega) (by rw [hz2]; omega) (by unfold maxLen; omega) (Nat.le_refl _) ?_; intro w1 o1 g1; obtain ⟨⟨c3, c4, c5⟩, f3, f4, f5⟩ := kst.out w1 g1)
  go_loop [5, 14] (fun s5 s => s5 = .int .i64 0 ∧ s = .int .i64 0) (fun _ _ => 0)
  case atStart => exact ⟨rfl, rfl⟩
  case round =>
    obtain ⟨rfl, rfl⟩ := hrel
    go_wp2_with fail
    go_end0
    exact fin.out w1 g1 o1
end Go.Proofs.Ybulkaeuq
