/-
  zzs1540bcheck: true, whatever the bytes. By the prover of seat b1540aF.
-/
import Derived.Test.YbulkaewgFmtCheck
import Derived.Test.YbulkaewgFmtAtLeastOk
namespace Go.Proofs.YbulkaewgFmt
open Go.RowKit Go.Extern.Stop Go.Stop Go.Extern

/-- the six listed variables, as the walks want them -/
structure Vars (a0 a2 a3 : Addr) (w : World) : Prop where
  g0 : w.cell? ⟨0, 0, none⟩ = some (.iface 43 (.pointer (some a0)))
  g1 : ∀ n, n < 3 → w.cell? ⟨1, n, none⟩ = some (.int .i64 ((n : Int) + 1))
  g2 : w.cell? ⟨2, 0, none⟩ = some (.iface 43 (.pointer (some a2)))
  g3 : w.cell? ⟨3, 0, none⟩ = some (.iface 43 (.pointer (some a3)))
  g4 : ∃ ev, w.cell? ⟨4, 0, none⟩ = some ev
  b0 : ∃ c t, w.heap[a0.block]? = some (.cells c t (0, 0))
  b2 : ∃ c t, w.heap[a2.block]? = some (.cells c t (0, 0))
  b3 : ∃ c t, w.heap[a3.block]? = some (.cells c t (0, 0))
  lt : 5 < w.heap.size

theorem lt_of_block {w : World} {b : Nat} {o : Obj} (h : w.heap[b]? = some o) : b < w.heap.size := by
  rcases Nat.lt_or_ge b w.heap.size with h' | h'
  · exact h'
  · rw [Array.getElem?_eq_none h'] at h; cases h

theorem Vars.below {a0 a2 a3 : Addr} {w w' : World} (v : Vars a0 a2 a3 w) (h : Below w.heap.size w w') : Vars a0 a2 a3 w' := by
  have c : ∀ b o, b < w.heap.size → w'.cell? ⟨b, o, none⟩ = w.cell? ⟨b, o, none⟩ := fun b o hb => h.cell (p := ⟨b, o, none⟩) hb
  have lt := v.lt
  obtain ⟨c0, t0, e0⟩ := v.b0
  obtain ⟨c2, t2, e2⟩ := v.b2
  obtain ⟨c3, t3, e3⟩ := v.b3
  obtain ⟨ev, e4⟩ := v.g4
  exact ⟨(c 0 0 (by omega)).trans v.g0, fun n hn => (c 1 n (by omega)).trans (v.g1 n hn), (c 2 0 (by omega)).trans v.g2, (c 3 0 (by omega)).trans v.g3, ⟨ev, (c 4 0 (by omega)).trans e4⟩,
    ⟨c0, t0, (h.block _ (lt_of_block e0)).trans e0⟩, ⟨c2, t2, (h.block _ (lt_of_block e2)).trans e2⟩, ⟨c3, t3, (h.block _ (lt_of_block e3)).trans e3⟩, Nat.lt_of_lt_of_le lt h.size⟩

theorem Rd.kept {r db N cap : Nat} {D : List Int} {pos chunk failAt calls : Nat} {ev : Value} {w w' : World} (h : Rd r db N cap D pos chunk failAt calls ev w) (k : Below w.heap.size w w') : w'.cell? ⟨r, 1, none⟩ = some (.int .i64 pos) :=
  (k.cell (p := ⟨r, 1, none⟩) (World.block_lt_of_cell? w _ h.c1)).trans h.c1

set_option maxHeartbeats 1000000 in
theorem check_calls (F : Interp) (db N cap chunk : Nat) (D : List Int) (a0 a2 a3 : Addr) (w : World) (v : Vars a0 a2 a3 w) (hF : F.answers w.tape) (hN : N ≤ 1100) (hcap : N ≤ cap) (hc1 : 1 ≤ chunk) (hc2 : chunk ≤ 5) (hdb : db < w.heap.size)
    (hdat : ∀ j, j < N → w.cell? ⟨db, j, none⟩ = some (.int .u8 (D.getD j 0))) (hD : ∀ j, j < N → 0 ≤ D.getD j 0 ∧ D.getD j 0 < 256) :
    Calls Ybaf.prog 6 #[.slice (some ⟨db, 0, none⟩) N cap, .int .i64 chunk] w fun e w' => e = .returned (.bool true) ∧ Below w.heap.size w w' := by
  obtain ⟨cz, tz, gz⟩ := v.b0
  refine check_walk db N cap chunk D a0 w hN hdb v.lt hdat hD v.g0 gz (lt_of_block gz) ?_
  intro c pk
  have bw : Below w.heap.size w ((w.alloc (rdObj db N cap chunk)).alloc (.cells c 50)) := ((Below.refl _ w).alloc (Nat.le_refl _) _).alloc (by simp) _
  have hr : ((w.alloc (rdObj db N cap chunk)).alloc (.cells c 50)).heap[w.heap.size]? = some (.cells #[.slice (some ⟨db, 0, none⟩) N cap, .int .i64 0, .int .i64 chunk, .int .i64 0, .int .i64 0, .nilIface] 33 (0, 0)) := (Below.heap_alloc _ _ _ (by simp)).trans (heap_alloc_new' _ _)
  have hs4 : ((w.alloc (rdObj db N cap chunk)).alloc (.cells c 50)).heap.size = w.heap.size + 1 + 1 := by simp
  generalize (w.alloc (rdObj db N cap chunk)).alloc (.cells c 50) = w4 at *
  have v4 := v.below bw
  have rd : Rd w.heap.size db N cap D 0 chunk 0 0 .nilIface w4 := by
    refine ⟨?_, ?_, ?_, ?_, ?_, ?_, fun o => frozen_of_row _ _ _ _ _ hr, fun j hj => ?_⟩
    · rw [cell_of_row _ _ _ _ _ _ hr]; rfl
    · rw [cell_of_row _ _ _ _ _ _ hr]; rfl
    · rw [cell_of_row _ _ _ _ _ _ hr]; rfl
    · rw [cell_of_row _ _ _ _ _ _ hr]; rfl
    · rw [cell_of_row _ _ _ _ _ _ hr]; rfl
    · rw [cell_of_row _ _ _ _ _ _ hr]; rfl
    · exact (bw.cell (p := ⟨db, j, none⟩) hdb).trans (hdat j hj)
  have lt := v.lt
  have room : Room (w.heap.size + 1) w4 := ⟨fun j hj => by obtain ⟨b, hb⟩ := pk.cb j hj; rw [hb]; rfl, pk.fz, by omega⟩
  have hal := atLeast_ok w.heap.size w.heap.size db (w.heap.size + 1) N cap chunk D .nilIface a2 a3 w4 rd room hN hcap hc1 hc2 (by omega) (by omega) (by omega) (by omega) (by omega) (by omega) (by omega) v4.g2 v4.g3
  obtain ⟨c2, t2, e2⟩ := v.b2
  obtain ⟨c3, t3, e3⟩ := v.b3
  obtain ⟨ev4, e4⟩ := v4.g4
  by_cases h4 : 4 ≤ N
  · have hfull := readFull_of (Q := fun e w' => e = .returned (.tuple #[.int .i64 4, .nilIface]) ∧ ((∃ calls, Rd w.heap.size db N cap D 4 chunk 0 calls .nilIface w') ∧ Below w.heap.size w4 w' ∧ Room (w.heap.size + 1) w' ∧ ∀ j, j < 4 → w'.cell? ⟨w.heap.size + 1, 1 + j, none⟩ = some (.int .u8 (D.getD j 0)))) (n := 4) (ev := .nilIface)
      (hal.mono (by rintro e w' ⟨rfl, h1, h2, h3, h5⟩; rw [show min N 4 = 4 by omega] at h1 h5 ⊢; exact ⟨by rw [if_pos h4], h1, h2, h3, h5⟩)) (fun w' hs => ⟨rfl, hs⟩)
    refine (head_ok w.heap.size w.heap.size (w.heap.size + 1) D ev4 F w4 pk.c0 hfull (fun w' hs => ⟨hs.2.1, hs.2.2.1.2.2, hs.2.2.2⟩) (fun j hj => hD j (by omega)) lt (by omega) (by rw [bw.tape]; exact hF) v4.g1 e4).mono ?_
    rintro e w' ⟨w1, ⟨⟨calls, rd1⟩, bl1, rm1, _⟩, K, L, E, rfl, hout, bl2⟩
    refine ⟨K, L, E, rfl, ?_, ?_, Or.inr ⟨h4, hout⟩⟩
    · rw [show min N 4 = 4 by omega]; exact rd1.kept bl2
    · exact (bw.trans bl1).trans ⟨bl2.os, bl2.tape, bl2.output, bl2.size, fun k hk => bl2.block k (by have := bl1.size; omega)⟩
  · have hfull := readFull_of (Q := fun e w' => e = .returned (.tuple #[.int .i64 ((min N 4 : Nat) : Int), .iface 43 (.pointer (some (if N = 0 then a2 else a3)))]) ∧ ((∃ calls, Rd w.heap.size db N cap D (min N 4) chunk 0 calls .nilIface w') ∧ Below w.heap.size w4 w')) (n := min N 4) (ev := .iface 43 (.pointer (some (if N = 0 then a2 else a3))))
      (hal.mono (by rintro e w' ⟨rfl, h1, h2, h3, h5⟩; exact ⟨by rw [if_neg h4], h1, h2⟩)) (fun w' hs => ⟨rfl, hs⟩)
    refine (head_short w.heap.size w.heap.size (w.heap.size + 1) (min N 4) a0 a2 a3 (if N = 0 then a2 else a3) w4 pk.c0 hfull (fun w' hs => hs.2) lt (by split; exact Or.inl rfl; exact Or.inr rfl) v4.g0 v4.g2 v4.g3 ((bw.block _ (lt_of_block e2)).trans e2) ((bw.block _ (lt_of_block e3)).trans e3) (lt_of_block e2) (lt_of_block e3)).mono ?_
    rintro e w' ⟨⟨⟨calls, rd1⟩, bl1⟩, rfl⟩
    exact ⟨0, 0, _, rfl, rd1.c1, bw.trans bl1, Or.inl ⟨by omega, rfl, rfl, rfl⟩⟩
end Go.Proofs.YbulkaewgFmt
