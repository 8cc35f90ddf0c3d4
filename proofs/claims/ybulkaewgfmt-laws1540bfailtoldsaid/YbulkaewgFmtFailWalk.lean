/-
  LawS1540BFail walked. By the prover of seat b1540aF.
-/
import Derived.Test.YbulkaewgFmtHeadFail
namespace Go.Proofs.YbulkaewgFmt
open Go.RowKit

/-- head over the reader as the law makes it -/
theorem fail_head (w w2 : World) (k : Nat) (bs : List Int) (c : Array Value) (a2 a3 : Addr) (bl : Below w.heap.size w w2) (B : Byt (w.heap.size + 1) (w.heap.size + 1) 4 bs w2) (he : w2.heap[w.heap.size]? = some (.cells #[.string ⟨#[122, 122]⟩] 45 (0, 0))) (hlt : w.heap.size + 1 < w2.heap.size) (hk1 : 1 ≤ k) (hk4 : k ≤ 4) (b4 : 3 < w.heap.size)
    (g2 : w.cell? ⟨2, 0, none⟩ = some (.iface 43 (.pointer (some a2)))) (g3 : w.cell? ⟨3, 0, none⟩ = some (.iface 43 (.pointer (some a3)))) {ca cb : Array Value} {ta tb : TypeId} (gx : w.heap[a2.block]? = some (.cells ca ta (0, 0))) (gy : w.heap[a3.block]? = some (.cells cb tb (0, 0)))
    (pk : Pkt w2.heap.size (w2.heap.size + 1) ((w2.alloc (.cells #[.slice (some ⟨w.heap.size + 1, 0, none⟩) 4 4, .int .i64 0, .int .i64 1, .int .i64 k, .int .i64 0, .iface 43 (.pointer (some ⟨w.heap.size, 0, none⟩))] 33)).alloc (.cells c 50))) :
    Calls Ybaf.prog 10 #[.pointer (some ⟨w2.heap.size + 1, 0, none⟩)] ((w2.alloc (.cells #[.slice (some ⟨w.heap.size + 1, 0, none⟩) 4 4, .int .i64 0, .int .i64 1, .int .i64 k, .int .i64 0, .iface 43 (.pointer (some ⟨w.heap.size, 0, none⟩))] 33)).alloc (.cells c 50))
      fun e w' => e = .returned (.tuple #[.int .i64 0, .int .i64 0, .iface 43 (.pointer (some ⟨w.heap.size, 0, none⟩))]) ∧ Rd w2.heap.size (w.heap.size + 1) 4 4 bs (k - 1) 1 k k (.iface 43 (.pointer (some ⟨w.heap.size, 0, none⟩))) w' ∧ Below w.heap.size w w' := by
  have lt2 : ∀ {b : Nat} {o : Obj}, w.heap[b]? = some o → b < w.heap.size := fun h => by
    rcases Nat.lt_or_ge _ w.heap.size with h' | h'
    · exact h'
    · rw [Array.getElem?_eq_none h'] at h; cases h
  have l2 := lt2 gx
  have l3 := lt2 gy
  have bw : Below w.heap.size w ((w2.alloc (.cells #[.slice (some ⟨w.heap.size + 1, 0, none⟩) 4 4, .int .i64 0, .int .i64 1, .int .i64 k, .int .i64 0, .iface 43 (.pointer (some ⟨w.heap.size, 0, none⟩))] 33)).alloc (.cells c 50)) := (bl.alloc bl.size _).alloc (by simp; omega) _
  have hr : ((w2.alloc (.cells #[.slice (some ⟨w.heap.size + 1, 0, none⟩) 4 4, .int .i64 0, .int .i64 1, .int .i64 k, .int .i64 0, .iface 43 (.pointer (some ⟨w.heap.size, 0, none⟩))] 33)).alloc (.cells c 50)).heap[w2.heap.size]? = some (.cells #[.slice (some ⟨w.heap.size + 1, 0, none⟩) 4 4, .int .i64 0, .int .i64 1, .int .i64 k, .int .i64 0, .iface 43 (.pointer (some ⟨w.heap.size, 0, none⟩))] 33 (0, 0)) := (Below.heap_alloc _ _ _ (by simp)).trans (heap_alloc_new' _ _)
  have old : ∀ b, b < w2.heap.size → ((w2.alloc (.cells #[.slice (some ⟨w.heap.size + 1, 0, none⟩) 4 4, .int .i64 0, .int .i64 1, .int .i64 k, .int .i64 0, .iface 43 (.pointer (some ⟨w.heap.size, 0, none⟩))] 33)).alloc (.cells c 50)).heap[b]? = w2.heap[b]? := fun b hb => (Below.heap_alloc _ _ _ (by simp; omega)).trans (Below.heap_alloc _ _ _ hb)
  have hs4 : ((w2.alloc (.cells #[.slice (some ⟨w.heap.size + 1, 0, none⟩) 4 4, .int .i64 0, .int .i64 1, .int .i64 k, .int .i64 0, .iface 43 (.pointer (some ⟨w.heap.size, 0, none⟩))] 33)).alloc (.cells c 50)).heap.size = w2.heap.size + 1 + 1 := by simp
  generalize (w2.alloc (.cells #[.slice (some ⟨w.heap.size + 1, 0, none⟩) 4 4, .int .i64 0, .int .i64 1, .int .i64 k, .int .i64 0, .iface 43 (.pointer (some ⟨w.heap.size, 0, none⟩))] 33)).alloc (.cells c 50) = w4 at *
  have rd : Rd w2.heap.size (w.heap.size + 1) 4 4 bs 0 1 k 0 (.iface 43 (.pointer (some ⟨w.heap.size, 0, none⟩))) w4 := by
    refine ⟨?_, ?_, ?_, ?_, ?_, ?_, fun o => frozen_of_row _ _ _ _ _ hr, fun j hj => ?_⟩
    · rw [cell_of_row _ _ _ _ _ _ hr]; rfl
    · rw [cell_of_row _ _ _ _ _ _ hr]; rfl
    · rw [cell_of_row _ _ _ _ _ _ hr]; rfl
    · rw [cell_of_row _ _ _ _ _ _ hr]; rfl
    · rw [cell_of_row _ _ _ _ _ _ hr]; rfl
    · rw [cell_of_row _ _ _ _ _ _ hr]; rfl
    · exact (World.cell?_of_block (w := w2) (a := ⟨w.heap.size + 1, j, none⟩) (old _ hlt)).trans (B.cell j hj)
  refine (head_fail w.heap.size w2.heap.size (w.heap.size + 1) (w2.heap.size + 1) 4 bs k w.heap.size a2 a3 w4 rd pk (by omega) hk1 hk4 (by omega) (by omega) (by omega) (by omega) (by omega) (by omega) (by omega) b4
    ((bw.cell (p := ⟨2, 0, none⟩) (by show 2 < w.heap.size; omega)).trans g2) ((bw.cell (p := ⟨3, 0, none⟩) b4).trans g3) (fun e => by rw [← e] at l2; simp at l2) (fun e => by rw [← e] at l3; simp at l3) ((old _ (by omega)).trans he) ((bw.block _ l2).trans gx) ((bw.block _ l3).trans gy) l2 l3 (by omega) (by omega)).mono ?_
  rintro e w' ⟨rfl, y1, y2⟩
  exact ⟨rfl, y1, bw.trans y2⟩

set_option maxHeartbeats 4000000 in
set_option maxRecDepth 100000 in
theorem fail_walk (v f : Int) (a2 a3 : Addr) (w : World) (v0 : 0 ≤ v) (v1 : v ≤ 65535) (f0 : 0 ≤ f) (f1 : f ≤ 255) (b4 : 3 < w.heap.size)
    (g2 : w.cell? ⟨2, 0, none⟩ = some (.iface 43 (.pointer (some a2)))) (g3 : w.cell? ⟨3, 0, none⟩ = some (.iface 43 (.pointer (some a3)))) {ca cb : Array Value} {ta tb : TypeId} (gx : w.heap[a2.block]? = some (.cells ca ta (0, 0))) (gy : w.heap[a3.block]? = some (.cells cb tb (0, 0))) :
    Calls Ybaf.prog 5 #[.int .u16 v, .int .u8 f] w fun e w' => e = .returned (.bool true) ∧ Below w.heap.size w w' := by
  obtain ⟨k0, hk0⟩ : ∃ k0 : Nat, f % 4 = (k0 : Int) := Int.eq_ofNat_of_zero_le (Int.emod_nonneg _ (by omega))
  have hk3 : k0 ≤ 3 := by omega
  obtain ⟨k, hk⟩ : ∃ k : Nat, (k0 : Int) + 1 = (k : Int) := ⟨k0 + 1, by omega⟩
  go_enter Ybaf.func5, Ybaf.ntmps5
  go_wp2_with fail
  refine (errnew_calls _ _).mono ?_
  rintro e w1 ⟨rfl, rfl⟩
  go_wp2_with fail
  refine (hex_calls v 0 _ v0 v1 (by omega) (by omega)).mono ?_
  rintro e w2 ⟨bs, rfl, B, bel, hbs⟩
  simp only [World.size_alloc] at B bel
  have hlt := B.lt'
  have hsz := bel.size
  simp only [World.size_alloc] at hsz
  have bl2 : Below w.heap.size w w2 := ((Below.refl _ w).alloc (Nat.le_refl _) _).trans ⟨bel.os, bel.tape, bel.output, bel.size, fun k hk => bel.block k (by omega)⟩
  have he2 : w2.heap[w.heap.size]? = some (.cells #[.string ⟨#[122, 122]⟩] 45 (0, 0)) := (bel.block w.heap.size (by omega)).trans (heap_alloc_new' _ _)
  have HB : Hid (Byt (w.heap.size + 1) (w.heap.size + 1) 4 bs w2) := B
  have HBL : Hid (Below w.heap.size w w2) := bl2
  have HE2 : Hid (w2.heap[w.heap.size]? = some (.cells #[.string ⟨#[122, 122]⟩] 45 (0, 0))) := he2
  clear B bel bl2 he2 hbs
  obtain ⟨km, hkm⟩ : ∃ km : Nat, (k : Int) - 1 = (km : Int) := ⟨k - 1, by omega⟩
  have HKM : Hid (k - 1 = km) := by show k - 1 = km; omega
  have hk1 : 1 ≤ k := by omega
  have hk4 : k ≤ 4 := by omega
  clear hk0 hk
  go_wp2_with fail
  refine (newPkt_calls w2.heap.size _).mono ?_
  rintro e w4 ⟨rfl, c, rfl, pk⟩
  simp only [World.size_alloc] at pk
  go_wp2_with fail
  have hres := fail_head w w2 k bs c a2 a3 HBL.out HB.out HE2.out hlt hk1 hk4 b4 g2 g3 gx gy pk
  rw [HKM.out] at hres
  refine hres.mono ?_
  rintro e w5 ⟨rfl, rd, bel5⟩
  have c1 := rd.c1
  have hq := eql_same (W := w5) ⟨w.heap.size, 0, none⟩
  have HBL5 : Hid (Below w.heap.size w w5) := bel5
  clear rd bel5 hres
  go_wp2_with fail
  go_ret
  exact ⟨rfl, HBL5.out⟩
end Go.Proofs.YbulkaewgFmt
