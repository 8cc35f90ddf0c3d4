/-
  cutShort at an end of input; head over fewer than four bytes. By the prover of seat b1540aF.
-/
import Derived.Test.YbulkaewgFmtHeadFail
namespace Go.Proofs.YbulkaewgFmt
open Go.RowKit

set_option maxHeartbeats 1000000 in
theorem cutShort_eof (a0 a2 a3 x : Addr) (w : World) {ca cb : Array Value} {ta tb : TypeId} (g0 : w.cell? ⟨0, 0, none⟩ = some (.iface 43 (.pointer (some a0)))) (g2 : w.cell? ⟨2, 0, none⟩ = some (.iface 43 (.pointer (some a2)))) (g3 : w.cell? ⟨3, 0, none⟩ = some (.iface 43 (.pointer (some a3))))
    (gx : w.heap[a2.block]? = some (.cells ca ta (0, 0))) (gy : w.heap[a3.block]? = some (.cells cb tb (0, 0))) (hx : x = a2 ∨ x = a3) :
    Calls Ybaf.prog 13 #[.iface 43 (.pointer (some x))] w fun e w' => e = .returned (.iface 43 (.pointer (some a0))) ∧ w' = w := by
  by_cases e2 : x = a2
  · subst e2
    have hq := eql_same (W := w) x
    go_enter Ybaf.func13, Ybaf.ntmps13
    go_wp2_with fail
    go_ret
    exact ⟨rfl, rfl⟩
  · obtain rfl : x = a3 := by rcases hx with h | h; exact absurd h e2; exact h
    have hq2 := eql_other (W := w) gy gx e2
    have hq := eql_same (W := w) x
    go_enter Ybaf.func13, Ybaf.ntmps13
    go_wp2_with fail
    go_ret
    exact ⟨rfl, rfl⟩

set_option maxHeartbeats 1000000 in
theorem head_short (B0 r pb m : Nat) (a0 a2 a3 x : Addr) (w : World) {S : World → Prop} (c0 : w.cell? ⟨pb, 0, none⟩ = some (.iface 31 (.pointer (some ⟨r, 0, none⟩))))
    (hcon : Calls Ybaf.prog 12 #[.iface 31 (.pointer (some ⟨r, 0, none⟩)), .slice (some ⟨pb, 1, none⟩) 4 65520] w fun e w' => e = .returned (.tuple #[.int .i64 m, .iface 43 (.pointer (some x))]) ∧ S w')
    (hS : ∀ w', S w' → Below B0 w w') (b4 : 5 < B0) (hx : x = a2 ∨ x = a3) {ca cb : Array Value} {ta tb : TypeId}
    (g0 : w.cell? ⟨0, 0, none⟩ = some (.iface 43 (.pointer (some a0)))) (g2 : w.cell? ⟨2, 0, none⟩ = some (.iface 43 (.pointer (some a2)))) (g3 : w.cell? ⟨3, 0, none⟩ = some (.iface 43 (.pointer (some a3))))
    (gx : w.heap[a2.block]? = some (.cells ca ta (0, 0))) (gy : w.heap[a3.block]? = some (.cells cb tb (0, 0))) (gb : a2.block < B0) (gc : a3.block < B0) :
    Calls Ybaf.prog 10 #[.pointer (some ⟨pb, 0, none⟩)] w fun e w' => S w' ∧ e = .returned (.tuple #[.int .i64 0, .int .i64 0, .iface 43 (.pointer (some a0))]) := by
  have HG : Hid (∀ w', S w' → Calls Ybaf.prog 13 #[.iface 43 (.pointer (some x))] w' fun e w2 => e = .returned (.iface 43 (.pointer (some a0))) ∧ w2 = w') := fun w' s => by
    have bel := hS w' s
    exact cutShort_eof a0 a2 a3 x w' ((bel.cell (p := ⟨0, 0, none⟩) (by show 0 < B0; omega)).trans g0) ((bel.cell (p := ⟨2, 0, none⟩) (by show 2 < B0; omega)).trans g2) ((bel.cell (p := ⟨3, 0, none⟩) (by show 3 < B0; omega)).trans g3) ((bel.block _ gb).trans gx) ((bel.block _ gc).trans gy) hx
  clear hS
  go_enter Ybaf.func10, Ybaf.ntmps10
  go_wp2_with fail
  refine hcon.mono ?_
  rintro e w1 ⟨rfl, s1⟩
  go_wp2_with fail
  refine (HG.out w1 s1).mono ?_
  rintro e w2 ⟨rfl, rfl⟩
  go_wp2_with fail
  go_ret3
  exact ⟨s1, rfl⟩
end Go.Proofs.YbulkaewgFmt
