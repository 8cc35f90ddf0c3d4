/-
  The zero value of pktReader (65,522 cells): what the walks want of it. By the prover of seat b1540aF.
-/
import Derived.Test.YbulkaewgFmtRows
import Derived.WalkKit
namespace Go.Proofs.YbulkaewgFmt
open Go.RowKit

def aggOf (v : Option Value) : Array Value := match v with
  | some (.agg c) => c
  | _ => #[]

theorem zero50_run (w : World) : (zeroValue 50).run Ybaf.prog w = .ok (.agg (aggOf Ybaf.t50.zero)) w := by kernel_rfl
theorem zero50_1 : (aggOf Ybaf.t50.zero)[1]? = some (.int .u8 0) := by kernel_rfl
theorem zero50_2 : (aggOf Ybaf.t50.zero)[2]? = some (.int .u8 0) := by kernel_rfl
theorem zero50_3 : (aggOf Ybaf.t50.zero)[3]? = some (.int .u8 0) := by kernel_rfl
theorem zero50_4 : (aggOf Ybaf.t50.zero)[4]? = some (.int .u8 0) := by kernel_rfl

/-- the zero's cells under a name, so that no walk lays them open -/
theorem zero50_ex : ∃ Z : Array Value, (∀ w, (zeroValue 50).run Ybaf.prog w = .ok (.agg Z) w) ∧ Z ≠ #[] ∧ 4 < Z.size ∧ ∀ j, j < 4 → Z[1 + j]? = some (.int .u8 0) := by
  have h1 := zero50_1
  have h2 := zero50_2
  have h3 := zero50_3
  have h4 := zero50_4
  have hr := zero50_run
  generalize aggOf Ybaf.t50.zero = Z at *
  have hs : 4 < Z.size := by
    rcases Nat.lt_or_ge 4 Z.size with h | h
    · exact h
    · rw [Array.getElem?_eq_none h] at h4; cases h4
  refine ⟨Z, hr, fun e => by rw [e] at hs; simp at hs, hs, ?_⟩
  intro j hj
  match j, hj with
  | 0, _ => exact h1
  | 1, _ => exact h2
  | 2, _ => exact h3
  | 3, _ => exact h4
end Go.Proofs.YbulkaewgFmt
