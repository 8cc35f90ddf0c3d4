import Derived.Test.YbulkaeuqRows
import Derived.WalkKit
import Derived.ProofKit
import Derived.OpenShut
import Derived.ShutString
namespace Go.Proofs.Ybulkaeuq
open Go.ChangeShapes Go.WideShapes Go.ChangeAt Go.RowKit

/-- What deadline.Add answers: a plain function. -/
def addS (now d : Int) : Int := if d ≤ 0 then now else if 9223372036854775807 - d < now then 9223372036854775807 else now + d

set_option maxHeartbeats 400000 in
theorem add_calls (now d : Int) (w : World) (h1 : -9223372036854775808 ≤ now) (h2 : now ≤ 9223372036854775807) (h3 : -9223372036854775808 ≤ d) (h4 : d ≤ 9223372036854775807) :
    Calls Yba.prog 12 #[.int .i64 now, .int .i64 d] w fun e w' => e = .returned (.int .i64 (addS now d)) ∧ w' = w := by
  by_cases c1 : d ≤ 0
  · have e : addS now d = now := by unfold addS; rw [if_pos c1]
    rw [e]
    go_enter Yba.func12, Yba.ntmps12
    go_wp2
    go_ret
    exact ⟨rfl, rfl⟩
  · by_cases c2 : 9223372036854775807 - d < now
    · have e : addS now d = 9223372036854775807 := by unfold addS; rw [if_neg c1, if_pos c2]
      rw [e]
      go_enter Yba.func12, Yba.ntmps12
      go_wp2
      go_ret
      exact ⟨rfl, rfl⟩
    · have e : addS now d = now + d := by unfold addS; rw [if_neg c1, if_neg c2]
      rw [e]
      go_enter Yba.func12, Yba.ntmps12
      go_wp2
      go_ret
      exact ⟨rfl, rfl⟩
end Go.Proofs.Ybulkaeuq
