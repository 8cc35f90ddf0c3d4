/-
  No cell of these rows narrows 'for every input' (looked for: loops, veiled, ifaces, maps, wideKeys, modest, calm, conditions, laid).
  DERIVED. THE GIVEN ROWS OF THIS SEAT. 5 by the template 'for every input the law returns true; each argument reads behind the call as it read before'; 0 by the template 'total and deterministic' (their statements: YbulkaeuqTotals.lean).
  GIVEN WITH THE SEED: the statements are not yours to turn. If you find one false, say at which input.
  Laid BY PROGRAM, IN A SANDBOX (cutbox-rows.mjs): the forced cells as the released guide's own fill.sh prints them over the translation da5cc7f8cb135204… (all of the seat's roots in one cut). By AI agents, Wed Nov 11 2026. No macro, syntax, notation, axiom, sorry.
-/
import Derived.Test.YbulkaeuqChecked
import GoSem.Claim
import GoSem.ClaimJoined
import GoSem.ClaimMapViews
import Derived.JoinedTies
import Derived.KernelRfl
namespace Go.Proofs.Ybulkaeuq
/- THE CELL 'sum', in the pinned program and in every row, IS THE sha256 OF THE DUMP (.gsa) THAT YbulkaeuqProg.lean LOADS. Nothing in Lean hashes anything: it is a label: what it is worth is what the hold of that sum in a sandbox is worth. -/
noncomputable def Yba.pinned : Pinned := { name := "ybulkaeuq", sum := "da5cc7f8cb135204228dfbfaca3431615067963dc3cab6074577cde8952469e9", checked := Yba.checked }
namespace Rows
def none {H : Type} : Left H := { results := [], args := [] }

/-- 'timerqueue.LawS1537ADown': WHATEVER THE INPUT: true; the input reads as it did. -/
def lawS1537ADownSpec : ChangeSpec := { name := "lawS1537ADown", fn := fun _ => fun
  | [d1, d2, d3] => { results := [.lit (.bool true)], args := [d1, d2, d3] }
  | _ => none }
def lawS1537ADownRow : OpenClaim := { program := "ybulkaeuq", sum := "da5cc7f8cb135204228dfbfaca3431615067963dc3cab6074577cde8952469e9", func := "example.com/tocker/tocker/internal/timerqueue.LawS1537ADown", spec := "lawS1537ADown", recurses := true, apart := false }
def LawS1537ADownSaid : Prop := lawS1537ADownRow.holds Yba.pinned (OpenSpec.ofChange lawS1537ADownSpec)

/-- ITS FALSE NEIGHBOUR: 'it returns false'. Refute it at one input. -/
def lawS1537ADownWrong : ChangeSpec := { name := "lawS1537ADown", fn := fun _ => fun
  | [d1, d2, d3] => { results := [.lit (.bool false)], args := [d1, d2, d3] }
  | _ => none }
def LawS1537ADownWrongFalsely : Prop := lawS1537ADownRow.holds Yba.pinned (OpenSpec.ofChange lawS1537ADownWrong)

/-- 'deadline.LawS1537BExact': WHATEVER THE INPUT: true; the input reads as it did. -/
def lawS1537BExactSpec : ChangeSpec := { name := "lawS1537BExact", fn := fun _ => fun
  | [d1, d2] => { results := [.lit (.bool true)], args := [d1, d2] }
  | _ => none }
def lawS1537BExactRow : OpenClaim := { program := "ybulkaeuq", sum := "da5cc7f8cb135204228dfbfaca3431615067963dc3cab6074577cde8952469e9", func := "example.com/tocker/tocker/internal/deadline.LawS1537BExact", spec := "lawS1537BExact", apart := false }
def LawS1537BExactSaid : Prop := lawS1537BExactRow.holds Yba.pinned (OpenSpec.ofChange lawS1537BExactSpec)

/-- ITS FALSE NEIGHBOUR: 'it returns false'. Refute it at one input. -/
def lawS1537BExactWrong : ChangeSpec := { name := "lawS1537BExact", fn := fun _ => fun
  | [d1, d2] => { results := [.lit (.bool false)], args := [d1, d2] }
  | _ => none }
def LawS1537BExactWrongFalsely : Prop := lawS1537BExactRow.holds Yba.pinned (OpenSpec.ofChange lawS1537BExactWrong)

/-- 'deadline.LawS1537BMonotone': WHATEVER THE INPUT: true; the input reads as it did. -/
def lawS1537BMonotoneSpec : ChangeSpec := { name := "lawS1537BMonotone", fn := fun _ => fun
  | [d1, d2, d3] => { results := [.lit (.bool true)], args := [d1, d2, d3] }
  | _ => none }
def lawS1537BMonotoneRow : OpenClaim := { program := "ybulkaeuq", sum := "da5cc7f8cb135204228dfbfaca3431615067963dc3cab6074577cde8952469e9", func := "example.com/tocker/tocker/internal/deadline.LawS1537BMonotone", spec := "lawS1537BMonotone", apart := false }
def LawS1537BMonotoneSaid : Prop := lawS1537BMonotoneRow.holds Yba.pinned (OpenSpec.ofChange lawS1537BMonotoneSpec)

/-- ITS FALSE NEIGHBOUR: 'it returns false'. Refute it at one input. -/
def lawS1537BMonotoneWrong : ChangeSpec := { name := "lawS1537BMonotone", fn := fun _ => fun
  | [d1, d2, d3] => { results := [.lit (.bool false)], args := [d1, d2, d3] }
  | _ => none }
def LawS1537BMonotoneWrongFalsely : Prop := lawS1537BMonotoneRow.holds Yba.pinned (OpenSpec.ofChange lawS1537BMonotoneWrong)

/-- 'timerqueue.LawS1537CPartMove': WHATEVER THE INPUT: true; the input reads as it did. -/
def lawS1537CPartMoveSpec : ChangeSpec := { name := "lawS1537CPartMove", fn := fun _ => fun
  | [d1, d2] => { results := [.lit (.bool true)], args := [d1, d2] }
  | _ => none }
def lawS1537CPartMoveRow : OpenClaim := { program := "ybulkaeuq", sum := "da5cc7f8cb135204228dfbfaca3431615067963dc3cab6074577cde8952469e9", func := "example.com/tocker/tocker/internal/timerqueue.LawS1537CPartMove", spec := "lawS1537CPartMove", unfollowed := true, recurses := true, apart := false }
def LawS1537CPartMoveSaid : Prop := lawS1537CPartMoveRow.holds Yba.pinned (OpenSpec.ofChange lawS1537CPartMoveSpec)

/-- ITS FALSE NEIGHBOUR: 'it returns false'. Refute it at one input. -/
def lawS1537CPartMoveWrong : ChangeSpec := { name := "lawS1537CPartMove", fn := fun _ => fun
  | [d1, d2] => { results := [.lit (.bool false)], args := [d1, d2] }
  | _ => none }
def LawS1537CPartMoveWrongFalsely : Prop := lawS1537CPartMoveRow.holds Yba.pinned (OpenSpec.ofChange lawS1537CPartMoveWrong)

/-- 'timerqueue.LawS1537CWholeMove': WHATEVER THE INPUT: true; the input reads as it did. -/
def lawS1537CWholeMoveSpec : ChangeSpec := { name := "lawS1537CWholeMove", fn := fun _ => fun
  | [d1, d2] => { results := [.lit (.bool true)], args := [d1, d2] }
  | _ => none }
def lawS1537CWholeMoveRow : OpenClaim := { program := "ybulkaeuq", sum := "da5cc7f8cb135204228dfbfaca3431615067963dc3cab6074577cde8952469e9", func := "example.com/tocker/tocker/internal/timerqueue.LawS1537CWholeMove", spec := "lawS1537CWholeMove", unfollowed := true, recurses := true, apart := false }
def LawS1537CWholeMoveSaid : Prop := lawS1537CWholeMoveRow.holds Yba.pinned (OpenSpec.ofChange lawS1537CWholeMoveSpec)

/-- ITS FALSE NEIGHBOUR: 'it returns false'. Refute it at one input. -/
def lawS1537CWholeMoveWrong : ChangeSpec := { name := "lawS1537CWholeMove", fn := fun _ => fun
  | [d1, d2] => { results := [.lit (.bool false)], args := [d1, d2] }
  | _ => none }
def LawS1537CWholeMoveWrongFalsely : Prop := lawS1537CWholeMoveRow.holds Yba.pinned (OpenSpec.ofChange lawS1537CWholeMoveWrong)

end Rows
end Go.Proofs.Ybulkaeuq
