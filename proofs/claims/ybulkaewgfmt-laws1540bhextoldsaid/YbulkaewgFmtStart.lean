/-
  One start that fits: the six listed variables as their initialisers lay them. By the prover of seat b1540aF.
-/
import Derived.Test.YbulkaewgFmtLaid
import Derived.Stop.JoinedAt
import Derived.Stop.JoinedTold
import Derived.LaidLaws
import Derived.ProofKit
import Derived.OpenShut
import Derived.OpenVars
namespace Go.Proofs.YbulkaewgFmt
open Go.RowKit Go.Stop Go.Extern.Stop Go.Extern Go

/-- the first block behind the variables' own -/
def lowOf (P : Program) (os : Os) : Nat := (World.holding P os ⟨#[], #[], []⟩).heap.size
def putVar (h : Array Obj) (g : Nat) (cs : Array Value) : Array Obj := h.modify g fun
  | .cells _ t frozen => .cells cs t frozen
  | o => o
def laidWorldOf (P : Program) (os : Os) : World :=
  let w0 := World.holding P os ⟨#[.cells #[.string ⟨#[115, 104, 111, 114, 116, 32, 98, 117, 102, 102, 101, 114]⟩] 45, .cells #[.string ⟨#[69, 79, 70]⟩] 45, .cells #[.string ⟨#[117, 110, 101, 120, 112, 101, 99, 116, 101, 100, 32, 69, 79, 70]⟩] 45, .cells #[.string ⟨#[101, 110, 99, 111, 100, 105, 110, 103, 47, 104, 101, 120, 58, 32, 111, 100, 100, 32, 108, 101, 110, 103, 116, 104, 32, 104, 101, 120, 32, 115, 116, 114, 105, 110, 103]⟩] 45, .cells #[.string ⟨#[116, 104, 101, 32, 114, 101, 112, 108, 121, 32, 101, 110, 100, 115, 32, 101, 97, 114, 108, 121]⟩] 45], #[], []⟩
  let low := lowOf P os
  { w0 with heap := putVar (putVar (putVar (putVar (putVar (putVar w0.heap 5 #[.iface 43 (.pointer (some ⟨low, 0, none⟩))]) 2 #[.iface 43 (.pointer (some ⟨low + 1, 0, none⟩))]) 3 #[.iface 43 (.pointer (some ⟨low + 2, 0, none⟩))]) 4 #[.iface 43 (.pointer (some ⟨low + 3, 0, none⟩))]) 1 #[.int .i64 1, .int .i64 2, .int .i64 3]) 0 #[.iface 43 (.pointer (some ⟨low + 4, 0, none⟩))] }

theorem laid_met (os : Os) (args : Array Value) : laidMet Ybaf.prog Rows.lawS1540BFailRow.laid ((laidWorldOf Ybaf.prog os).forCall (fun _ _ => 0) ⟨#[], args, []⟩).memory :=
  laidMet_of_run (ps := [.cell 5 0, .cell (lowOf Ybaf.prog os) 0, .cell 2 0, .cell (lowOf Ybaf.prog os + 1) 0, .cell 3 0, .cell (lowOf Ybaf.prog os + 2) 0, .cell 4 0, .cell (lowOf Ybaf.prog os + 3) 0, .cell 1 0, .cell 1 1, .cell 1 2, .cell 0 0, .cell (lowOf Ybaf.prog os + 4) 0]) 8 (by kernel_rfl) (by kernel_rfl) (by kernel_rfl)
end Go.Proofs.YbulkaewgFmt
