/-
  DERIVED. GIVEN WITH THE SEED: THE CARDS: each row of YbulkaewgFmtRows.lean that lists a variable, with what it lists TIED to the program's text (the seventh form; the later family's looks); each row that meets fmt, with fmt's text TOLD by the authors' own Lean function (tested against real Go, not proved from fmt's source: count such statements apart). THE CARD IS WHAT COUNTS. Prove the row's statement (the work); the ties are given (YbulkaewgFmtTie.lean); close each card by the builder's one call (the guide's Derived/Test/ToyasCard.lean, 'card_holds'). Laid BY PROGRAM, IN A SANDBOX (cutbox-door.mjs). By AI agents, Wed Nov 11 2026. No macro, syntax, notation, axiom, sorry.
-/
import Derived.Test.YbulkaewgFmtRows
import GoSem.ClaimSeven
namespace Go.Proofs.YbulkaewgFmt
namespace Rows

/-- THE TOLD AND TIED CARD OF 'oidlink.LawS1540BRaw'. -/
def lawS1540BRawCard : Claim7 := { stood := { row := lawS1540BRawRow, standIns := [], harness := (true, "634e09af6821a2d034a4e3c539aec9911911187309a9aa131c7d09e7d3cc52ab"), looks := true }, told := true, laidByText := true, laidKinds := [.sentinel, .sentinel, .sentinel, .sentinel, .data, .sentinel], laidTests := true, laidLooks := .later, goes := false }
def LawS1540BRawToldSaid : Prop := Claim7.holds Ybaf.pinned (.plain (OpenSpec.ofChange lawS1540BRawSpec)) lawS1540BRawCard
/-- ITS FALSE NEIGHBOUR. Refute it at one input. -/
def LawS1540BRawToldWrongFalsely : Prop := Claim7.holds Ybaf.pinned (.plain (OpenSpec.ofChange lawS1540BRawWrong)) lawS1540BRawCard

/-- THE TOLD AND TIED CARD OF 'oidlink.LawS1540BHex'. -/
def lawS1540BHexCard : Claim7 := { stood := { row := lawS1540BHexRow, standIns := [], harness := (true, "634e09af6821a2d034a4e3c539aec9911911187309a9aa131c7d09e7d3cc52ab"), looks := true }, told := true, laidByText := true, laidKinds := [.sentinel, .sentinel, .sentinel, .sentinel, .data, .sentinel], laidTests := true, laidLooks := .later, goes := false }
def LawS1540BHexToldSaid : Prop := Claim7.holds Ybaf.pinned (.plain (OpenSpec.ofChange lawS1540BHexSpec)) lawS1540BHexCard
/-- ITS FALSE NEIGHBOUR. Refute it at one input. -/
def LawS1540BHexToldWrongFalsely : Prop := Claim7.holds Ybaf.pinned (.plain (OpenSpec.ofChange lawS1540BHexWrong)) lawS1540BHexCard

/-- THE TOLD AND TIED CARD OF 'oidlink.LawS1540BFail'. -/
def lawS1540BFailCard : Claim7 := { stood := { row := lawS1540BFailRow, standIns := [], harness := (true, "634e09af6821a2d034a4e3c539aec9911911187309a9aa131c7d09e7d3cc52ab"), looks := true }, told := true, laidByText := true, laidKinds := [.sentinel, .sentinel, .sentinel, .sentinel, .data, .sentinel], laidTests := true, laidLooks := .later, goes := false }
def LawS1540BFailToldSaid : Prop := Claim7.holds Ybaf.pinned (.plain (OpenSpec.ofChange lawS1540BFailSpec)) lawS1540BFailCard
/-- ITS FALSE NEIGHBOUR. Refute it at one input. -/
def LawS1540BFailToldWrongFalsely : Prop := Claim7.holds Ybaf.pinned (.plain (OpenSpec.ofChange lawS1540BFailWrong)) lawS1540BFailCard
end Rows
end Go.Proofs.YbulkaewgFmt
