/-
  NARROWER THAN 'FOR EVERY INPUT', by the rows' own cells (each row's printed sentence says how): LawS1540BRaw: ifaces, laid · LawS1540BHex: ifaces, laid · LawS1540BFail: ifaces, laid.
  DERIVED. THE GIVEN ROWS OF THIS SEAT. 3 by the template 'for every input the law returns true; each argument reads behind the call as it read before'; 0 by the template 'total and deterministic' (their statements: YbulkaewgFmtTotals.lean).
  GIVEN WITH THE SEED: the statements are not yours to turn. If you find one false, say at which input.
  Laid BY PROGRAM, IN A SANDBOX (cutbox-rows.mjs): the forced cells as the released guide's own fill.sh prints them over the translation f0f48f9bd474a1d9… (all of the seat's roots in one cut). By AI agents, Wed Nov 11 2026. No macro, syntax, notation, axiom, sorry.
-/
import Derived.Test.YbulkaewgFmtChecked
import GoSem.Claim
import GoSem.ClaimJoined
import GoSem.ClaimMapViews
import Derived.JoinedTies
import Derived.KernelRfl
namespace Go.Proofs.YbulkaewgFmt
/- THE CELL 'sum', in the pinned program and in every row, IS THE sha256 OF THE DUMP (.gsa) THAT YbulkaewgFmtProg.lean LOADS. Nothing in Lean hashes anything: it is a label: what it is worth is what the hold of that sum in a sandbox is worth. -/
noncomputable def Ybaf.pinned : Pinned := { name := "ybulkaewgfmt", sum := "f0f48f9bd474a1d99edfbefc063c1ab5829595576740ac3500abfdadb85e235f", checked := Ybaf.checked }
namespace Rows
def none {H : Type} : Left H := { results := [], args := [] }

/- WHAT THE LISTED PACKAGE-LEVEL VARIABLES READ AS WHEN THE CALL BEGINS. Each datum BY PROGRAM (the guide's laid-datum.mjs) off the statement by which the dump's own 'gosem.cut.vars' lays the variable. In a bare row this is a premise. The card (YbulkaewgFmtCards.lean) ties it to the program's text. -/
def laid_io_ErrShortBuffer {H : Type} : DataW H := .iface "*errors.errorString" (.ptr (.agg [.lit (.string [115, 104, 111, 114, 116, 32, 98, 117, 102, 102, 101, 114])]))
def laid_io_EOF {H : Type} : DataW H := .iface "*errors.errorString" (.ptr (.agg [.lit (.string [69, 79, 70])]))
def laid_io_ErrUnexpectedEOF {H : Type} : DataW H := .iface "*errors.errorString" (.ptr (.agg [.lit (.string [117, 110, 101, 120, 112, 101, 99, 116, 101, 100, 32, 69, 79, 70])]))
def laid_encoding_hex_ErrLength {H : Type} : DataW H := .iface "*errors.errorString" (.ptr (.agg [.lit (.string [101, 110, 99, 111, 100, 105, 110, 103, 47, 104, 101, 120, 58, 32, 111, 100, 100, 32, 108, 101, 110, 103, 116, 104, 32, 104, 101, 120, 32, 115, 116, 114, 105, 110, 103])]))
def laid_example_com_oidlink_oidlink_specialPkts {H : Type} : DataW H := .agg [.lit (.int .i64 1), .lit (.int .i64 2), .lit (.int .i64 3)]
def laid_example_com_oidlink_oidlink_errCutShort {H : Type} : DataW H := .iface "*errors.errorString" (.ptr (.agg [.lit (.string [116, 104, 101, 32, 114, 101, 112, 108, 121, 32, 101, 110, 100, 115, 32, 101, 97, 114, 108, 121])]))

/-- 'oidlink.LawS1540BRaw': WHATEVER THE INPUT: true; the input reads as it did. -/
def lawS1540BRawSpec : ChangeSpec := { name := "lawS1540BRaw", vars := ["example.com/oidlink/oidlink.errCutShort", "example.com/oidlink/oidlink.specialPkts"], fn := fun _ => fun
  | [d1, d2, g1, g2] => { results := [.lit (.bool true)], args := [d1, d2], vars := [g1, g2] }
  | _ => none }
def lawS1540BRawRow : OpenClaim := { program := "ybulkaewgfmt", sum := "f0f48f9bd474a1d99edfbefc063c1ab5829595576740ac3500abfdadb85e235f", func := "example.com/oidlink/oidlink.LawS1540BRaw", spec := "lawS1540BRaw", stops := ["fmt.errorf"], inPlace := ["fmt.errorf"], unfollowed := true, recurses := true, named := ["example.com/oidlink/oidlink.errCutShort", "example.com/oidlink/oidlink.specialPkts", "io.ErrShortBuffer", "io.EOF", "io.ErrUnexpectedEOF", "encoding/hex.ErrLength"], ifaces := true, apart := false, laid := [("io.ErrShortBuffer", laid_io_ErrShortBuffer), ("io.EOF", laid_io_EOF), ("io.ErrUnexpectedEOF", laid_io_ErrUnexpectedEOF), ("encoding/hex.ErrLength", laid_encoding_hex_ErrLength), ("example.com/oidlink/oidlink.specialPkts", laid_example_com_oidlink_oidlink_specialPkts), ("example.com/oidlink/oidlink.errCutShort", laid_example_com_oidlink_oidlink_errCutShort)] }
/-- NO THEOREM (fmt's text is open here; it may be false): for the released tool's asking of the row's closed facts alone. THE STATEMENT IS 'LawS1540BRawToldSaid' (YbulkaewgFmtCards.lean). -/
def LawS1540BRawFormAsk : Prop := lawS1540BRawRow.holds Ybaf.pinned (OpenSpec.ofChange lawS1540BRawSpec)

/-- ITS FALSE NEIGHBOUR: 'it returns false'. Refute it at one input. -/
def lawS1540BRawWrong : ChangeSpec := { name := "lawS1540BRaw", vars := ["example.com/oidlink/oidlink.errCutShort", "example.com/oidlink/oidlink.specialPkts"], fn := fun _ => fun
  | [d1, d2, g1, g2] => { results := [.lit (.bool false)], args := [d1, d2], vars := [g1, g2] }
  | _ => none }
def LawS1540BRawWrongFormAsk : Prop := lawS1540BRawRow.holds Ybaf.pinned (OpenSpec.ofChange lawS1540BRawWrong)

/-- 'oidlink.LawS1540BHex': WHATEVER THE INPUT: true; the input reads as it did. -/
def lawS1540BHexSpec : ChangeSpec := { name := "lawS1540BHex", vars := ["example.com/oidlink/oidlink.errCutShort", "example.com/oidlink/oidlink.specialPkts"], fn := fun _ => fun
  | [d1, d2, d3, d4, g1, g2] => { results := [.lit (.bool true)], args := [d1, d2, d3, d4], vars := [g1, g2] }
  | _ => none }
def lawS1540BHexRow : OpenClaim := { program := "ybulkaewgfmt", sum := "f0f48f9bd474a1d99edfbefc063c1ab5829595576740ac3500abfdadb85e235f", func := "example.com/oidlink/oidlink.LawS1540BHex", spec := "lawS1540BHex", stops := ["fmt.errorf"], inPlace := ["fmt.errorf"], unfollowed := true, recurses := true, named := ["example.com/oidlink/oidlink.errCutShort", "example.com/oidlink/oidlink.specialPkts", "io.ErrShortBuffer", "io.EOF", "io.ErrUnexpectedEOF", "encoding/hex.ErrLength"], ifaces := true, apart := false, laid := [("io.ErrShortBuffer", laid_io_ErrShortBuffer), ("io.EOF", laid_io_EOF), ("io.ErrUnexpectedEOF", laid_io_ErrUnexpectedEOF), ("encoding/hex.ErrLength", laid_encoding_hex_ErrLength), ("example.com/oidlink/oidlink.specialPkts", laid_example_com_oidlink_oidlink_specialPkts), ("example.com/oidlink/oidlink.errCutShort", laid_example_com_oidlink_oidlink_errCutShort)] }
/-- NO THEOREM (fmt's text is open here; it may be false): for the released tool's asking of the row's closed facts alone. THE STATEMENT IS 'LawS1540BHexToldSaid' (YbulkaewgFmtCards.lean). -/
def LawS1540BHexFormAsk : Prop := lawS1540BHexRow.holds Ybaf.pinned (OpenSpec.ofChange lawS1540BHexSpec)

/-- ITS FALSE NEIGHBOUR: 'it returns false'. Refute it at one input. -/
def lawS1540BHexWrong : ChangeSpec := { name := "lawS1540BHex", vars := ["example.com/oidlink/oidlink.errCutShort", "example.com/oidlink/oidlink.specialPkts"], fn := fun _ => fun
  | [d1, d2, d3, d4, g1, g2] => { results := [.lit (.bool false)], args := [d1, d2, d3, d4], vars := [g1, g2] }
  | _ => none }
def LawS1540BHexWrongFormAsk : Prop := lawS1540BHexRow.holds Ybaf.pinned (OpenSpec.ofChange lawS1540BHexWrong)

/-- 'oidlink.LawS1540BFail': WHATEVER THE INPUT: true; the input reads as it did. -/
def lawS1540BFailSpec : ChangeSpec := { name := "lawS1540BFail", vars := ["example.com/oidlink/oidlink.specialPkts", "example.com/oidlink/oidlink.errCutShort"], fn := fun _ => fun
  | [d1, d2, g1, g2] => { results := [.lit (.bool true)], args := [d1, d2], vars := [g1, g2] }
  | _ => none }
def lawS1540BFailRow : OpenClaim := { program := "ybulkaewgfmt", sum := "f0f48f9bd474a1d99edfbefc063c1ab5829595576740ac3500abfdadb85e235f", func := "example.com/oidlink/oidlink.LawS1540BFail", spec := "lawS1540BFail", stops := ["fmt.errorf"], inPlace := ["fmt.errorf"], unfollowed := true, recurses := true, named := ["example.com/oidlink/oidlink.specialPkts", "io.ErrShortBuffer", "io.EOF", "io.ErrUnexpectedEOF", "example.com/oidlink/oidlink.errCutShort", "encoding/hex.ErrLength"], ifaces := true, apart := false, laid := [("io.ErrShortBuffer", laid_io_ErrShortBuffer), ("io.EOF", laid_io_EOF), ("io.ErrUnexpectedEOF", laid_io_ErrUnexpectedEOF), ("encoding/hex.ErrLength", laid_encoding_hex_ErrLength), ("example.com/oidlink/oidlink.specialPkts", laid_example_com_oidlink_oidlink_specialPkts), ("example.com/oidlink/oidlink.errCutShort", laid_example_com_oidlink_oidlink_errCutShort)] }
/-- NO THEOREM (fmt's text is open here; it may be false): for the released tool's asking of the row's closed facts alone. THE STATEMENT IS 'LawS1540BFailToldSaid' (YbulkaewgFmtCards.lean). -/
def LawS1540BFailFormAsk : Prop := lawS1540BFailRow.holds Ybaf.pinned (OpenSpec.ofChange lawS1540BFailSpec)

/-- ITS FALSE NEIGHBOUR: 'it returns false'. Refute it at one input. -/
def lawS1540BFailWrong : ChangeSpec := { name := "lawS1540BFail", vars := ["example.com/oidlink/oidlink.specialPkts", "example.com/oidlink/oidlink.errCutShort"], fn := fun _ => fun
  | [d1, d2, g1, g2] => { results := [.lit (.bool false)], args := [d1, d2], vars := [g1, g2] }
  | _ => none }
def LawS1540BFailWrongFormAsk : Prop := lawS1540BFailRow.holds Ybaf.pinned (OpenSpec.ofChange lawS1540BFailWrong)

end Rows
end Go.Proofs.YbulkaewgFmt
