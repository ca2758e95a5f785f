/-
  NARROWER THAN 'FOR EVERY INPUT', by the rows' own cells (each row's printed sentence says how): LawS0729BEnhanced: laid · LawS0729BSection: laid.
  DERIVED. THE GIVEN ROWS OF THIS SEAT. 2 by the template 'for every input the law returns true; each argument reads behind the call as it read before'; 0 by the template 'total and deterministic' (their statements: YbulkoboFmtTotals.lean).
  GIVEN WITH THE SEED: the statements are not yours to turn. If you find one false, say at which input.
  Laid BY PROGRAM, IN A SANDBOX (cutbox-rows.mjs): the forced cells as the released guide's own fill.sh prints them over the translation fcf9f68d594e4106… (all of the seat's roots in one cut). By AI agents, Wed Nov 11 2026. No macro, syntax, notation, axiom, sorry.
-/
import Derived.Test.YbulkoboFmtChecked
import GoSem.Claim
import GoSem.ClaimJoined
import GoSem.ClaimMapViews
import Derived.JoinedTies
import Derived.KernelRfl
namespace Go.Proofs.YbulkoboFmt
/- THE CELL 'sum', in the pinned program and in every row, IS THE sha256 OF THE DUMP (.gsa) THAT YbulkoboFmtProg.lean LOADS. Nothing in Lean hashes anything: it is a label: what it is worth is what the hold of that sum in a sandbox is worth. -/
noncomputable def Ybaf.pinned : Pinned := { name := "ybulkobofmt", sum := "fcf9f68d594e4106a6617d37f7991ad3e577c64fb37b91f92ae993a477283ea1", checked := Ybaf.checked }
namespace Rows
def none {H : Type} : Left H := { results := [], args := [] }

/- WHAT THE LISTED PACKAGE-LEVEL VARIABLES READ AS WHEN THE CALL BEGINS. Each datum BY PROGRAM (the guide's laid-datum.mjs) off the statement by which the dump's own 'gosem.cut.vars' lays the variable. In a bare row this is a premise. The card (YbulkoboFmtCards.lean) ties it to the program's text. -/
def laid_io_ErrShortBuffer {H : Type} : DataW H := .iface "*errors.errorString" (.ptr (.agg [.lit (.string [115, 104, 111, 114, 116, 32, 98, 117, 102, 102, 101, 114])]))
def laid_io_EOF {H : Type} : DataW H := .iface "*errors.errorString" (.ptr (.agg [.lit (.string [69, 79, 70])]))
def laid_io_ErrUnexpectedEOF {H : Type} : DataW H := .iface "*errors.errorString" (.ptr (.agg [.lit (.string [117, 110, 101, 120, 112, 101, 99, 116, 101, 100, 32, 69, 79, 70])]))

/-- 'capture.LawS0729BEnhanced': WHATEVER THE INPUT: true; the input reads as it did. -/
def lawS0729BEnhancedSpec : ChangeSpec := { name := "lawS0729BEnhanced", fn := fun _ => fun
  | [d1, d2, d3, d4, d5] => { results := [.lit (.bool true)], args := [d1, d2, d3, d4, d5] }
  | _ => none }
def lawS0729BEnhancedRow : OpenClaim := { program := "ybulkobofmt", sum := "fcf9f68d594e4106a6617d37f7991ad3e577c64fb37b91f92ae993a477283ea1", func := "example.com/suitetrace/suitetrace/internal/capture.LawS0729BEnhanced", spec := "lawS0729BEnhanced", stops := ["fmt.errorf", "fmt.Sprintf"], inPlace := ["internal/reflectlite.TypeOf", "fmt.errorf", "fmt.Sprintf"], unfollowed := true, recurses := true, named := ["encoding/binary.LittleEndian", "encoding/binary.BigEndian", "io.EOF", "io.ErrShortBuffer", "io.ErrUnexpectedEOF"], apart := false, laid := [("io.ErrShortBuffer", laid_io_ErrShortBuffer), ("io.EOF", laid_io_EOF), ("io.ErrUnexpectedEOF", laid_io_ErrUnexpectedEOF)] }
/-- NO THEOREM (fmt's text is open here; it may be false): for the released tool's asking of the row's closed facts alone. THE STATEMENT IS 'LawS0729BEnhancedToldSaid' (YbulkoboFmtCards.lean). -/
def LawS0729BEnhancedFormAsk : Prop := lawS0729BEnhancedRow.holds Ybaf.pinned (OpenSpec.ofChange lawS0729BEnhancedSpec)

/-- ITS FALSE NEIGHBOUR: 'it returns false'. Refute it at one input. -/
def lawS0729BEnhancedWrong : ChangeSpec := { name := "lawS0729BEnhanced", fn := fun _ => fun
  | [d1, d2, d3, d4, d5] => { results := [.lit (.bool false)], args := [d1, d2, d3, d4, d5] }
  | _ => none }
def LawS0729BEnhancedWrongFormAsk : Prop := lawS0729BEnhancedRow.holds Ybaf.pinned (OpenSpec.ofChange lawS0729BEnhancedWrong)

/-- 'capture.LawS0729BSection': WHATEVER THE INPUT: true; the input reads as it did. -/
def lawS0729BSectionSpec : ChangeSpec := { name := "lawS0729BSection", fn := fun _ => fun
  | [d1, d2, d3, d4] => { results := [.lit (.bool true)], args := [d1, d2, d3, d4] }
  | _ => none }
def lawS0729BSectionRow : OpenClaim := { program := "ybulkobofmt", sum := "fcf9f68d594e4106a6617d37f7991ad3e577c64fb37b91f92ae993a477283ea1", func := "example.com/suitetrace/suitetrace/internal/capture.LawS0729BSection", spec := "lawS0729BSection", stops := ["fmt.errorf", "fmt.Sprintf"], inPlace := ["internal/reflectlite.TypeOf", "fmt.errorf", "fmt.Sprintf"], unfollowed := true, recurses := true, named := ["encoding/binary.BigEndian", "encoding/binary.LittleEndian", "io.EOF", "io.ErrShortBuffer", "io.ErrUnexpectedEOF"], apart := false, laid := [("io.ErrShortBuffer", laid_io_ErrShortBuffer), ("io.EOF", laid_io_EOF), ("io.ErrUnexpectedEOF", laid_io_ErrUnexpectedEOF)] }
/-- NO THEOREM (fmt's text is open here; it may be false): for the released tool's asking of the row's closed facts alone. THE STATEMENT IS 'LawS0729BSectionToldSaid' (YbulkoboFmtCards.lean). -/
def LawS0729BSectionFormAsk : Prop := lawS0729BSectionRow.holds Ybaf.pinned (OpenSpec.ofChange lawS0729BSectionSpec)

/-- ITS FALSE NEIGHBOUR: 'it returns false'. Refute it at one input. -/
def lawS0729BSectionWrong : ChangeSpec := { name := "lawS0729BSection", fn := fun _ => fun
  | [d1, d2, d3, d4] => { results := [.lit (.bool false)], args := [d1, d2, d3, d4] }
  | _ => none }
def LawS0729BSectionWrongFormAsk : Prop := lawS0729BSectionRow.holds Ybaf.pinned (OpenSpec.ofChange lawS0729BSectionWrong)

end Rows
end Go.Proofs.YbulkoboFmt
