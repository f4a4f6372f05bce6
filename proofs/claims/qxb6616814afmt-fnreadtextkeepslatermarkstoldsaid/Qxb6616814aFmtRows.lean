/-
  NARROWER THAN 'FOR EVERY INPUT', by the rows' own cells (each row's printed sentence says how): FnReadTextDropsOneLeadingMark: laid · FnReadTextKeepsLaterMarks: laid.
  DERIVED. THE GIVEN ROWS OF THIS SEAT. 2 by the template 'for every input the law returns true; each argument reads behind the call as it read before'; 0 by the template 'total and deterministic' (their statements: Qxb6616814aFmtTotals.lean).
  GIVEN WITH THE SEED: the statements are not yours to turn. If you find one false, say at which input.
  Laid BY PROGRAM, IN A SANDBOX (cutbox-rows.mjs): the forced cells as the released guide's own fill.sh prints them over the translation be2615b64ce44038… (all of the seat's roots in one cut). By AI agents, Wed Nov 11 2026. No macro, syntax, notation, axiom, sorry.
-/
import Derived.Test.Qxb6616814aFmtChecked
import GoSem.Claim
import GoSem.ClaimJoined
import GoSem.ClaimMapViews
import Derived.JoinedTies
import Derived.KernelRfl
namespace Go.Proofs.Qxb6616814aFmt
/- THE CELL 'sum', in the pinned program and in every row, IS THE sha256 OF THE DUMP (.gsa) THAT Qxb6616814aFmtProg.lean LOADS. Nothing in Lean hashes anything: it is a label: what it is worth is what the hold of that sum in a sandbox is worth. -/
noncomputable def Tryf.pinned : Pinned := { name := "qxb6616814afmt", sum := "be2615b64ce4403809801e6c058d8ae4991297b32c7df541932b5fdddbed03e5", checked := Tryf.checked }
namespace Rows
def none {H : Type} : Left H := { results := [], args := [] }

/- WHAT THE LISTED PACKAGE-LEVEL VARIABLES READ AS WHEN THE CALL BEGINS. Each datum BY PROGRAM (the guide's laid-datum.mjs) off the statement by which the dump's own 'gosem.cut.vars' lays the variable. In a bare row this is a premise. The card (Qxb6616814aFmtCards.lean) ties it to the program's text. -/
def laid_io_EOF {H : Type} : DataW H := .iface "*errors.errorString" (.ptr (.agg [.lit (.string [69, 79, 70])]))
def laid_io_ErrNoProgress {H : Type} : DataW H := .iface "*errors.errorString" (.ptr (.agg [.lit (.string [109, 117, 108, 116, 105, 112, 108, 101, 32, 82, 101, 97, 100, 32, 99, 97, 108, 108, 115, 32, 114, 101, 116, 117, 114, 110, 32, 110, 111, 32, 100, 97, 116, 97, 32, 111, 114, 32, 101, 114, 114, 111, 114])]))
def laid_bufio_ErrBufferFull {H : Type} : DataW H := .iface "*errors.errorString" (.ptr (.agg [.lit (.string [98, 117, 102, 105, 111, 58, 32, 98, 117, 102, 102, 101, 114, 32, 102, 117, 108, 108])]))
def laid_bufio_ErrNegativeCount {H : Type} : DataW H := .iface "*errors.errorString" (.ptr (.agg [.lit (.string [98, 117, 102, 105, 111, 58, 32, 110, 101, 103, 97, 116, 105, 118, 101, 32, 99, 111, 117, 110, 116])]))
def laid_bufio_errNegativeRead {H : Type} : DataW H := .iface "*errors.errorString" (.ptr (.agg [.lit (.string [98, 117, 102, 105, 111, 58, 32, 114, 101, 97, 100, 101, 114, 32, 114, 101, 116, 117, 114, 110, 101, 100, 32, 110, 101, 103, 97, 116, 105, 118, 101, 32, 99, 111, 117, 110, 116, 32, 102, 114, 111, 109, 32, 82, 101, 97, 100])]))

/-- 'zzlaws_vclog_b1.FnReadTextDropsOneLeadingMark': WHATEVER THE INPUT: true; the input reads as it did. -/
def fnReadTextDropsOneLeadingMarkSpec : ChangeSpec := { name := "fnReadTextDropsOneLeadingMark", fn := fun _ => fun
  | [d] => { results := [.lit (.bool true)], args := [d] }
  | _ => none }
def fnReadTextDropsOneLeadingMarkRow : OpenClaim := { program := "qxb6616814afmt", sum := "be2615b64ce4403809801e6c058d8ae4991297b32c7df541932b5fdddbed03e5", func := "example.com/beforehand/beforehand/zzlaws_vclog_b1.FnReadTextDropsOneLeadingMark", spec := "fnReadTextDropsOneLeadingMark", stops := ["fmt.errorf"], inPlace := ["fmt.errorf"], unfollowed := true, recurses := true, named := ["io.EOF", "bufio.ErrNegativeCount", "bufio.ErrBufferFull", "bufio.errNegativeRead", "io.ErrNoProgress"], apart := false, laid := [("io.EOF", laid_io_EOF), ("io.ErrNoProgress", laid_io_ErrNoProgress), ("bufio.ErrBufferFull", laid_bufio_ErrBufferFull), ("bufio.ErrNegativeCount", laid_bufio_ErrNegativeCount), ("bufio.errNegativeRead", laid_bufio_errNegativeRead)] }
/-- NO THEOREM (fmt's text is open here; it may be false): for the released tool's asking of the row's closed facts alone. THE STATEMENT IS 'FnReadTextDropsOneLeadingMarkToldSaid' (Qxb6616814aFmtCards.lean). -/
def FnReadTextDropsOneLeadingMarkFormAsk : Prop := fnReadTextDropsOneLeadingMarkRow.holds Tryf.pinned (OpenSpec.ofChange fnReadTextDropsOneLeadingMarkSpec)

/-- ITS FALSE NEIGHBOUR: 'it returns false'. Refute it at one input. -/
def fnReadTextDropsOneLeadingMarkWrong : ChangeSpec := { name := "fnReadTextDropsOneLeadingMark", fn := fun _ => fun
  | [d] => { results := [.lit (.bool false)], args := [d] }
  | _ => none }
def FnReadTextDropsOneLeadingMarkWrongFormAsk : Prop := fnReadTextDropsOneLeadingMarkRow.holds Tryf.pinned (OpenSpec.ofChange fnReadTextDropsOneLeadingMarkWrong)

/-- 'zzlaws_vclog_b1.FnReadTextKeepsLaterMarks': WHATEVER THE INPUT: true; the input reads as it did. -/
def fnReadTextKeepsLaterMarksSpec : ChangeSpec := { name := "fnReadTextKeepsLaterMarks", fn := fun _ => fun
  | [d1, d2] => { results := [.lit (.bool true)], args := [d1, d2] }
  | _ => none }
def fnReadTextKeepsLaterMarksRow : OpenClaim := { program := "qxb6616814afmt", sum := "be2615b64ce4403809801e6c058d8ae4991297b32c7df541932b5fdddbed03e5", func := "example.com/beforehand/beforehand/zzlaws_vclog_b1.FnReadTextKeepsLaterMarks", spec := "fnReadTextKeepsLaterMarks", stops := ["fmt.errorf"], inPlace := ["fmt.errorf"], unfollowed := true, recurses := true, named := ["io.EOF", "bufio.ErrNegativeCount", "bufio.ErrBufferFull", "bufio.errNegativeRead", "io.ErrNoProgress"], apart := false, laid := [("io.EOF", laid_io_EOF), ("io.ErrNoProgress", laid_io_ErrNoProgress), ("bufio.ErrBufferFull", laid_bufio_ErrBufferFull), ("bufio.ErrNegativeCount", laid_bufio_ErrNegativeCount), ("bufio.errNegativeRead", laid_bufio_errNegativeRead)] }
/-- NO THEOREM (fmt's text is open here; it may be false): for the released tool's asking of the row's closed facts alone. THE STATEMENT IS 'FnReadTextKeepsLaterMarksToldSaid' (Qxb6616814aFmtCards.lean). -/
def FnReadTextKeepsLaterMarksFormAsk : Prop := fnReadTextKeepsLaterMarksRow.holds Tryf.pinned (OpenSpec.ofChange fnReadTextKeepsLaterMarksSpec)

/-- ITS FALSE NEIGHBOUR: 'it returns false'. Refute it at one input. -/
def fnReadTextKeepsLaterMarksWrong : ChangeSpec := { name := "fnReadTextKeepsLaterMarks", fn := fun _ => fun
  | [d1, d2] => { results := [.lit (.bool false)], args := [d1, d2] }
  | _ => none }
def FnReadTextKeepsLaterMarksWrongFormAsk : Prop := fnReadTextKeepsLaterMarksRow.holds Tryf.pinned (OpenSpec.ofChange fnReadTextKeepsLaterMarksWrong)

end Rows
end Go.Proofs.Qxb6616814aFmt
