/-
  DERIVED. GIVEN WITH THE SEED: THE CARDS: each row of Qxb6616814aFmtRows.lean that lists a variable, with what it lists TIED to the program's text (the seventh form; the later family's looks); each row that meets fmt, with fmt's text TOLD by the authors' own Lean function (tested against real Go, not proved from fmt's source: count such statements apart). THE CARD IS WHAT COUNTS. Prove the row's statement (the work); the ties are given (Qxb6616814aFmtTie.lean); close each card by the builder's one call (the guide's Derived/Test/ToyasCard.lean, 'card_holds'). Laid BY PROGRAM, IN A SANDBOX (cutbox-door.mjs). By AI agents, Wed Nov 11 2026. No macro, syntax, notation, axiom, sorry.
-/
import Derived.Test.Qxb6616814aFmtRows
import GoSem.ClaimSeven
namespace Go.Proofs.Qxb6616814aFmt
namespace Rows

/-- THE TOLD AND TIED CARD OF 'zzlaws_vclog_b1.FnReadTextDropsOneLeadingMark'. -/
def fnReadTextDropsOneLeadingMarkCard : Claim7 := { stood := { row := fnReadTextDropsOneLeadingMarkRow, standIns := [], harness := (true, "a5e46375a9eeb067216353ec2d547d27fec13037f626baa90b9bd754c09ee550"), looks := true }, told := true, laidByText := true, laidKinds := [.sentinel, .sentinel, .sentinel, .sentinel, .sentinel], laidTests := true, laidLooks := .later, goes := false }
def FnReadTextDropsOneLeadingMarkToldSaid : Prop := Claim7.holds Tryf.pinned (.plain (OpenSpec.ofChange fnReadTextDropsOneLeadingMarkSpec)) fnReadTextDropsOneLeadingMarkCard
/-- ITS FALSE NEIGHBOUR. Refute it at one input. -/
def FnReadTextDropsOneLeadingMarkToldWrongFalsely : Prop := Claim7.holds Tryf.pinned (.plain (OpenSpec.ofChange fnReadTextDropsOneLeadingMarkWrong)) fnReadTextDropsOneLeadingMarkCard

/-- THE TOLD AND TIED CARD OF 'zzlaws_vclog_b1.FnReadTextKeepsLaterMarks'. -/
def fnReadTextKeepsLaterMarksCard : Claim7 := { stood := { row := fnReadTextKeepsLaterMarksRow, standIns := [], harness := (true, "a5e46375a9eeb067216353ec2d547d27fec13037f626baa90b9bd754c09ee550"), looks := true }, told := true, laidByText := true, laidKinds := [.sentinel, .sentinel, .sentinel, .sentinel, .sentinel], laidTests := true, laidLooks := .later, goes := false }
def FnReadTextKeepsLaterMarksToldSaid : Prop := Claim7.holds Tryf.pinned (.plain (OpenSpec.ofChange fnReadTextKeepsLaterMarksSpec)) fnReadTextKeepsLaterMarksCard
/-- ITS FALSE NEIGHBOUR. Refute it at one input. -/
def FnReadTextKeepsLaterMarksToldWrongFalsely : Prop := Claim7.holds Tryf.pinned (.plain (OpenSpec.ofChange fnReadTextKeepsLaterMarksWrong)) fnReadTextKeepsLaterMarksCard
end Rows
end Go.Proofs.Qxb6616814aFmt
