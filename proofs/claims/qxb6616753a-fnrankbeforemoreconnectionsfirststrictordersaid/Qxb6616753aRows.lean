/-
  No cell of these rows narrows 'for every input' (looked for: loops, veiled, ifaces, maps, wideKeys, modest, calm, conditions, laid).
  DERIVED. THE GIVEN ROWS OF THIS SEAT. 4 by the template 'for every input the law returns true; each argument reads behind the call as it read before'; 0 by the template 'total and deterministic' (their statements: Qxb6616753aTotals.lean).
  GIVEN WITH THE SEED: the statements are not yours to turn. If you find one false, say at which input.
  Laid BY PROGRAM, IN A SANDBOX (cutbox-rows.mjs): the forced cells as the released guide's own fill.sh prints them over the translation 39393520110192a5… (all of the seat's roots in one cut). By AI agents, Wed Nov 11 2026. No macro, syntax, notation, axiom, sorry.
-/
import Derived.Test.Qxb6616753aChecked
import GoSem.Claim
import GoSem.ClaimJoined
import GoSem.ClaimMapViews
import Derived.JoinedTies
import Derived.KernelRfl
namespace Go.Proofs.Qxb6616753a
/- THE CELL 'sum', in the pinned program and in every row, IS THE sha256 OF THE DUMP (.gsa) THAT Qxb6616753aProg.lean LOADS. Nothing in Lean hashes anything: it is a label: what it is worth is what the hold of that sum in a sandbox is worth. -/
noncomputable def Try.pinned : Pinned := { name := "qxb6616753a", sum := "39393520110192a5e6c05c539d3ad03847e452044788edf1c3d5e006b5e6f36c", checked := Try.checked }
namespace Rows
def none {H : Type} : Left H := { results := [], args := [] }

/-- 'zzlaws_internal_node_b1.FnConnLimitStepsByZeroOrOneAndReservesUpToHalf': WHATEVER THE INPUT: true; the input reads as it did. -/
def fnConnLimitStepsByZeroOrOneAndReservesUpToHalfSpec : ChangeSpec := { name := "fnConnLimitStepsByZeroOrOneAndReservesUpToHalf", fn := fun _ => fun
  | [d] => { results := [.lit (.bool true)], args := [d] }
  | _ => none }
def fnConnLimitStepsByZeroOrOneAndReservesUpToHalfRow : OpenClaim := { program := "qxb6616753a", sum := "39393520110192a5e6c05c539d3ad03847e452044788edf1c3d5e006b5e6f36c", func := "example.com/murmuration/murmuration/zzlaws_internal_node_b1.FnConnLimitStepsByZeroOrOneAndReservesUpToHalf", spec := "fnConnLimitStepsByZeroOrOneAndReservesUpToHalf", plainKeys := false, apart := false }
def FnConnLimitStepsByZeroOrOneAndReservesUpToHalfSaid : Prop := fnConnLimitStepsByZeroOrOneAndReservesUpToHalfRow.holds Try.pinned (OpenSpec.ofChange fnConnLimitStepsByZeroOrOneAndReservesUpToHalfSpec)

/-- ITS FALSE NEIGHBOUR: 'it returns false'. Refute it at one input. -/
def fnConnLimitStepsByZeroOrOneAndReservesUpToHalfWrong : ChangeSpec := { name := "fnConnLimitStepsByZeroOrOneAndReservesUpToHalf", fn := fun _ => fun
  | [d] => { results := [.lit (.bool false)], args := [d] }
  | _ => none }
def FnConnLimitStepsByZeroOrOneAndReservesUpToHalfWrongFalsely : Prop := fnConnLimitStepsByZeroOrOneAndReservesUpToHalfRow.holds Try.pinned (OpenSpec.ofChange fnConnLimitStepsByZeroOrOneAndReservesUpToHalfWrong)

/-- 'zzlaws_internal_node_b1.FnConnLimitMonotoneReserveBetweenEighthAnd1024': WHATEVER THE INPUT: true; the input reads as it did. -/
def fnConnLimitMonotoneReserveBetweenEighthAnd1024Spec : ChangeSpec := { name := "fnConnLimitMonotoneReserveBetweenEighthAnd1024", fn := fun _ => fun
  | [d1, d2] => { results := [.lit (.bool true)], args := [d1, d2] }
  | _ => none }
def fnConnLimitMonotoneReserveBetweenEighthAnd1024Row : OpenClaim := { program := "qxb6616753a", sum := "39393520110192a5e6c05c539d3ad03847e452044788edf1c3d5e006b5e6f36c", func := "example.com/murmuration/murmuration/zzlaws_internal_node_b1.FnConnLimitMonotoneReserveBetweenEighthAnd1024", spec := "fnConnLimitMonotoneReserveBetweenEighthAnd1024", plainKeys := false, apart := false }
def FnConnLimitMonotoneReserveBetweenEighthAnd1024Said : Prop := fnConnLimitMonotoneReserveBetweenEighthAnd1024Row.holds Try.pinned (OpenSpec.ofChange fnConnLimitMonotoneReserveBetweenEighthAnd1024Spec)

/-- ITS FALSE NEIGHBOUR: 'it returns false'. Refute it at one input. -/
def fnConnLimitMonotoneReserveBetweenEighthAnd1024Wrong : ChangeSpec := { name := "fnConnLimitMonotoneReserveBetweenEighthAnd1024", fn := fun _ => fun
  | [d1, d2] => { results := [.lit (.bool false)], args := [d1, d2] }
  | _ => none }
def FnConnLimitMonotoneReserveBetweenEighthAnd1024WrongFalsely : Prop := fnConnLimitMonotoneReserveBetweenEighthAnd1024Row.holds Try.pinned (OpenSpec.ofChange fnConnLimitMonotoneReserveBetweenEighthAnd1024Wrong)

/-- 'zzlaws_internal_node_b1.FnRankBeforeAtEqualCountsByFirstToGive': WHATEVER THE INPUT: true; the input reads as it did. -/
def fnRankBeforeAtEqualCountsByFirstToGiveSpec : ChangeSpec := { name := "fnRankBeforeAtEqualCountsByFirstToGive", fn := fun _ => fun
  | [d1, d2, d3, d4] => { results := [.lit (.bool true)], args := [d1, d2, d3, d4] }
  | _ => none }
def fnRankBeforeAtEqualCountsByFirstToGiveRow : OpenClaim := { program := "qxb6616753a", sum := "39393520110192a5e6c05c539d3ad03847e452044788edf1c3d5e006b5e6f36c", func := "example.com/murmuration/murmuration/zzlaws_internal_node_b1.FnRankBeforeAtEqualCountsByFirstToGive", spec := "fnRankBeforeAtEqualCountsByFirstToGive", plainKeys := false, apart := false }
def FnRankBeforeAtEqualCountsByFirstToGiveSaid : Prop := fnRankBeforeAtEqualCountsByFirstToGiveRow.holds Try.pinned (OpenSpec.ofChange fnRankBeforeAtEqualCountsByFirstToGiveSpec)

/-- ITS FALSE NEIGHBOUR: 'it returns false'. Refute it at one input. -/
def fnRankBeforeAtEqualCountsByFirstToGiveWrong : ChangeSpec := { name := "fnRankBeforeAtEqualCountsByFirstToGive", fn := fun _ => fun
  | [d1, d2, d3, d4] => { results := [.lit (.bool false)], args := [d1, d2, d3, d4] }
  | _ => none }
def FnRankBeforeAtEqualCountsByFirstToGiveWrongFalsely : Prop := fnRankBeforeAtEqualCountsByFirstToGiveRow.holds Try.pinned (OpenSpec.ofChange fnRankBeforeAtEqualCountsByFirstToGiveWrong)

/-- 'zzlaws_internal_node_b1.FnRankBeforeMoreConnectionsFirstStrictOrder': WHATEVER THE INPUT: true; the input reads as it did. -/
def fnRankBeforeMoreConnectionsFirstStrictOrderSpec : ChangeSpec := { name := "fnRankBeforeMoreConnectionsFirstStrictOrder", fn := fun _ => fun
  | [d1, d2, d3, d4, d5, d6, d7] => { results := [.lit (.bool true)], args := [d1, d2, d3, d4, d5, d6, d7] }
  | _ => none }
def fnRankBeforeMoreConnectionsFirstStrictOrderRow : OpenClaim := { program := "qxb6616753a", sum := "39393520110192a5e6c05c539d3ad03847e452044788edf1c3d5e006b5e6f36c", func := "example.com/murmuration/murmuration/zzlaws_internal_node_b1.FnRankBeforeMoreConnectionsFirstStrictOrder", spec := "fnRankBeforeMoreConnectionsFirstStrictOrder", plainKeys := false, apart := false }
def FnRankBeforeMoreConnectionsFirstStrictOrderSaid : Prop := fnRankBeforeMoreConnectionsFirstStrictOrderRow.holds Try.pinned (OpenSpec.ofChange fnRankBeforeMoreConnectionsFirstStrictOrderSpec)

/-- ITS FALSE NEIGHBOUR: 'it returns false'. Refute it at one input. -/
def fnRankBeforeMoreConnectionsFirstStrictOrderWrong : ChangeSpec := { name := "fnRankBeforeMoreConnectionsFirstStrictOrder", fn := fun _ => fun
  | [d1, d2, d3, d4, d5, d6, d7] => { results := [.lit (.bool false)], args := [d1, d2, d3, d4, d5, d6, d7] }
  | _ => none }
def FnRankBeforeMoreConnectionsFirstStrictOrderWrongFalsely : Prop := fnRankBeforeMoreConnectionsFirstStrictOrderRow.holds Try.pinned (OpenSpec.ofChange fnRankBeforeMoreConnectionsFirstStrictOrderWrong)

end Rows
end Go.Proofs.Qxb6616753a
