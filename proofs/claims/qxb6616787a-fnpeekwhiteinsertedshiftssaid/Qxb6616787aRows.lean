/-
  No cell of these rows narrows 'for every input' (looked for: loops, veiled, ifaces, maps, wideKeys, modest, calm, conditions, laid).
  DERIVED. THE GIVEN ROWS OF THIS SEAT. 7 by the template 'for every input the law returns true; each argument reads behind the call as it read before'; 0 by the template 'total and deterministic' (their statements: Qxb6616787aTotals.lean).
  GIVEN WITH THE SEED: the statements are not yours to turn. If you find one false, say at which input.
  Laid BY PROGRAM, IN A SANDBOX (cutbox-rows.mjs): the forced cells as the released guide's own fill.sh prints them over the translation beb40932215128f6… (all of the seat's roots in one cut). By AI agents, Wed Nov 11 2026. No macro, syntax, notation, axiom, sorry.
-/
import Derived.Test.Qxb6616787aChecked
import GoSem.Claim
import GoSem.ClaimJoined
import GoSem.ClaimMapViews
import Derived.JoinedTies
import Derived.KernelRfl
namespace Go.Proofs.Qxb6616787a
/- THE CELL 'sum', in the pinned program and in every row, IS THE sha256 OF THE DUMP (.gsa) THAT Qxb6616787aProg.lean LOADS. Nothing in Lean hashes anything: it is a label: what it is worth is what the hold of that sum in a sandbox is worth. -/
noncomputable def Try.pinned : Pinned := { name := "qxb6616787a", sum := "beb40932215128f614521b7cc45c1aa29ba3a86707cd8cdd706903b3f6f09c85", checked := Try.checked }
namespace Rows
def none {H : Type} : Left H := { results := [], args := [] }

/-- 'zzlaws_config_b1.FnPeekFirstNonWhiteIdempotent': WHATEVER THE INPUT: true; the input reads as it did. -/
def fnPeekFirstNonWhiteIdempotentSpec : ChangeSpec := { name := "fnPeekFirstNonWhiteIdempotent", fn := fun _ => fun
  | [d1, d2] => { results := [.lit (.bool true)], args := [d1, d2] }
  | _ => none }
def fnPeekFirstNonWhiteIdempotentRow : OpenClaim := { program := "qxb6616787a", sum := "beb40932215128f614521b7cc45c1aa29ba3a86707cd8cdd706903b3f6f09c85", func := "example.com/apportion/apportion/zzlaws_config_b1.FnPeekFirstNonWhiteIdempotent", spec := "fnPeekFirstNonWhiteIdempotent", apart := false }
def FnPeekFirstNonWhiteIdempotentSaid : Prop := fnPeekFirstNonWhiteIdempotentRow.holds Try.pinned (OpenSpec.ofChange fnPeekFirstNonWhiteIdempotentSpec)

/-- ITS FALSE NEIGHBOUR: 'it returns false'. Refute it at one input. -/
def fnPeekFirstNonWhiteIdempotentWrong : ChangeSpec := { name := "fnPeekFirstNonWhiteIdempotent", fn := fun _ => fun
  | [d1, d2] => { results := [.lit (.bool false)], args := [d1, d2] }
  | _ => none }
def FnPeekFirstNonWhiteIdempotentWrongFalsely : Prop := fnPeekFirstNonWhiteIdempotentRow.holds Try.pinned (OpenSpec.ofChange fnPeekFirstNonWhiteIdempotentWrong)

/-- 'zzlaws_config_b1.FnPeekWhiteInsertedShifts': WHATEVER THE INPUT: true; the input reads as it did. -/
def fnPeekWhiteInsertedShiftsSpec : ChangeSpec := { name := "fnPeekWhiteInsertedShifts", fn := fun _ => fun
  | [d1, d2, d3, d4] => { results := [.lit (.bool true)], args := [d1, d2, d3, d4] }
  | _ => none }
def fnPeekWhiteInsertedShiftsRow : OpenClaim := { program := "qxb6616787a", sum := "beb40932215128f614521b7cc45c1aa29ba3a86707cd8cdd706903b3f6f09c85", func := "example.com/apportion/apportion/zzlaws_config_b1.FnPeekWhiteInsertedShifts", spec := "fnPeekWhiteInsertedShifts", apart := false }
def FnPeekWhiteInsertedShiftsSaid : Prop := fnPeekWhiteInsertedShiftsRow.holds Try.pinned (OpenSpec.ofChange fnPeekWhiteInsertedShiftsSpec)

/-- ITS FALSE NEIGHBOUR: 'it returns false'. Refute it at one input. -/
def fnPeekWhiteInsertedShiftsWrong : ChangeSpec := { name := "fnPeekWhiteInsertedShifts", fn := fun _ => fun
  | [d1, d2, d3, d4] => { results := [.lit (.bool false)], args := [d1, d2, d3, d4] }
  | _ => none }
def FnPeekWhiteInsertedShiftsWrongFalsely : Prop := fnPeekWhiteInsertedShiftsRow.holds Try.pinned (OpenSpec.ofChange fnPeekWhiteInsertedShiftsWrong)

/-- 'zzlaws_config_b1.FnSkipLiteralStopsAtFirstDelimiter': WHATEVER THE INPUT: true; the input reads as it did. -/
def fnSkipLiteralStopsAtFirstDelimiterSpec : ChangeSpec := { name := "fnSkipLiteralStopsAtFirstDelimiter", fn := fun _ => fun
  | [d1, d2] => { results := [.lit (.bool true)], args := [d1, d2] }
  | _ => none }
def fnSkipLiteralStopsAtFirstDelimiterRow : OpenClaim := { program := "qxb6616787a", sum := "beb40932215128f614521b7cc45c1aa29ba3a86707cd8cdd706903b3f6f09c85", func := "example.com/apportion/apportion/zzlaws_config_b1.FnSkipLiteralStopsAtFirstDelimiter", spec := "fnSkipLiteralStopsAtFirstDelimiter", inPlace := ["internal/bytealg.IndexByteString", "internal/bytealg.IndexString"], named := ["internal/bytealg.MaxLen"], apart := false }
def FnSkipLiteralStopsAtFirstDelimiterSaid : Prop := fnSkipLiteralStopsAtFirstDelimiterRow.holds Try.pinned (OpenSpec.ofChange fnSkipLiteralStopsAtFirstDelimiterSpec)

/-- ITS FALSE NEIGHBOUR: 'it returns false'. Refute it at one input. -/
def fnSkipLiteralStopsAtFirstDelimiterWrong : ChangeSpec := { name := "fnSkipLiteralStopsAtFirstDelimiter", fn := fun _ => fun
  | [d1, d2] => { results := [.lit (.bool false)], args := [d1, d2] }
  | _ => none }
def FnSkipLiteralStopsAtFirstDelimiterWrongFalsely : Prop := fnSkipLiteralStopsAtFirstDelimiterRow.holds Try.pinned (OpenSpec.ofChange fnSkipLiteralStopsAtFirstDelimiterWrong)

/-- 'zzlaws_config_b1.FnSkipLiteralGrowsByInsertedByte': WHATEVER THE INPUT: true; the input reads as it did. -/
def fnSkipLiteralGrowsByInsertedByteSpec : ChangeSpec := { name := "fnSkipLiteralGrowsByInsertedByte", fn := fun _ => fun
  | [d1, d2, d3, d4] => { results := [.lit (.bool true)], args := [d1, d2, d3, d4] }
  | _ => none }
def fnSkipLiteralGrowsByInsertedByteRow : OpenClaim := { program := "qxb6616787a", sum := "beb40932215128f614521b7cc45c1aa29ba3a86707cd8cdd706903b3f6f09c85", func := "example.com/apportion/apportion/zzlaws_config_b1.FnSkipLiteralGrowsByInsertedByte", spec := "fnSkipLiteralGrowsByInsertedByte", inPlace := ["internal/bytealg.IndexByteString", "internal/bytealg.IndexString"], named := ["internal/bytealg.MaxLen"], apart := false }
def FnSkipLiteralGrowsByInsertedByteSaid : Prop := fnSkipLiteralGrowsByInsertedByteRow.holds Try.pinned (OpenSpec.ofChange fnSkipLiteralGrowsByInsertedByteSpec)

/-- ITS FALSE NEIGHBOUR: 'it returns false'. Refute it at one input. -/
def fnSkipLiteralGrowsByInsertedByteWrong : ChangeSpec := { name := "fnSkipLiteralGrowsByInsertedByte", fn := fun _ => fun
  | [d1, d2, d3, d4] => { results := [.lit (.bool false)], args := [d1, d2, d3, d4] }
  | _ => none }
def FnSkipLiteralGrowsByInsertedByteWrongFalsely : Prop := fnSkipLiteralGrowsByInsertedByteRow.holds Try.pinned (OpenSpec.ofChange fnSkipLiteralGrowsByInsertedByteWrong)

/-- 'zzlaws_config_b1.FnRetentionAdditive': WHATEVER THE INPUT: true; the input reads as it did. -/
def fnRetentionAdditiveSpec : ChangeSpec := { name := "fnRetentionAdditive", fn := fun _ => fun
  | [d1, d2] => { results := [.lit (.bool true)], args := [d1, d2] }
  | _ => none }
def fnRetentionAdditiveRow : OpenClaim := { program := "qxb6616787a", sum := "beb40932215128f614521b7cc45c1aa29ba3a86707cd8cdd706903b3f6f09c85", func := "example.com/apportion/apportion/zzlaws_config_b1.FnRetentionAdditive", spec := "fnRetentionAdditive", apart := false }
def FnRetentionAdditiveSaid : Prop := fnRetentionAdditiveRow.holds Try.pinned (OpenSpec.ofChange fnRetentionAdditiveSpec)

/-- ITS FALSE NEIGHBOUR: 'it returns false'. Refute it at one input. -/
def fnRetentionAdditiveWrong : ChangeSpec := { name := "fnRetentionAdditive", fn := fun _ => fun
  | [d1, d2] => { results := [.lit (.bool false)], args := [d1, d2] }
  | _ => none }
def FnRetentionAdditiveWrongFalsely : Prop := fnRetentionAdditiveRow.holds Try.pinned (OpenSpec.ofChange fnRetentionAdditiveWrong)

/-- 'zzlaws_config_b1.FnAuditRetentionAdditive': WHATEVER THE INPUT: true; the input reads as it did. -/
def fnAuditRetentionAdditiveSpec : ChangeSpec := { name := "fnAuditRetentionAdditive", fn := fun _ => fun
  | [d1, d2] => { results := [.lit (.bool true)], args := [d1, d2] }
  | _ => none }
def fnAuditRetentionAdditiveRow : OpenClaim := { program := "qxb6616787a", sum := "beb40932215128f614521b7cc45c1aa29ba3a86707cd8cdd706903b3f6f09c85", func := "example.com/apportion/apportion/zzlaws_config_b1.FnAuditRetentionAdditive", spec := "fnAuditRetentionAdditive", apart := false }
def FnAuditRetentionAdditiveSaid : Prop := fnAuditRetentionAdditiveRow.holds Try.pinned (OpenSpec.ofChange fnAuditRetentionAdditiveSpec)

/-- ITS FALSE NEIGHBOUR: 'it returns false'. Refute it at one input. -/
def fnAuditRetentionAdditiveWrong : ChangeSpec := { name := "fnAuditRetentionAdditive", fn := fun _ => fun
  | [d1, d2] => { results := [.lit (.bool false)], args := [d1, d2] }
  | _ => none }
def FnAuditRetentionAdditiveWrongFalsely : Prop := fnAuditRetentionAdditiveRow.holds Try.pinned (OpenSpec.ofChange fnAuditRetentionAdditiveWrong)

/-- 'zzlaws_config_b1.FnRetentionsSwapAgree': WHATEVER THE INPUT: true; the input reads as it did. -/
def fnRetentionsSwapAgreeSpec : ChangeSpec := { name := "fnRetentionsSwapAgree", fn := fun _ => fun
  | [d1, d2] => { results := [.lit (.bool true)], args := [d1, d2] }
  | _ => none }
def fnRetentionsSwapAgreeRow : OpenClaim := { program := "qxb6616787a", sum := "beb40932215128f614521b7cc45c1aa29ba3a86707cd8cdd706903b3f6f09c85", func := "example.com/apportion/apportion/zzlaws_config_b1.FnRetentionsSwapAgree", spec := "fnRetentionsSwapAgree", apart := false }
def FnRetentionsSwapAgreeSaid : Prop := fnRetentionsSwapAgreeRow.holds Try.pinned (OpenSpec.ofChange fnRetentionsSwapAgreeSpec)

/-- ITS FALSE NEIGHBOUR: 'it returns false'. Refute it at one input. -/
def fnRetentionsSwapAgreeWrong : ChangeSpec := { name := "fnRetentionsSwapAgree", fn := fun _ => fun
  | [d1, d2] => { results := [.lit (.bool false)], args := [d1, d2] }
  | _ => none }
def FnRetentionsSwapAgreeWrongFalsely : Prop := fnRetentionsSwapAgreeRow.holds Try.pinned (OpenSpec.ofChange fnRetentionsSwapAgreeWrong)

end Rows
end Go.Proofs.Qxb6616787a
