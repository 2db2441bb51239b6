/-
  No cell of these rows narrows 'for every input' (looked for: loops, veiled, ifaces, maps, wideKeys, modest, calm, conditions, laid).
  DERIVED. THE GIVEN ROWS OF THIS SEAT. 8 by the template 'for every input the law returns true; each argument reads behind the call as it read before'; 0 by the template 'total and deterministic' (their statements: Qxb6001402aTotals.lean).
  GIVEN WITH THE SEED: the statements are not yours to turn. If you find one false, say at which input.
  Laid BY PROGRAM, IN A SANDBOX (cutbox-rows.mjs): the forced cells as the released guide's own fill.sh prints them over the translation a0ed23834b12e4fb… (all of the seat's roots in one cut). By AI agents, Wed Nov 11 2026. No macro, syntax, notation, axiom, sorry.
-/
import Derived.Test.Qxb6001402aChecked
import GoSem.Claim
import GoSem.ClaimJoined
import GoSem.ClaimMapViews
import Derived.JoinedTies
import Derived.KernelRfl
namespace Go.Proofs.Qxb6001402a
/- THE CELL 'sum', in the pinned program and in every row, IS THE sha256 OF THE DUMP (.gsa) THAT Qxb6001402aProg.lean LOADS. Nothing in Lean hashes anything: it is a label: what it is worth is what the hold of that sum in a sandbox is worth. -/
noncomputable def Try.pinned : Pinned := { name := "qxb6001402a", sum := "a0ed23834b12e4fb5ef1e8588a3f29c56387e2d3bb0339881cf2bc1f2afd8a14", checked := Try.checked }
namespace Rows
def none {H : Type} : Left H := { results := [], args := [] }

/-- 'zzlaws_root_b1.FnSkipIsIdempotent': WHATEVER THE INPUT: true; the input reads as it did. -/
def fnSkipIsIdempotentSpec : ChangeSpec := { name := "fnSkipIsIdempotent", fn := fun _ => fun
  | [d1, d2, d3] => { results := [.lit (.bool true)], args := [d1, d2, d3] }
  | _ => none }
def fnSkipIsIdempotentRow : OpenClaim := { program := "qxb6001402a", sum := "a0ed23834b12e4fb5ef1e8588a3f29c56387e2d3bb0339881cf2bc1f2afd8a14", func := "example.com/rollwright/rollwright/zzlaws_root_b1.FnSkipIsIdempotent", spec := "fnSkipIsIdempotent", inPlace := ["internal/bytealg.IndexByteString", "internal/bytealg.IndexString"], named := ["internal/bytealg.MaxLen"], apart := false }
def FnSkipIsIdempotentSaid : Prop := fnSkipIsIdempotentRow.holds Try.pinned (OpenSpec.ofChange fnSkipIsIdempotentSpec)

/-- ITS FALSE NEIGHBOUR: 'it returns false'. Refute it at one input. -/
def fnSkipIsIdempotentWrong : ChangeSpec := { name := "fnSkipIsIdempotent", fn := fun _ => fun
  | [d1, d2, d3] => { results := [.lit (.bool false)], args := [d1, d2, d3] }
  | _ => none }
def FnSkipIsIdempotentWrongFalsely : Prop := fnSkipIsIdempotentRow.holds Try.pinned (OpenSpec.ofChange fnSkipIsIdempotentWrong)

/-- 'zzlaws_root_b1.FnSkipStaysInTextAndStopsAtAToken': WHATEVER THE INPUT: true; the input reads as it did. -/
def fnSkipStaysInTextAndStopsAtATokenSpec : ChangeSpec := { name := "fnSkipStaysInTextAndStopsAtAToken", fn := fun _ => fun
  | [d1, d2, d3] => { results := [.lit (.bool true)], args := [d1, d2, d3] }
  | _ => none }
def fnSkipStaysInTextAndStopsAtATokenRow : OpenClaim := { program := "qxb6001402a", sum := "a0ed23834b12e4fb5ef1e8588a3f29c56387e2d3bb0339881cf2bc1f2afd8a14", func := "example.com/rollwright/rollwright/zzlaws_root_b1.FnSkipStaysInTextAndStopsAtAToken", spec := "fnSkipStaysInTextAndStopsAtAToken", inPlace := ["internal/bytealg.IndexByteString", "internal/bytealg.IndexString"], named := ["internal/bytealg.MaxLen"], apart := false }
def FnSkipStaysInTextAndStopsAtATokenSaid : Prop := fnSkipStaysInTextAndStopsAtATokenRow.holds Try.pinned (OpenSpec.ofChange fnSkipStaysInTextAndStopsAtATokenSpec)

/-- ITS FALSE NEIGHBOUR: 'it returns false'. Refute it at one input. -/
def fnSkipStaysInTextAndStopsAtATokenWrong : ChangeSpec := { name := "fnSkipStaysInTextAndStopsAtAToken", fn := fun _ => fun
  | [d1, d2, d3] => { results := [.lit (.bool false)], args := [d1, d2, d3] }
  | _ => none }
def FnSkipStaysInTextAndStopsAtATokenWrongFalsely : Prop := fnSkipStaysInTextAndStopsAtATokenRow.holds Try.pinned (OpenSpec.ofChange fnSkipStaysInTextAndStopsAtATokenWrong)

/-- 'zzlaws_root_b1.FnSkipDependsOnlyOnTheRest': WHATEVER THE INPUT: true; the input reads as it did. -/
def fnSkipDependsOnlyOnTheRestSpec : ChangeSpec := { name := "fnSkipDependsOnlyOnTheRest", fn := fun _ => fun
  | [d1, d2, d3] => { results := [.lit (.bool true)], args := [d1, d2, d3] }
  | _ => none }
def fnSkipDependsOnlyOnTheRestRow : OpenClaim := { program := "qxb6001402a", sum := "a0ed23834b12e4fb5ef1e8588a3f29c56387e2d3bb0339881cf2bc1f2afd8a14", func := "example.com/rollwright/rollwright/zzlaws_root_b1.FnSkipDependsOnlyOnTheRest", spec := "fnSkipDependsOnlyOnTheRest", inPlace := ["internal/bytealg.IndexByteString", "internal/bytealg.IndexString"], named := ["internal/bytealg.MaxLen"], apart := false }
def FnSkipDependsOnlyOnTheRestSaid : Prop := fnSkipDependsOnlyOnTheRestRow.holds Try.pinned (OpenSpec.ofChange fnSkipDependsOnlyOnTheRestSpec)

/-- ITS FALSE NEIGHBOUR: 'it returns false'. Refute it at one input. -/
def fnSkipDependsOnlyOnTheRestWrong : ChangeSpec := { name := "fnSkipDependsOnlyOnTheRest", fn := fun _ => fun
  | [d1, d2, d3] => { results := [.lit (.bool false)], args := [d1, d2, d3] }
  | _ => none }
def FnSkipDependsOnlyOnTheRestWrongFalsely : Prop := fnSkipDependsOnlyOnTheRestRow.holds Try.pinned (OpenSpec.ofChange fnSkipDependsOnlyOnTheRestWrong)

/-- 'zzlaws_root_b1.FnNextTokenIsTheTextItConsumed': WHATEVER THE INPUT: true; the input reads as it did. -/
def fnNextTokenIsTheTextItConsumedSpec : ChangeSpec := { name := "fnNextTokenIsTheTextItConsumed", fn := fun _ => fun
  | [d1, d2, d3, d4, d5, d6] => { results := [.lit (.bool true)], args := [d1, d2, d3, d4, d5, d6] }
  | _ => none }
def fnNextTokenIsTheTextItConsumedRow : OpenClaim := { program := "qxb6001402a", sum := "a0ed23834b12e4fb5ef1e8588a3f29c56387e2d3bb0339881cf2bc1f2afd8a14", func := "example.com/rollwright/rollwright/zzlaws_root_b1.FnNextTokenIsTheTextItConsumed", spec := "fnNextTokenIsTheTextItConsumed", inPlace := ["internal/bytealg.IndexByteString", "internal/bytealg.IndexString"], named := ["internal/bytealg.MaxLen"], apart := false }
def FnNextTokenIsTheTextItConsumedSaid : Prop := fnNextTokenIsTheTextItConsumedRow.holds Try.pinned (OpenSpec.ofChange fnNextTokenIsTheTextItConsumedSpec)

/-- ITS FALSE NEIGHBOUR: 'it returns false'. Refute it at one input. -/
def fnNextTokenIsTheTextItConsumedWrong : ChangeSpec := { name := "fnNextTokenIsTheTextItConsumed", fn := fun _ => fun
  | [d1, d2, d3, d4, d5, d6] => { results := [.lit (.bool false)], args := [d1, d2, d3, d4, d5, d6] }
  | _ => none }
def FnNextTokenIsTheTextItConsumedWrongFalsely : Prop := fnNextTokenIsTheTextItConsumedRow.holds Try.pinned (OpenSpec.ofChange fnNextTokenIsTheTextItConsumedWrong)

/-- 'zzlaws_root_b1.FnNextScriptEndsWithinLengthPlusOne': WHATEVER THE INPUT: true; the input reads as it did. -/
def fnNextScriptEndsWithinLengthPlusOneSpec : ChangeSpec := { name := "fnNextScriptEndsWithinLengthPlusOne", fn := fun _ => fun
  | [d1, d2, d3] => { results := [.lit (.bool true)], args := [d1, d2, d3] }
  | _ => none }
def fnNextScriptEndsWithinLengthPlusOneRow : OpenClaim := { program := "qxb6001402a", sum := "a0ed23834b12e4fb5ef1e8588a3f29c56387e2d3bb0339881cf2bc1f2afd8a14", func := "example.com/rollwright/rollwright/zzlaws_root_b1.FnNextScriptEndsWithinLengthPlusOne", spec := "fnNextScriptEndsWithinLengthPlusOne", inPlace := ["internal/bytealg.IndexByteString", "internal/bytealg.IndexString"], named := ["internal/bytealg.MaxLen"], apart := false }
def FnNextScriptEndsWithinLengthPlusOneSaid : Prop := fnNextScriptEndsWithinLengthPlusOneRow.holds Try.pinned (OpenSpec.ofChange fnNextScriptEndsWithinLengthPlusOneSpec)

/-- ITS FALSE NEIGHBOUR: 'it returns false'. Refute it at one input. -/
def fnNextScriptEndsWithinLengthPlusOneWrong : ChangeSpec := { name := "fnNextScriptEndsWithinLengthPlusOne", fn := fun _ => fun
  | [d1, d2, d3] => { results := [.lit (.bool false)], args := [d1, d2, d3] }
  | _ => none }
def FnNextScriptEndsWithinLengthPlusOneWrongFalsely : Prop := fnNextScriptEndsWithinLengthPlusOneRow.holds Try.pinned (OpenSpec.ofChange fnNextScriptEndsWithinLengthPlusOneWrong)

/-- 'zzlaws_root_b1.FnQuotedTextRoundTripsThroughNextAndUnquoted': WHATEVER THE INPUT: true; the input reads as it did. -/
def fnQuotedTextRoundTripsThroughNextAndUnquotedSpec : ChangeSpec := { name := "fnQuotedTextRoundTripsThroughNextAndUnquoted", fn := fun _ => fun
  | [d1, d2, d3, d4] => { results := [.lit (.bool true)], args := [d1, d2, d3, d4] }
  | _ => none }
def fnQuotedTextRoundTripsThroughNextAndUnquotedRow : OpenClaim := { program := "qxb6001402a", sum := "a0ed23834b12e4fb5ef1e8588a3f29c56387e2d3bb0339881cf2bc1f2afd8a14", func := "example.com/rollwright/rollwright/zzlaws_root_b1.FnQuotedTextRoundTripsThroughNextAndUnquoted", spec := "fnQuotedTextRoundTripsThroughNextAndUnquoted", inPlace := ["internal/bytealg.IndexByteString", "internal/bytealg.IndexString", "internal/abi.NoEscape"], named := ["internal/bytealg.MaxLen"], apart := false }
def FnQuotedTextRoundTripsThroughNextAndUnquotedSaid : Prop := fnQuotedTextRoundTripsThroughNextAndUnquotedRow.holds Try.pinned (OpenSpec.ofChange fnQuotedTextRoundTripsThroughNextAndUnquotedSpec)

/-- ITS FALSE NEIGHBOUR: 'it returns false'. Refute it at one input. -/
def fnQuotedTextRoundTripsThroughNextAndUnquotedWrong : ChangeSpec := { name := "fnQuotedTextRoundTripsThroughNextAndUnquoted", fn := fun _ => fun
  | [d1, d2, d3, d4] => { results := [.lit (.bool false)], args := [d1, d2, d3, d4] }
  | _ => none }
def FnQuotedTextRoundTripsThroughNextAndUnquotedWrongFalsely : Prop := fnQuotedTextRoundTripsThroughNextAndUnquotedRow.holds Try.pinned (OpenSpec.ofChange fnQuotedTextRoundTripsThroughNextAndUnquotedWrong)

/-- 'zzlaws_root_b1.FnUnquotedIgnoresWhatFollowsTheToken': WHATEVER THE INPUT: true; the input reads as it did. -/
def fnUnquotedIgnoresWhatFollowsTheTokenSpec : ChangeSpec := { name := "fnUnquotedIgnoresWhatFollowsTheToken", fn := fun _ => fun
  | [d1, d2, d3] => { results := [.lit (.bool true)], args := [d1, d2, d3] }
  | _ => none }
def fnUnquotedIgnoresWhatFollowsTheTokenRow : OpenClaim := { program := "qxb6001402a", sum := "a0ed23834b12e4fb5ef1e8588a3f29c56387e2d3bb0339881cf2bc1f2afd8a14", func := "example.com/rollwright/rollwright/zzlaws_root_b1.FnUnquotedIgnoresWhatFollowsTheToken", spec := "fnUnquotedIgnoresWhatFollowsTheToken", inPlace := ["internal/bytealg.IndexByteString", "internal/bytealg.IndexString", "internal/abi.NoEscape"], named := ["internal/bytealg.MaxLen"], apart := false }
def FnUnquotedIgnoresWhatFollowsTheTokenSaid : Prop := fnUnquotedIgnoresWhatFollowsTheTokenRow.holds Try.pinned (OpenSpec.ofChange fnUnquotedIgnoresWhatFollowsTheTokenSpec)

/-- ITS FALSE NEIGHBOUR: 'it returns false'. Refute it at one input. -/
def fnUnquotedIgnoresWhatFollowsTheTokenWrong : ChangeSpec := { name := "fnUnquotedIgnoresWhatFollowsTheToken", fn := fun _ => fun
  | [d1, d2, d3] => { results := [.lit (.bool false)], args := [d1, d2, d3] }
  | _ => none }
def FnUnquotedIgnoresWhatFollowsTheTokenWrongFalsely : Prop := fnUnquotedIgnoresWhatFollowsTheTokenRow.holds Try.pinned (OpenSpec.ofChange fnUnquotedIgnoresWhatFollowsTheTokenWrong)

/-- 'zzlaws_root_b1.FnUnquotedIsNoLongerThanTheBody': WHATEVER THE INPUT: true; the input reads as it did. -/
def fnUnquotedIsNoLongerThanTheBodySpec : ChangeSpec := { name := "fnUnquotedIsNoLongerThanTheBody", fn := fun _ => fun
  | [d1, d2] => { results := [.lit (.bool true)], args := [d1, d2] }
  | _ => none }
def fnUnquotedIsNoLongerThanTheBodyRow : OpenClaim := { program := "qxb6001402a", sum := "a0ed23834b12e4fb5ef1e8588a3f29c56387e2d3bb0339881cf2bc1f2afd8a14", func := "example.com/rollwright/rollwright/zzlaws_root_b1.FnUnquotedIsNoLongerThanTheBody", spec := "fnUnquotedIsNoLongerThanTheBody", inPlace := ["internal/abi.NoEscape"], apart := false }
def FnUnquotedIsNoLongerThanTheBodySaid : Prop := fnUnquotedIsNoLongerThanTheBodyRow.holds Try.pinned (OpenSpec.ofChange fnUnquotedIsNoLongerThanTheBodySpec)

/-- ITS FALSE NEIGHBOUR: 'it returns false'. Refute it at one input. -/
def fnUnquotedIsNoLongerThanTheBodyWrong : ChangeSpec := { name := "fnUnquotedIsNoLongerThanTheBody", fn := fun _ => fun
  | [d1, d2] => { results := [.lit (.bool false)], args := [d1, d2] }
  | _ => none }
def FnUnquotedIsNoLongerThanTheBodyWrongFalsely : Prop := fnUnquotedIsNoLongerThanTheBodyRow.holds Try.pinned (OpenSpec.ofChange fnUnquotedIsNoLongerThanTheBodyWrong)

end Rows
end Go.Proofs.Qxb6001402a
