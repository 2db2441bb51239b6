/-
  No cell of these rows narrows 'for every input' (looked for: loops, veiled, ifaces, maps, wideKeys, modest, calm, conditions, laid).
  DERIVED. THE GIVEN ROWS OF THIS SEAT. 6 by the template 'for every input the law returns true; each argument reads behind the call as it read before'; 0 by the template 'total and deterministic' (their statements: Qxb6000773aTotals.lean).
  GIVEN WITH THE SEED: the statements are not yours to turn. If you find one false, say at which input.
  Laid BY PROGRAM, IN A SANDBOX (cutbox-rows.mjs): the forced cells as the released guide's own fill.sh prints them over the translation 9144f63f94ed71ca… (all of the seat's roots in one cut). By AI agents, Wed Nov 11 2026. No macro, syntax, notation, axiom, sorry.
-/
import Derived.Test.Qxb6000773aChecked
import GoSem.Claim
import GoSem.ClaimJoined
import GoSem.ClaimMapViews
import Derived.JoinedTies
import Derived.KernelRfl
namespace Go.Proofs.Qxb6000773a
/- THE CELL 'sum', in the pinned program and in every row, IS THE sha256 OF THE DUMP (.gsa) THAT Qxb6000773aProg.lean LOADS. Nothing in Lean hashes anything: it is a label: what it is worth is what the hold of that sum in a sandbox is worth. -/
noncomputable def Try.pinned : Pinned := { name := "qxb6000773a", sum := "9144f63f94ed71cab5e62d525546b44b722fe4ce468efee0d9e9dae167a653bd", checked := Try.checked }
namespace Rows
def none {H : Type} : Left H := { results := [], args := [] }

/-- 'zzlaws_internal_syntax_b1.FnErrorListSortIsStableSortByPlace': WHATEVER THE INPUT: true; the input reads as it did. -/
def fnErrorListSortIsStableSortByPlaceSpec : ChangeSpec := { name := "fnErrorListSortIsStableSortByPlace", fn := fun _ => fun
  | [d1, d2] => { results := [.lit (.bool true)], args := [d1, d2] }
  | _ => none }
def fnErrorListSortIsStableSortByPlaceRow : OpenClaim := { program := "qxb6000773a", sum := "9144f63f94ed71cab5e62d525546b44b722fe4ce468efee0d9e9dae167a653bd", func := "example.com/ferrule/ferrule/zzlaws_internal_syntax_b1.FnErrorListSortIsStableSortByPlace", spec := "fnErrorListSortIsStableSortByPlace", unfollowed := true, recurses := true, apart := false }
def FnErrorListSortIsStableSortByPlaceSaid : Prop := fnErrorListSortIsStableSortByPlaceRow.holds Try.pinned (OpenSpec.ofChange fnErrorListSortIsStableSortByPlaceSpec)

/-- ITS FALSE NEIGHBOUR: 'it returns false'. Refute it at one input. -/
def fnErrorListSortIsStableSortByPlaceWrong : ChangeSpec := { name := "fnErrorListSortIsStableSortByPlace", fn := fun _ => fun
  | [d1, d2] => { results := [.lit (.bool false)], args := [d1, d2] }
  | _ => none }
def FnErrorListSortIsStableSortByPlaceWrongFalsely : Prop := fnErrorListSortIsStableSortByPlaceRow.holds Try.pinned (OpenSpec.ofChange fnErrorListSortIsStableSortByPlaceWrong)

/-- 'zzlaws_internal_syntax_b1.FnErrorListSortIdempotent': WHATEVER THE INPUT: true; the input reads as it did. -/
def fnErrorListSortIdempotentSpec : ChangeSpec := { name := "fnErrorListSortIdempotent", fn := fun _ => fun
  | [d1, d2] => { results := [.lit (.bool true)], args := [d1, d2] }
  | _ => none }
def fnErrorListSortIdempotentRow : OpenClaim := { program := "qxb6000773a", sum := "9144f63f94ed71cab5e62d525546b44b722fe4ce468efee0d9e9dae167a653bd", func := "example.com/ferrule/ferrule/zzlaws_internal_syntax_b1.FnErrorListSortIdempotent", spec := "fnErrorListSortIdempotent", unfollowed := true, recurses := true, apart := false }
def FnErrorListSortIdempotentSaid : Prop := fnErrorListSortIdempotentRow.holds Try.pinned (OpenSpec.ofChange fnErrorListSortIdempotentSpec)

/-- ITS FALSE NEIGHBOUR: 'it returns false'. Refute it at one input. -/
def fnErrorListSortIdempotentWrong : ChangeSpec := { name := "fnErrorListSortIdempotent", fn := fun _ => fun
  | [d1, d2] => { results := [.lit (.bool false)], args := [d1, d2] }
  | _ => none }
def FnErrorListSortIdempotentWrongFalsely : Prop := fnErrorListSortIdempotentRow.holds Try.pinned (OpenSpec.ofChange fnErrorListSortIdempotentWrong)

/-- 'zzlaws_internal_syntax_b1.FnErrorListSortPlacesIgnoreInputOrder': WHATEVER THE INPUT: true; the input reads as it did. -/
def fnErrorListSortPlacesIgnoreInputOrderSpec : ChangeSpec := { name := "fnErrorListSortPlacesIgnoreInputOrder", fn := fun _ => fun
  | [d1, d2] => { results := [.lit (.bool true)], args := [d1, d2] }
  | _ => none }
def fnErrorListSortPlacesIgnoreInputOrderRow : OpenClaim := { program := "qxb6000773a", sum := "9144f63f94ed71cab5e62d525546b44b722fe4ce468efee0d9e9dae167a653bd", func := "example.com/ferrule/ferrule/zzlaws_internal_syntax_b1.FnErrorListSortPlacesIgnoreInputOrder", spec := "fnErrorListSortPlacesIgnoreInputOrder", unfollowed := true, recurses := true, apart := false }
def FnErrorListSortPlacesIgnoreInputOrderSaid : Prop := fnErrorListSortPlacesIgnoreInputOrderRow.holds Try.pinned (OpenSpec.ofChange fnErrorListSortPlacesIgnoreInputOrderSpec)

/-- ITS FALSE NEIGHBOUR: 'it returns false'. Refute it at one input. -/
def fnErrorListSortPlacesIgnoreInputOrderWrong : ChangeSpec := { name := "fnErrorListSortPlacesIgnoreInputOrder", fn := fun _ => fun
  | [d1, d2] => { results := [.lit (.bool false)], args := [d1, d2] }
  | _ => none }
def FnErrorListSortPlacesIgnoreInputOrderWrongFalsely : Prop := fnErrorListSortPlacesIgnoreInputOrderRow.holds Try.pinned (OpenSpec.ofChange fnErrorListSortPlacesIgnoreInputOrderWrong)

/-- 'zzlaws_internal_syntax_b1.FnInvalidSeparatorPointsAtRefusedUnderscore': WHATEVER THE INPUT: true; the input reads as it did. -/
def fnInvalidSeparatorPointsAtRefusedUnderscoreSpec : ChangeSpec := { name := "fnInvalidSeparatorPointsAtRefusedUnderscore", fn := fun _ => fun
  | [d] => { results := [.lit (.bool true)], args := [d] }
  | _ => none }
def fnInvalidSeparatorPointsAtRefusedUnderscoreRow : OpenClaim := { program := "qxb6000773a", sum := "9144f63f94ed71cab5e62d525546b44b722fe4ce468efee0d9e9dae167a653bd", func := "example.com/ferrule/ferrule/zzlaws_internal_syntax_b1.FnInvalidSeparatorPointsAtRefusedUnderscore", spec := "fnInvalidSeparatorPointsAtRefusedUnderscore", inPlace := ["internal/bytealg.IndexByteString"], unfollowed := true, recurses := true, apart := false }
def FnInvalidSeparatorPointsAtRefusedUnderscoreSaid : Prop := fnInvalidSeparatorPointsAtRefusedUnderscoreRow.holds Try.pinned (OpenSpec.ofChange fnInvalidSeparatorPointsAtRefusedUnderscoreSpec)

/-- ITS FALSE NEIGHBOUR: 'it returns false'. Refute it at one input. -/
def fnInvalidSeparatorPointsAtRefusedUnderscoreWrong : ChangeSpec := { name := "fnInvalidSeparatorPointsAtRefusedUnderscore", fn := fun _ => fun
  | [d] => { results := [.lit (.bool false)], args := [d] }
  | _ => none }
def FnInvalidSeparatorPointsAtRefusedUnderscoreWrongFalsely : Prop := fnInvalidSeparatorPointsAtRefusedUnderscoreRow.holds Try.pinned (OpenSpec.ofChange fnInvalidSeparatorPointsAtRefusedUnderscoreWrong)

/-- 'zzlaws_internal_syntax_b1.FnInvalidSeparatorStableUnderExtension': WHATEVER THE INPUT: true; the input reads as it did. -/
def fnInvalidSeparatorStableUnderExtensionSpec : ChangeSpec := { name := "fnInvalidSeparatorStableUnderExtension", fn := fun _ => fun
  | [d1, d2] => { results := [.lit (.bool true)], args := [d1, d2] }
  | _ => none }
def fnInvalidSeparatorStableUnderExtensionRow : OpenClaim := { program := "qxb6000773a", sum := "9144f63f94ed71cab5e62d525546b44b722fe4ce468efee0d9e9dae167a653bd", func := "example.com/ferrule/ferrule/zzlaws_internal_syntax_b1.FnInvalidSeparatorStableUnderExtension", spec := "fnInvalidSeparatorStableUnderExtension", inPlace := ["internal/bytealg.IndexByteString"], unfollowed := true, recurses := true, apart := false }
def FnInvalidSeparatorStableUnderExtensionSaid : Prop := fnInvalidSeparatorStableUnderExtensionRow.holds Try.pinned (OpenSpec.ofChange fnInvalidSeparatorStableUnderExtensionSpec)

/-- ITS FALSE NEIGHBOUR: 'it returns false'. Refute it at one input. -/
def fnInvalidSeparatorStableUnderExtensionWrong : ChangeSpec := { name := "fnInvalidSeparatorStableUnderExtension", fn := fun _ => fun
  | [d1, d2] => { results := [.lit (.bool false)], args := [d1, d2] }
  | _ => none }
def FnInvalidSeparatorStableUnderExtensionWrongFalsely : Prop := fnInvalidSeparatorStableUnderExtensionRow.holds Try.pinned (OpenSpec.ofChange fnInvalidSeparatorStableUnderExtensionWrong)

/-- 'zzlaws_internal_syntax_b1.FnInvalidSeparatorAcceptsWellFormed': WHATEVER THE INPUT: true; the input reads as it did. -/
def fnInvalidSeparatorAcceptsWellFormedSpec : ChangeSpec := { name := "fnInvalidSeparatorAcceptsWellFormed", fn := fun _ => fun
  | [d1, d2, d3] => { results := [.lit (.bool true)], args := [d1, d2, d3] }
  | _ => none }
def fnInvalidSeparatorAcceptsWellFormedRow : OpenClaim := { program := "qxb6000773a", sum := "9144f63f94ed71cab5e62d525546b44b722fe4ce468efee0d9e9dae167a653bd", func := "example.com/ferrule/ferrule/zzlaws_internal_syntax_b1.FnInvalidSeparatorAcceptsWellFormed", spec := "fnInvalidSeparatorAcceptsWellFormed", inPlace := ["internal/bytealg.IndexByteString"], unfollowed := true, recurses := true, apart := false }
def FnInvalidSeparatorAcceptsWellFormedSaid : Prop := fnInvalidSeparatorAcceptsWellFormedRow.holds Try.pinned (OpenSpec.ofChange fnInvalidSeparatorAcceptsWellFormedSpec)

/-- ITS FALSE NEIGHBOUR: 'it returns false'. Refute it at one input. -/
def fnInvalidSeparatorAcceptsWellFormedWrong : ChangeSpec := { name := "fnInvalidSeparatorAcceptsWellFormed", fn := fun _ => fun
  | [d1, d2, d3] => { results := [.lit (.bool false)], args := [d1, d2, d3] }
  | _ => none }
def FnInvalidSeparatorAcceptsWellFormedWrongFalsely : Prop := fnInvalidSeparatorAcceptsWellFormedRow.holds Try.pinned (OpenSpec.ofChange fnInvalidSeparatorAcceptsWellFormedWrong)

end Rows
end Go.Proofs.Qxb6000773a
