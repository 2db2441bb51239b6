/-
  No cell of these rows narrows 'for every input' (looked for: loops, veiled, ifaces, maps, wideKeys, modest, calm, conditions, laid).
  DERIVED. THE GIVEN ROWS OF THIS SEAT. 2 by the template 'for every input the law returns true; each argument reads behind the call as it read before'; 0 by the template 'total and deterministic' (their statements: Qxb6615917aTotals.lean).
  GIVEN WITH THE SEED: the statements are not yours to turn. If you find one false, say at which input.
  Laid BY PROGRAM, IN A SANDBOX (cutbox-rows.mjs): the forced cells as the released guide's own fill.sh prints them over the translation 44f91119691e2733… (all of the seat's roots in one cut). By AI agents, Wed Nov 11 2026. No macro, syntax, notation, axiom, sorry.
-/
import Derived.Test.Qxb6615917aChecked
import GoSem.Claim
import GoSem.ClaimJoined
import GoSem.ClaimMapViews
import Derived.JoinedTies
import Derived.KernelRfl
namespace Go.Proofs.Qxb6615917a
/- THE CELL 'sum', in the pinned program and in every row, IS THE sha256 OF THE DUMP (.gsa) THAT Qxb6615917aProg.lean LOADS. Nothing in Lean hashes anything: it is a label: what it is worth is what the hold of that sum in a sandbox is worth. -/
noncomputable def Try.pinned : Pinned := { name := "qxb6615917a", sum := "44f91119691e27332e0681142242f9c20362e5c1c24c374fe74ba0edd1c27908", checked := Try.checked }
namespace Rows
def none {H : Type} : Left H := { results := [], args := [] }

/-- 'zzlaws_root_b1.FnIsDigitDigitValueIsItsRank': WHATEVER THE INPUT: true; the input reads as it did. -/
def fnIsDigitDigitValueIsItsRankSpec : ChangeSpec := { name := "fnIsDigitDigitValueIsItsRank", fn := fun _ => fun
  | [d] => { results := [.lit (.bool true)], args := [d] }
  | _ => none }
def fnIsDigitDigitValueIsItsRankRow : OpenClaim := { program := "qxb6615917a", sum := "44f91119691e27332e0681142242f9c20362e5c1c24c374fe74ba0edd1c27908", func := "example.com/refident/refident/zzlaws_root_b1.FnIsDigitDigitValueIsItsRank", spec := "fnIsDigitDigitValueIsItsRank", apart := false }
def FnIsDigitDigitValueIsItsRankSaid : Prop := fnIsDigitDigitValueIsItsRankRow.holds Try.pinned (OpenSpec.ofChange fnIsDigitDigitValueIsItsRankSpec)

/-- ITS FALSE NEIGHBOUR: 'it returns false'. Refute it at one input. -/
def fnIsDigitDigitValueIsItsRankWrong : ChangeSpec := { name := "fnIsDigitDigitValueIsItsRank", fn := fun _ => fun
  | [d] => { results := [.lit (.bool false)], args := [d] }
  | _ => none }
def FnIsDigitDigitValueIsItsRankWrongFalsely : Prop := fnIsDigitDigitValueIsItsRankRow.holds Try.pinned (OpenSpec.ofChange fnIsDigitDigitValueIsItsRankWrong)

/-- 'zzlaws_root_b1.FnIsDigitSistersPartitionTheBytes': WHATEVER THE INPUT: true; the input reads as it did. -/
def fnIsDigitSistersPartitionTheBytesSpec : ChangeSpec := { name := "fnIsDigitSistersPartitionTheBytes", fn := fun _ => fun
  | [d] => { results := [.lit (.bool true)], args := [d] }
  | _ => none }
def fnIsDigitSistersPartitionTheBytesRow : OpenClaim := { program := "qxb6615917a", sum := "44f91119691e27332e0681142242f9c20362e5c1c24c374fe74ba0edd1c27908", func := "example.com/refident/refident/zzlaws_root_b1.FnIsDigitSistersPartitionTheBytes", spec := "fnIsDigitSistersPartitionTheBytes", inPlace := ["internal/bytealg.IndexByteString"], apart := false }
def FnIsDigitSistersPartitionTheBytesSaid : Prop := fnIsDigitSistersPartitionTheBytesRow.holds Try.pinned (OpenSpec.ofChange fnIsDigitSistersPartitionTheBytesSpec)

/-- ITS FALSE NEIGHBOUR: 'it returns false'. Refute it at one input. -/
def fnIsDigitSistersPartitionTheBytesWrong : ChangeSpec := { name := "fnIsDigitSistersPartitionTheBytes", fn := fun _ => fun
  | [d] => { results := [.lit (.bool false)], args := [d] }
  | _ => none }
def FnIsDigitSistersPartitionTheBytesWrongFalsely : Prop := fnIsDigitSistersPartitionTheBytesRow.holds Try.pinned (OpenSpec.ofChange fnIsDigitSistersPartitionTheBytesWrong)

end Rows
end Go.Proofs.Qxb6615917a
