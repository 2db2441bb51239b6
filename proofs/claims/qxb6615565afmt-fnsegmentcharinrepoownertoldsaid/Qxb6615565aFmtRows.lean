/-
  NARROWER THAN 'FOR EVERY INPUT', by the rows' own cells (each row's printed sentence says how): FnNameCharIsLinuxUserTail: laid · FnNameCharOpensLinuxUserUnlessDigitOrDash: laid.
  DERIVED. THE GIVEN ROWS OF THIS SEAT. 4 by the template 'for every input the law returns true; each argument reads behind the call as it read before'; 0 by the template 'total and deterministic' (their statements: Qxb6615565aFmtTotals.lean).
  GIVEN WITH THE SEED: the statements are not yours to turn. If you find one false, say at which input.
  Laid BY PROGRAM, IN A SANDBOX (cutbox-rows.mjs): the forced cells as the released guide's own fill.sh prints them over the translation 8f958151c4ee4b20… (all of the seat's roots in one cut). By AI agents, Wed Nov 11 2026. No macro, syntax, notation, axiom, sorry.
-/
import Derived.Test.Qxb6615565aFmtChecked
import GoSem.PinnedTables
import GoSem.Claim
import GoSem.ClaimJoined
import GoSem.ClaimMapViews
import Derived.JoinedTies
import Derived.KernelRfl
namespace Go.Proofs.Qxb6615565aFmt
/- THE CELL 'sum', in the pinned program and in every row, IS THE sha256 OF THE DUMP (.gsa) THAT Qxb6615565aFmtProg.lean LOADS. Nothing in Lean hashes anything: it is a label: what it is worth is what the hold of that sum in a sandbox is worth. -/
noncomputable def Tryf.pinned : Pinned := { name := "qxb6615565afmt", sum := "8f958151c4ee4b20e37df4e8d674f784a21ac7b501492bca58104ebc984ed549", checked := Tryf.checked }
namespace Rows
def none {H : Type} : Left H := { results := [], args := [] }

/- WHAT THE LISTED PACKAGE-LEVEL VARIABLES READ AS WHEN THE CALL BEGINS. Each datum BY PROGRAM (the guide's laid-datum.mjs) off the statement by which the dump's own 'gosem.cut.vars' lays the variable. In a bare row this is a premise. The card (Qxb6615565aFmtCards.lean) ties it to the program's text. -/
def laid_unicode_utf8_acceptRanges {H : Type} : DataW H := .agg [.agg [.lit (.int .u8 128), .lit (.int .u8 191)], .agg [.lit (.int .u8 160), .lit (.int .u8 191)], .agg [.lit (.int .u8 128), .lit (.int .u8 159)], .agg [.lit (.int .u8 144), .lit (.int .u8 191)], .agg [.lit (.int .u8 128), .lit (.int .u8 143)], .agg [.lit (.int .u8 0), .lit (.int .u8 0)], .agg [.lit (.int .u8 0), .lit (.int .u8 0)], .agg [.lit (.int .u8 0), .lit (.int .u8 0)], .agg [.lit (.int .u8 0), .lit (.int .u8 0)], .agg [.lit (.int .u8 0), .lit (.int .u8 0)], .agg [.lit (.int .u8 0), .lit (.int .u8 0)], .agg [.lit (.int .u8 0), .lit (.int .u8 0)], .agg [.lit (.int .u8 0), .lit (.int .u8 0)], .agg [.lit (.int .u8 0), .lit (.int .u8 0)], .agg [.lit (.int .u8 0), .lit (.int .u8 0)], .agg [.lit (.int .u8 0), .lit (.int .u8 0)]]
/-- One of Go's own tables, pinned by name: the form's constant. -/
def laid_unicode_utf8_first : DataW Unit := Go.Pinned.utf8First

/-- 'zzlaws_userstring_b1.FnNameCharIsLinuxUserTail': WHATEVER THE INPUT: true; the input reads as it did. -/
def fnNameCharIsLinuxUserTailSpec : ChangeSpec := { name := "fnNameCharIsLinuxUserTail", fn := fun _ => fun
  | [d] => { results := [.lit (.bool true)], args := [d] }
  | _ => none }
def fnNameCharIsLinuxUserTailRow : OpenClaim := { program := "qxb6615565afmt", sum := "8f958151c4ee4b20e37df4e8d674f784a21ac7b501492bca58104ebc984ed549", func := "example.com/moorage/moorage/zzlaws_userstring_b1.FnNameCharIsLinuxUserTail", spec := "fnNameCharIsLinuxUserTail", stops := ["fmt.errorf"], inPlace := ["fmt.errorf"], unfollowed := true, recurses := true, named := ["unicode/utf8.first", "unicode/utf8.acceptRanges"], apart := false, laid := [("unicode/utf8.acceptRanges", laid_unicode_utf8_acceptRanges), ("unicode/utf8.first", laid_unicode_utf8_first)] }
/-- NO THEOREM (fmt's text is open here; it may be false): for the released tool's asking of the row's closed facts alone. THE STATEMENT IS 'FnNameCharIsLinuxUserTailToldSaid' (Qxb6615565aFmtCards.lean). -/
def FnNameCharIsLinuxUserTailFormAsk : Prop := fnNameCharIsLinuxUserTailRow.holds Tryf.pinned (OpenSpec.ofChange fnNameCharIsLinuxUserTailSpec)

/-- ITS FALSE NEIGHBOUR: 'it returns false'. Refute it at one input. -/
def fnNameCharIsLinuxUserTailWrong : ChangeSpec := { name := "fnNameCharIsLinuxUserTail", fn := fun _ => fun
  | [d] => { results := [.lit (.bool false)], args := [d] }
  | _ => none }
def FnNameCharIsLinuxUserTailWrongFormAsk : Prop := fnNameCharIsLinuxUserTailRow.holds Tryf.pinned (OpenSpec.ofChange fnNameCharIsLinuxUserTailWrong)

/-- 'zzlaws_userstring_b1.FnNameCharOpensLinuxUserUnlessDigitOrDash': WHATEVER THE INPUT: true; the input reads as it did. -/
def fnNameCharOpensLinuxUserUnlessDigitOrDashSpec : ChangeSpec := { name := "fnNameCharOpensLinuxUserUnlessDigitOrDash", fn := fun _ => fun
  | [d] => { results := [.lit (.bool true)], args := [d] }
  | _ => none }
def fnNameCharOpensLinuxUserUnlessDigitOrDashRow : OpenClaim := { program := "qxb6615565afmt", sum := "8f958151c4ee4b20e37df4e8d674f784a21ac7b501492bca58104ebc984ed549", func := "example.com/moorage/moorage/zzlaws_userstring_b1.FnNameCharOpensLinuxUserUnlessDigitOrDash", spec := "fnNameCharOpensLinuxUserUnlessDigitOrDash", stops := ["fmt.errorf"], inPlace := ["fmt.errorf"], unfollowed := true, recurses := true, named := ["unicode/utf8.first", "unicode/utf8.acceptRanges"], apart := false, laid := [("unicode/utf8.acceptRanges", laid_unicode_utf8_acceptRanges), ("unicode/utf8.first", laid_unicode_utf8_first)] }
/-- NO THEOREM (fmt's text is open here; it may be false): for the released tool's asking of the row's closed facts alone. THE STATEMENT IS 'FnNameCharOpensLinuxUserUnlessDigitOrDashToldSaid' (Qxb6615565aFmtCards.lean). -/
def FnNameCharOpensLinuxUserUnlessDigitOrDashFormAsk : Prop := fnNameCharOpensLinuxUserUnlessDigitOrDashRow.holds Tryf.pinned (OpenSpec.ofChange fnNameCharOpensLinuxUserUnlessDigitOrDashSpec)

/-- ITS FALSE NEIGHBOUR: 'it returns false'. Refute it at one input. -/
def fnNameCharOpensLinuxUserUnlessDigitOrDashWrong : ChangeSpec := { name := "fnNameCharOpensLinuxUserUnlessDigitOrDash", fn := fun _ => fun
  | [d] => { results := [.lit (.bool false)], args := [d] }
  | _ => none }
def FnNameCharOpensLinuxUserUnlessDigitOrDashWrongFormAsk : Prop := fnNameCharOpensLinuxUserUnlessDigitOrDashRow.holds Tryf.pinned (OpenSpec.ofChange fnNameCharOpensLinuxUserUnlessDigitOrDashWrong)

/-- 'zzlaws_userstring_b1.FnSegmentCharInRepoName': WHATEVER THE INPUT: true; the input reads as it did. -/
def fnSegmentCharInRepoNameSpec : ChangeSpec := { name := "fnSegmentCharInRepoName", fn := fun _ => fun
  | [d] => { results := [.lit (.bool true)], args := [d] }
  | _ => none }
def fnSegmentCharInRepoNameRow : OpenClaim := { program := "qxb6615565afmt", sum := "8f958151c4ee4b20e37df4e8d674f784a21ac7b501492bca58104ebc984ed549", func := "example.com/moorage/moorage/zzlaws_userstring_b1.FnSegmentCharInRepoName", spec := "fnSegmentCharInRepoName", stops := ["fmt.errorf"], inPlace := ["internal/bytealg.IndexByteString", "internal/bytealg.IndexString", "fmt.errorf"], unfollowed := true, recurses := true, named := ["internal/bytealg.MaxLen"], apart := false }
/-- NO THEOREM (fmt's text is open here; it may be false): for the released tool's asking of the row's closed facts alone. THE STATEMENT IS 'FnSegmentCharInRepoNameToldSaid' (Qxb6615565aFmtCards.lean). -/
def FnSegmentCharInRepoNameFormAsk : Prop := fnSegmentCharInRepoNameRow.holds Tryf.pinned (OpenSpec.ofChange fnSegmentCharInRepoNameSpec)

/-- ITS FALSE NEIGHBOUR: 'it returns false'. Refute it at one input. -/
def fnSegmentCharInRepoNameWrong : ChangeSpec := { name := "fnSegmentCharInRepoName", fn := fun _ => fun
  | [d] => { results := [.lit (.bool false)], args := [d] }
  | _ => none }
def FnSegmentCharInRepoNameWrongFormAsk : Prop := fnSegmentCharInRepoNameRow.holds Tryf.pinned (OpenSpec.ofChange fnSegmentCharInRepoNameWrong)

/-- 'zzlaws_userstring_b1.FnSegmentCharInRepoOwner': WHATEVER THE INPUT: true; the input reads as it did. -/
def fnSegmentCharInRepoOwnerSpec : ChangeSpec := { name := "fnSegmentCharInRepoOwner", fn := fun _ => fun
  | [d] => { results := [.lit (.bool true)], args := [d] }
  | _ => none }
def fnSegmentCharInRepoOwnerRow : OpenClaim := { program := "qxb6615565afmt", sum := "8f958151c4ee4b20e37df4e8d674f784a21ac7b501492bca58104ebc984ed549", func := "example.com/moorage/moorage/zzlaws_userstring_b1.FnSegmentCharInRepoOwner", spec := "fnSegmentCharInRepoOwner", stops := ["fmt.errorf"], inPlace := ["internal/bytealg.IndexByteString", "internal/bytealg.IndexString", "fmt.errorf"], unfollowed := true, recurses := true, named := ["internal/bytealg.MaxLen"], apart := false }
/-- NO THEOREM (fmt's text is open here; it may be false): for the released tool's asking of the row's closed facts alone. THE STATEMENT IS 'FnSegmentCharInRepoOwnerToldSaid' (Qxb6615565aFmtCards.lean). -/
def FnSegmentCharInRepoOwnerFormAsk : Prop := fnSegmentCharInRepoOwnerRow.holds Tryf.pinned (OpenSpec.ofChange fnSegmentCharInRepoOwnerSpec)

/-- ITS FALSE NEIGHBOUR: 'it returns false'. Refute it at one input. -/
def fnSegmentCharInRepoOwnerWrong : ChangeSpec := { name := "fnSegmentCharInRepoOwner", fn := fun _ => fun
  | [d] => { results := [.lit (.bool false)], args := [d] }
  | _ => none }
def FnSegmentCharInRepoOwnerWrongFormAsk : Prop := fnSegmentCharInRepoOwnerRow.holds Tryf.pinned (OpenSpec.ofChange fnSegmentCharInRepoOwnerWrong)

end Rows
end Go.Proofs.Qxb6615565aFmt
