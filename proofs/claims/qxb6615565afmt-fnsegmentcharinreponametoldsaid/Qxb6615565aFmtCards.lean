/-
  DERIVED. GIVEN WITH THE SEED: THE CARDS: each row of Qxb6615565aFmtRows.lean that lists a variable, with what it lists TIED to the program's text (the seventh form; the later family's looks); each row that meets fmt, with fmt's text TOLD by the authors' own Lean function (tested against real Go, not proved from fmt's source: count such statements apart). THE CARD IS WHAT COUNTS. Prove the row's statement (the work); the ties are given (Qxb6615565aFmtTie.lean); close each card by the builder's one call (the guide's Derived/Test/ToyasCard.lean, 'card_holds'). Laid BY PROGRAM, IN A SANDBOX (cutbox-door.mjs). By AI agents, Wed Nov 11 2026. No macro, syntax, notation, axiom, sorry.
-/
import Derived.Test.Qxb6615565aFmtRows
import GoSem.ClaimSeven
namespace Go.Proofs.Qxb6615565aFmt
namespace Rows

/-- THE TOLD AND TIED CARD OF 'zzlaws_userstring_b1.FnNameCharIsLinuxUserTail'. -/
def fnNameCharIsLinuxUserTailCard : Claim7 := { stood := { row := fnNameCharIsLinuxUserTailRow, standIns := [], harness := (true, "d5db13de6c9220a522b6229ff58171578ffc415a3aa79711f0425c1b568458b0"), looks := false }, told := true, laidByText := true, laidKinds := [.data, .pinned], laidTests := true, laidLooks := .later, goes := false }
def FnNameCharIsLinuxUserTailToldSaid : Prop := Claim7.holds Tryf.pinned (.plain (OpenSpec.ofChange fnNameCharIsLinuxUserTailSpec)) fnNameCharIsLinuxUserTailCard
/-- ITS FALSE NEIGHBOUR. Refute it at one input. -/
def FnNameCharIsLinuxUserTailToldWrongFalsely : Prop := Claim7.holds Tryf.pinned (.plain (OpenSpec.ofChange fnNameCharIsLinuxUserTailWrong)) fnNameCharIsLinuxUserTailCard

/-- THE TOLD AND TIED CARD OF 'zzlaws_userstring_b1.FnNameCharOpensLinuxUserUnlessDigitOrDash'. -/
def fnNameCharOpensLinuxUserUnlessDigitOrDashCard : Claim7 := { stood := { row := fnNameCharOpensLinuxUserUnlessDigitOrDashRow, standIns := [], harness := (true, "d5db13de6c9220a522b6229ff58171578ffc415a3aa79711f0425c1b568458b0"), looks := false }, told := true, laidByText := true, laidKinds := [.data, .pinned], laidTests := true, laidLooks := .later, goes := false }
def FnNameCharOpensLinuxUserUnlessDigitOrDashToldSaid : Prop := Claim7.holds Tryf.pinned (.plain (OpenSpec.ofChange fnNameCharOpensLinuxUserUnlessDigitOrDashSpec)) fnNameCharOpensLinuxUserUnlessDigitOrDashCard
/-- ITS FALSE NEIGHBOUR. Refute it at one input. -/
def FnNameCharOpensLinuxUserUnlessDigitOrDashToldWrongFalsely : Prop := Claim7.holds Tryf.pinned (.plain (OpenSpec.ofChange fnNameCharOpensLinuxUserUnlessDigitOrDashWrong)) fnNameCharOpensLinuxUserUnlessDigitOrDashCard

/-- THE TOLD CARD OF 'zzlaws_userstring_b1.FnSegmentCharInRepoName'. -/
def fnSegmentCharInRepoNameCard : Claim7 := { stood := { row := fnSegmentCharInRepoNameRow, standIns := [], harness := (true, "d5db13de6c9220a522b6229ff58171578ffc415a3aa79711f0425c1b568458b0"), looks := false }, told := true, goes := false }
def FnSegmentCharInRepoNameToldSaid : Prop := Claim7.holds Tryf.pinned (.plain (OpenSpec.ofChange fnSegmentCharInRepoNameSpec)) fnSegmentCharInRepoNameCard
/-- ITS FALSE NEIGHBOUR. Refute it at one input. -/
def FnSegmentCharInRepoNameToldWrongFalsely : Prop := Claim7.holds Tryf.pinned (.plain (OpenSpec.ofChange fnSegmentCharInRepoNameWrong)) fnSegmentCharInRepoNameCard

/-- THE TOLD CARD OF 'zzlaws_userstring_b1.FnSegmentCharInRepoOwner'. -/
def fnSegmentCharInRepoOwnerCard : Claim7 := { stood := { row := fnSegmentCharInRepoOwnerRow, standIns := [], harness := (true, "d5db13de6c9220a522b6229ff58171578ffc415a3aa79711f0425c1b568458b0"), looks := false }, told := true, goes := false }
def FnSegmentCharInRepoOwnerToldSaid : Prop := Claim7.holds Tryf.pinned (.plain (OpenSpec.ofChange fnSegmentCharInRepoOwnerSpec)) fnSegmentCharInRepoOwnerCard
/-- ITS FALSE NEIGHBOUR. Refute it at one input. -/
def FnSegmentCharInRepoOwnerToldWrongFalsely : Prop := Claim7.holds Tryf.pinned (.plain (OpenSpec.ofChange fnSegmentCharInRepoOwnerWrong)) fnSegmentCharInRepoOwnerCard
end Rows
end Go.Proofs.Qxb6615565aFmt
