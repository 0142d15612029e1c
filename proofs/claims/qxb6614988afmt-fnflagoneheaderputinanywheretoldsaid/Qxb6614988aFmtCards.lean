/-
  DERIVED. GIVEN WITH THE SEED: THE CARDS: each row of Qxb6614988aFmtRows.lean that lists a variable, with what it lists TIED to the program's text (the seventh form; the later family's looks); each row that meets fmt, with fmt's text TOLD by the authors' own Lean function (tested against real Go, not proved from fmt's source: count such statements apart). THE CARD IS WHAT COUNTS. Prove the row's statement (the work); the ties are given (Qxb6614988aFmtTie.lean); close each card by the builder's one call (the guide's Derived/Test/ToyasCard.lean, 'card_holds'). Laid BY PROGRAM, IN A SANDBOX (cutbox-door.mjs). By AI agents, Wed Nov 11 2026. No macro, syntax, notation, axiom, sorry.
-/
import Derived.Test.Qxb6614988aFmtRows
import GoSem.ClaimSeven
namespace Go.Proofs.Qxb6614988aFmt
namespace Rows

/-- THE TOLD AND TIED CARD OF 'zzlaws_dump_b1.FnFlagOneHeaderPutInAnywhere'. -/
def fnFlagOneHeaderPutInAnywhereCard : Claim7 := { stood := { row := fnFlagOneHeaderPutInAnywhereRow, standIns := [], harness := (true, "04d475b8e2f4d889fad39757c74b59f68b03ce1e6256829009354c411ba54499"), looks := false }, told := true, laidByText := true, laidKinds := [.sentinel], laidTests := true, laidLooks := .later, goes := false }
def FnFlagOneHeaderPutInAnywhereToldSaid : Prop := Claim7.holds Tryf.pinned (.plain (OpenSpec.ofChange fnFlagOneHeaderPutInAnywhereSpec)) fnFlagOneHeaderPutInAnywhereCard
/-- ITS FALSE NEIGHBOUR. Refute it at one input. -/
def FnFlagOneHeaderPutInAnywhereToldWrongFalsely : Prop := Claim7.holds Tryf.pinned (.plain (OpenSpec.ofChange fnFlagOneHeaderPutInAnywhereWrong)) fnFlagOneHeaderPutInAnywhereCard

/-- THE TOLD AND TIED CARD OF 'zzlaws_dump_b1.FnFlagReadsOnlyItsOwnHeaders'. -/
def fnFlagReadsOnlyItsOwnHeadersCard : Claim7 := { stood := { row := fnFlagReadsOnlyItsOwnHeadersRow, standIns := [], harness := (true, "04d475b8e2f4d889fad39757c74b59f68b03ce1e6256829009354c411ba54499"), looks := false }, told := true, laidByText := true, laidKinds := [.sentinel], laidTests := true, laidLooks := .later, goes := false }
def FnFlagReadsOnlyItsOwnHeadersToldSaid : Prop := Claim7.holds Tryf.pinned (.plain (OpenSpec.ofChange fnFlagReadsOnlyItsOwnHeadersSpec)) fnFlagReadsOnlyItsOwnHeadersCard
/-- ITS FALSE NEIGHBOUR. Refute it at one input. -/
def FnFlagReadsOnlyItsOwnHeadersToldWrongFalsely : Prop := Claim7.holds Tryf.pinned (.plain (OpenSpec.ofChange fnFlagReadsOnlyItsOwnHeadersWrong)) fnFlagReadsOnlyItsOwnHeadersCard
end Rows
end Go.Proofs.Qxb6614988aFmt
