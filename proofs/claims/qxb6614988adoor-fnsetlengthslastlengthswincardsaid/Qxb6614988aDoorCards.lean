/-
  DERIVED. GIVEN WITH THE SEED: THE CARDS: each row of Qxb6614988aDoorRows.lean that lists a variable, with what it lists TIED to the program's text (the seventh form; the later family's looks); each row that meets fmt, with fmt's text TOLD by the authors' own Lean function (tested against real Go, not proved from fmt's source: count such statements apart). THE CARD IS WHAT COUNTS. Prove the row's statement (the work); the ties are given (Qxb6614988aDoorTie.lean); close each card by the builder's one call (the guide's Derived/Test/ToyasCard.lean, 'card_holds'). Laid BY PROGRAM, IN A SANDBOX (cutbox-door.mjs). By AI agents, Wed Nov 11 2026. No macro, syntax, notation, axiom, sorry.
-/
import Derived.Test.Qxb6614988aDoorRows
import GoSem.ClaimSeven
namespace Go.Proofs.Qxb6614988aDoor
namespace Rows

/-- THE TIED CARD OF 'zzlaws_dump_b1.FnSetLengthsGivesTheDumpersHeadersOnce'. -/
def fnSetLengthsGivesTheDumpersHeadersOnceCard : Claim7 := { stood := { row := fnSetLengthsGivesTheDumpersHeadersOnceRow, standIns := [], harness := (true, "14b3ff4bb042d00c0f6bb04baddbad6bcce4c683898bf958d33be8aadb03d18c"), looks := false }, kinds := [], alts := [], laidByText := true, laidKinds := [.data, .data, .data], laidTests := true, laidLooks := .later }
def FnSetLengthsGivesTheDumpersHeadersOnceCardSaid : Prop := Claim7.holds Tryd.pinned (.plain (OpenSpec.ofChange fnSetLengthsGivesTheDumpersHeadersOnceSpec)) fnSetLengthsGivesTheDumpersHeadersOnceCard

/-- THE TIED CARD OF 'zzlaws_dump_b1.FnSetLengthsLastLengthsWin'. -/
def fnSetLengthsLastLengthsWinCard : Claim7 := { stood := { row := fnSetLengthsLastLengthsWinRow, standIns := [], harness := (true, "14b3ff4bb042d00c0f6bb04baddbad6bcce4c683898bf958d33be8aadb03d18c"), looks := false }, kinds := [], alts := [], laidByText := true, laidKinds := [.data, .data, .data], laidTests := true, laidLooks := .later }
def FnSetLengthsLastLengthsWinCardSaid : Prop := Claim7.holds Tryd.pinned (.plain (OpenSpec.ofChange fnSetLengthsLastLengthsWinSpec)) fnSetLengthsLastLengthsWinCard
end Rows
end Go.Proofs.Qxb6614988aDoor
