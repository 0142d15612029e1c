/-
  NARROWER THAN 'FOR EVERY INPUT', by the rows' own cells (each row's printed sentence says how): FnFlagOneHeaderPutInAnywhere: ifaces, laid · FnFlagReadsOnlyItsOwnHeaders: ifaces, laid.
  DERIVED. THE GIVEN ROWS OF THIS SEAT. 2 by the template 'for every input the law returns true; each argument reads behind the call as it read before'; 0 by the template 'total and deterministic' (their statements: Qxb6614988aFmtTotals.lean).
  GIVEN WITH THE SEED: the statements are not yours to turn. If you find one false, say at which input.
  Laid BY PROGRAM, IN A SANDBOX (cutbox-rows.mjs): the forced cells as the released guide's own fill.sh prints them over the translation ff47d24940c4e432… (all of the seat's roots in one cut). By AI agents, Wed Nov 11 2026. No macro, syntax, notation, axiom, sorry.
-/
import Derived.Test.Qxb6614988aFmtChecked
import GoSem.Claim
import GoSem.ClaimJoined
import GoSem.ClaimMapViews
import Derived.JoinedTies
import Derived.KernelRfl
namespace Go.Proofs.Qxb6614988aFmt
/- THE CELL 'sum', in the pinned program and in every row, IS THE sha256 OF THE DUMP (.gsa) THAT Qxb6614988aFmtProg.lean LOADS. Nothing in Lean hashes anything: it is a label: what it is worth is what the hold of that sum in a sandbox is worth. -/
noncomputable def Tryf.pinned : Pinned := { name := "qxb6614988afmt", sum := "ff47d24940c4e43286516ac96e31faa110d7a14c1b46bc69f96bbd98e3bfc96c", checked := Tryf.checked }
namespace Rows
def none {H : Type} : Left H := { results := [], args := [] }

/- WHAT THE LISTED PACKAGE-LEVEL VARIABLES READ AS WHEN THE CALL BEGINS. Each datum BY PROGRAM (the guide's laid-datum.mjs) off the statement by which the dump's own 'gosem.cut.vars' lays the variable. In a bare row this is a premise. The card (Qxb6614988aFmtCards.lean) ties it to the program's text. -/
def laid_example_com_revstream_revstream_dump_ErrFormat {H : Type} : DataW H := .iface "*errors.errorString" (.ptr (.agg [.lit (.string [105, 110, 118, 97, 108, 105, 100, 32, 100, 117, 109, 112])]))

/-- 'zzlaws_dump_b1.FnFlagOneHeaderPutInAnywhere': WHATEVER THE INPUT: true; the input reads as it did. -/
def fnFlagOneHeaderPutInAnywhereSpec : ChangeSpec := { name := "fnFlagOneHeaderPutInAnywhere", vars := ["example.com/revstream/revstream/dump.ErrFormat"], fn := fun _ => fun
  | [d1, d2, d3, d4, d5, g1] => { results := [.lit (.bool true)], args := [d1, d2, d3, d4, d5], vars := [g1] }
  | _ => none }
def fnFlagOneHeaderPutInAnywhereRow : OpenClaim := { program := "qxb6614988afmt", sum := "ff47d24940c4e43286516ac96e31faa110d7a14c1b46bc69f96bbd98e3bfc96c", func := "example.com/revstream/revstream/zzlaws_dump_b1.FnFlagOneHeaderPutInAnywhere", spec := "fnFlagOneHeaderPutInAnywhere", stops := ["fmt.Sprintf", "fmt.errorf"], inPlace := ["fmt.Sprintf", "fmt.errorf"], named := ["example.com/revstream/revstream/dump.ErrFormat"], ifaces := true, apart := false, laid := [("example.com/revstream/revstream/dump.ErrFormat", laid_example_com_revstream_revstream_dump_ErrFormat)] }
/-- NO THEOREM (fmt's text is open here; it may be false): for the released tool's asking of the row's closed facts alone. THE STATEMENT IS 'FnFlagOneHeaderPutInAnywhereToldSaid' (Qxb6614988aFmtCards.lean). -/
def FnFlagOneHeaderPutInAnywhereFormAsk : Prop := fnFlagOneHeaderPutInAnywhereRow.holds Tryf.pinned (OpenSpec.ofChange fnFlagOneHeaderPutInAnywhereSpec)

/-- ITS FALSE NEIGHBOUR: 'it returns false'. Refute it at one input. -/
def fnFlagOneHeaderPutInAnywhereWrong : ChangeSpec := { name := "fnFlagOneHeaderPutInAnywhere", vars := ["example.com/revstream/revstream/dump.ErrFormat"], fn := fun _ => fun
  | [d1, d2, d3, d4, d5, g1] => { results := [.lit (.bool false)], args := [d1, d2, d3, d4, d5], vars := [g1] }
  | _ => none }
def FnFlagOneHeaderPutInAnywhereWrongFormAsk : Prop := fnFlagOneHeaderPutInAnywhereRow.holds Tryf.pinned (OpenSpec.ofChange fnFlagOneHeaderPutInAnywhereWrong)

/-- 'zzlaws_dump_b1.FnFlagReadsOnlyItsOwnHeaders': WHATEVER THE INPUT: true; the input reads as it did. -/
def fnFlagReadsOnlyItsOwnHeadersSpec : ChangeSpec := { name := "fnFlagReadsOnlyItsOwnHeaders", vars := ["example.com/revstream/revstream/dump.ErrFormat"], fn := fun _ => fun
  | [d1, d2, d3, g1] => { results := [.lit (.bool true)], args := [d1, d2, d3], vars := [g1] }
  | _ => none }
def fnFlagReadsOnlyItsOwnHeadersRow : OpenClaim := { program := "qxb6614988afmt", sum := "ff47d24940c4e43286516ac96e31faa110d7a14c1b46bc69f96bbd98e3bfc96c", func := "example.com/revstream/revstream/zzlaws_dump_b1.FnFlagReadsOnlyItsOwnHeaders", spec := "fnFlagReadsOnlyItsOwnHeaders", stops := ["fmt.Sprintf", "fmt.errorf"], inPlace := ["fmt.Sprintf", "fmt.errorf"], named := ["example.com/revstream/revstream/dump.ErrFormat"], ifaces := true, apart := false, laid := [("example.com/revstream/revstream/dump.ErrFormat", laid_example_com_revstream_revstream_dump_ErrFormat)] }
/-- NO THEOREM (fmt's text is open here; it may be false): for the released tool's asking of the row's closed facts alone. THE STATEMENT IS 'FnFlagReadsOnlyItsOwnHeadersToldSaid' (Qxb6614988aFmtCards.lean). -/
def FnFlagReadsOnlyItsOwnHeadersFormAsk : Prop := fnFlagReadsOnlyItsOwnHeadersRow.holds Tryf.pinned (OpenSpec.ofChange fnFlagReadsOnlyItsOwnHeadersSpec)

/-- ITS FALSE NEIGHBOUR: 'it returns false'. Refute it at one input. -/
def fnFlagReadsOnlyItsOwnHeadersWrong : ChangeSpec := { name := "fnFlagReadsOnlyItsOwnHeaders", vars := ["example.com/revstream/revstream/dump.ErrFormat"], fn := fun _ => fun
  | [d1, d2, d3, g1] => { results := [.lit (.bool false)], args := [d1, d2, d3], vars := [g1] }
  | _ => none }
def FnFlagReadsOnlyItsOwnHeadersWrongFormAsk : Prop := fnFlagReadsOnlyItsOwnHeadersRow.holds Tryf.pinned (OpenSpec.ofChange fnFlagReadsOnlyItsOwnHeadersWrong)

end Rows
end Go.Proofs.Qxb6614988aFmt
