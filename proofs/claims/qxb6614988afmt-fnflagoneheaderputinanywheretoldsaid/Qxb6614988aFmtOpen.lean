import Derived.Test.Qxb6614988aFmtLaw4
import Derived.Test.Qxb6614988aFmtTie
import Derived.Test.Qxb6614988aFmtCards
import Derived.Deep.Strs
import Derived.ShutString
import Derived.ChangeOld
import Derived.ChangeVars
import Derived.RowKitTokens
import Derived.Stop.JoinedTold
import Derived.Stop.LaidErr
import Derived.WalkSmall
namespace Go.Proofs.Qxb6614988aFmt
open Go.ChangeShapes Go.WideShapes Go.ChangeAt Go.RowKit
open Go.ChangeMaps (open_string shut_string)
open Go.Extern.Stop Go.Stop Go.Extern

theorem Tryf.cells9 : Tryf.prog.cellsOf 9 = 1 := by kernel_rfl
theorem Tryf.own : ownKnob Tryf.prog.godebug = none := by kernel_rfl
theorem Tryf.laidOut : laidOutB Tryf.prog = true := by kernel_rfl
theorem Tryf.stops : Tryf.pinned.checked.prog.stops = ["fmt.Sprintf", "fmt.errorf"] := by kernel_rfl
theorem Tryf.stopKnobs : Tryf.pinned.checked.prog.stopKnobs = [] := by kernel_rfl
theorem Tryf.quiet (os : Os) : Stop.quiet Tryf.pinned.checked.prog os := by
  intro k hk
  rw [Tryf.stopKnobs] at hk
  cases hk
theorem Tryf.gE : Tryf.prog.globalNamed "example.com/revstream/revstream/dump.ErrFormat" = some 0 := by kernel_rfl
theorem Tryf.gEType : (Tryf.prog.globals[0]?).map (·.type) = some 27 := by kernel_rfl
theorem Tryf.cells55 : Tryf.prog.cellsOf 55 = 1 := by kernel_rfl
theorem Tryf.star : "*" ++ "errors.errorString" = "*errors.errorString" := by decide
theorem Tryf.row53 (u : TypeId) (h : Tryf.prog.typeName? 3 u = some "*errors.errorString") : u = 53 :=
  typeName_ptr_named (nm := "errors.errorString") (by rw [Tryf.star]; kernel_rfl) (by kernel_rfl) (by decide) u (by rw [Tryf.star]; exact h)

/-- The settled world with one block more, an errors.errorString; variable number 0 holds a pointer to it. -/
def lowOf (P : Program) : Nat := (World.holding P default ⟨#[], #[], []⟩).heap.size
def laidWorldOf (P : Program) (os : Os) (s : ByteArray) : World :=
  { World.holding P os ⟨#[.cells #[.string s] 55], #[], []⟩ with heap := (World.holding P os ⟨#[.cells #[.string s] 55], #[], []⟩).heap.modify 0 fun
      | .cells _ t frozen => .cells #[.iface 53 (.pointer (some ⟨lowOf P, 0, none⟩))] t frozen
      | o => o }
abbrev errS : ByteArray := { data := #[105, 110, 118, 97, 108, 105, 100, 32, 100, 117, 109, 112] }
theorem laidE_met (os : Os) (args : Array Value) : laidMet Tryf.prog Rows.fnFlagReadsOnlyItsOwnHeadersRow.laid ((laidWorldOf Tryf.prog os errS).forCall (fun _ _ => 0) ⟨#[], args, []⟩).memory :=
  laidMet_of_run (ps := [.cell 0 0, .cell (lowOf Tryf.prog) 0]) 8 (by kernel_rfl) (by kernel_rfl) (by kernel_rfl)

theorem cell_lt {W : World} {a : Addr} {v : Value} (h : W.cell? a = some v) : a.block < W.heap.size := by
  refine Nat.lt_of_not_le fun hle => ?_
  have hh : W.heap[a.block]? = none := Array.getElem?_eq_none hle
  simp [World.cell?, hh] at h

theorem strRow_of {H : Type} {enc : TypeId × Value → H} {W : World} {fuel : Nat} {v : Value} {x : DataW H × List MemPlace} (h : DataW.trod enc Tryf.prog W 0 (fun _ => true) true fuel 22 [v] = some x) : ∃ ss, StrRow W.heap.size W v ss := by
  rcases Deep.open_strs Tryf.underlying22 Tryf.underlying9 Tryf.cells9 h with ⟨hcs, _⟩ | ⟨a, len, cap, m, Sx, hcs, _, hl, hm, hmm, _, hx⟩
  · simp at hcs
    subst hcs
    exact ⟨[], none, 0, rfl, Nat.le_refl _, Nat.zero_le _, fun j hj => absurd hj (by simp)⟩
  · simp at hcs hmm
    subst hcs hmm
    refine ⟨(List.range len).map Sx, some a, m, by simp, by simpa using hl, hm, fun j hj => ?_⟩
    have hj' : j < len := by simpa using hj
    obtain ⟨hc, hs⟩ := hx j (by omega)
    obtain ⟨b, off, spot⟩ := a
    have hspot : spot = none := by
      obtain ⟨hc0, _⟩ := hx 0 (by omega)
      simpa [Addr.add] using World.cell?_spot hc0
    subst hspot
    have e : ((List.range len).map Sx)[j]?.getD ByteArray.empty = Sx j := by simp [hj']
    rw [add_plain] at hc
    exact ⟨b, off, rfl, cell_lt hc, by rw [e]; exact hs, by rw [e]; exact hc⟩
end Go.Proofs.Qxb6614988aFmt
