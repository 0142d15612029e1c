import Derived.Test.Qxb6614988aDoorWant
import Derived.Test.Qxb6614988aDoorLens
import Derived.Test.Qxb6614988aDoorTie
import Derived.Test.Qxb6614988aDoorCards
import Derived.Deep.Strs
import Derived.ShutString
import Derived.ChangeOld
import Derived.LaidMore
import Derived.OpenShut
import Derived.ProofKit
import Derived.Stop.LaidErr
import Derived.Stop.Joined
namespace Go.Proofs.Qxb6614988aDoor
open Go.ChangeShapes Go.WideShapes Go.ChangeAt Go.RowKit
open Go.ChangeMaps (open_string shut_string)

theorem Tryd.cells9 : Tryd.prog.cellsOf 9 = 1 := by kernel_rfl
theorem Tryd.cells5 : Tryd.prog.cellsOf 5 = 1 := by kernel_rfl
theorem Tryd.own : ownKnob Tryd.prog.godebug = none := by kernel_rfl
theorem Tryd.laidOut : laidOutB Tryd.prog = true := by kernel_rfl

theorem cell_lt {W : World} {a : Addr} {v : Value} (h : W.cell? a = some v) : a.block < W.heap.size := by
  refine Nat.lt_of_not_le fun hle => ?_
  have hh : W.heap[a.block]? = none := Array.getElem?_eq_none hle
  simp [World.cell?, hh] at h

theorem strRow_of {H : Type} {enc : TypeId × Value → H} {W : World} {fuel : Nat} {v : Value} {x : DataW H × List MemPlace} (h : DataW.trod enc Tryd.prog W 0 (fun _ => true) true fuel 22 [v] = some x) : ∃ ss, StrRow W.heap.size W v ss := by
  rcases Deep.open_strs Tryd.underlying22 Tryd.underlying9 Tryd.cells9 h with ⟨hcs, _⟩ | ⟨a, len, cap, m, Sx, hcs, _, hl, hm, hmm, _, hx⟩
  · simp at hcs
    subst hcs
    exact ⟨[], none, 0, rfl, Nat.le_refl _, Nat.zero_le _, fun j hj => absurd hj (by simp)⟩
  · simp at hcs hmm
    subst hcs hmm
    refine ⟨(List.range len).map Sx, some a, m, by simp, by simpa using hl, hm, fun j hj => ?_⟩
    have hj' : j < len := by simpa using hj
    obtain ⟨hc, hs⟩ := hx j (by omega)
    obtain ⟨b, off, spot⟩ := a
    have hspot : spot = none := by
      obtain ⟨hc0, _⟩ := hx 0 (by omega)
      simpa [Addr.add] using World.cell?_spot hc0
    subst hspot
    have e : ((List.range len).map Sx)[j]?.getD ByteArray.empty = Sx j := by simp [hj']
    rw [add_plain] at hc
    exact ⟨b, off, rfl, cell_lt hc, by rw [e]; exact hs, by rw [e]; exact hc⟩

theorem bRow_of {H : Type} {enc : TypeId × Value → H} {W : World} {fuel : Nat} {a0 : Option Addr} {n0 c0 : Nat} {x : DataW H × List MemPlace} (h : DataW.trod enc Tryd.prog W 0 (fun _ => true) true fuel 23 [.slice a0 n0 c0] = some x) : BRow W.heap.size W a0 n0 c0 := by
  rcases Deep.open_slice1 Tryd.underlying23 Tryd.cells5 h with ⟨hcs, _⟩ | ⟨a, len, cap, m, n, V, D, Pl, hcs, _, hl, hm, hmm, _, hx⟩
  · simp at hcs
    obtain ⟨rfl, rfl, rfl⟩ := hcs
    exact ⟨[], rfl, Nat.le_refl _, Nat.zero_le _, fun j hj => absurd hj (by simp)⟩
  · simp at hcs hmm
    obtain ⟨rfl, rfl, rfl⟩ := hcs
    subst hmm
    have hv : ∀ j, j < n0 → ∃ k, V j = .int .u8 k := fun j hj => by
      obtain ⟨k, e, _⟩ := DataW.trod_int Tryd.underlying5 (hx j (by omega)).2
      exact ⟨k, by simpa using e⟩
    obtain ⟨g, hg⟩ := Deep.choose_lt (α := Int) (n := n0) (p := fun j k => V j = .int .u8 k) hv
    refine ⟨(List.range n0).map g, by simp, by simpa using hl, hm, fun j hj => ?_⟩
    have hc := (hx j (by omega)).1
    obtain ⟨b, off, spot⟩ := a
    have hspot : spot = none := by
      have hc0 := (hx 0 (by omega)).1
      simpa [Addr.add] using World.cell?_spot hc0
    subst hspot
    rw [add_plain] at hc
    exact ⟨b, off, rfl, cell_lt hc, by rw [hc, hg j hj]; simp [hj]⟩

/-- What the list gives the walks: the table of powers of ten. -/
theorem tab_of {W : World} (h : laidMetH Tryd.prog Rows.fnSetLengthsGivesTheDumpersHeadersOnceRow.laid W) : Tab W := by
  rw [MakeChecks.laidMetH_plain _ _ _ (by kernel_rfl)] at h
  exact Lib.tabIs_of_head (t := 56) (e := 34) (n := 20) Tryd.gTab (by kernel_rfl) (by kernel_rfl) (by kernel_rfl) (by kernel_rfl) (by kernel_rfl) (laidMet.tail (laidMet.tail h))

theorem tab_lt {W : World} (h : Tab W) : 0 < W.heap.size := by
  refine Nat.pos_of_ne_zero fun e => ?_
  unfold Tab Lib.TabIs World.var? at h
  rw [Tryd.gTab] at h
  simp [e] at h

/-- The door's own heap meets the condition. -/
theorem door_met (os : Os) (args : Array Value) : laidMetH Tryd.prog Rows.fnSetLengthsGivesTheDumpersHeadersOnceRow.laid ((World.doorLaid Tryd.prog 400 os).forCall (fun _ _ => 0) ⟨#[], args, []⟩).memory :=
  laidMetH_of_parts3 (fuel := 8) (laidMet_of_run' 8 (by kernel_rfl) (by kernel_rfl)) (by kernel_rfl) (by kernel_rfl)
end Go.Proofs.Qxb6614988aDoor
