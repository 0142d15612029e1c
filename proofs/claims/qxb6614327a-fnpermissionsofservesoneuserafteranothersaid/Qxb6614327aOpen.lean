import Derived.Test.Qxb6614327aBase
import Derived.Deep.Strs
namespace Go.Proofs.Qxb6614327a
open Go.ChangeShapes Go.WideShapes Go.ChangeAt Go.RowKit

theorem Try.cells22 : Try.prog.cellsOf 22 = 1 := by kernel_rfl
theorem Try.cells31 : Try.prog.cellsOf 31 = 1 := by kernel_rfl
theorem Try.cells9 : Try.prog.cellsOf 9 = 1 := by kernel_rfl
theorem own : ownKnob Try.prog.godebug = none := by kernel_rfl
theorem laidOut : laidOutB Try.prog = true := by kernel_rfl

theorem cell_lt {W : World} {a : Addr} {v : Value} (h : W.cell? a = some v) : a.block < W.heap.size := by
  refine Nat.lt_of_not_le fun hle => ?_
  have hh : W.heap[a.block]? = none := Array.getElem?_eq_none hle
  simp [World.cell?, hh] at h

section
variable {H : Type} {enc : TypeId × Value → H} {W : World}

theorem strRow_of {fuel : Nat} {v : Value} {x : DataW H × List MemPlace} (h : DataW.trod enc Try.prog W 0 (fun _ => true) true fuel 31 [v] = some x) : ∃ ss, StrRow W.heap.size W v ss := by
  rcases Deep.open_strs Try.underlying31 Try.underlying9 Try.cells9 h with ⟨hcs, _⟩ | ⟨a, len, cap, m, Sx, hcs, _, hl, hm, hmm, _, hx⟩
  · simp at hcs
    subst hcs
    exact ⟨[], none, 0, rfl, Nat.le_refl _, Nat.zero_le _, fun j hj => absurd hj (by simp)⟩
  · simp at hcs hmm
    subst hcs hmm
    refine ⟨(List.range len).map Sx, some a, m, by simp, by simpa using hl, hm, fun j hj => ?_⟩
    have hj' : j < len := by simpa using hj
    obtain ⟨hc, hs⟩ := hx j (by omega)
    obtain ⟨b, off, spot⟩ := a
    have hspot : spot = none := by
      obtain ⟨hc0, _⟩ := hx 0 (by omega)
      simpa [Addr.add] using World.cell?_spot hc0
    subst hspot
    have e : ((List.range len).map Sx)[j]?.getD ByteArray.empty = Sx j := by simp [hj']
    rw [add_plain] at hc
    exact ⟨b, off, rfl, cell_lt hc, by rw [e]; exact hs, by rw [e]; exact hc⟩

theorem grid_of {fuel : Nat} {v : Value} {x : DataW H × List MemPlace} (h : DataW.trod enc Try.prog W 0 (fun _ => true) true fuel 22 [v] = some x) : ∃ gs, Grid W.heap.size W v gs := by
  rcases Deep.open_slice1 Try.underlying22 Try.cells31 h with ⟨hcs, _⟩ | ⟨a, len, cap, m, n, V, D, Pl, hcs, _, hl, hm, hmm, _, hx⟩
  · simp at hcs
    subst hcs
    exact ⟨[], none, 0, rfl, Nat.le_refl _, Nat.zero_le _, fun j hj => absurd hj (by simp)⟩
  · simp at hcs hmm
    subst hcs hmm
    obtain ⟨g, hg⟩ := Deep.choose_lt (α := List ByteArray) (n := len) (p := fun j ss => StrRow W.heap.size W (V j) ss) (fun j hj => strRow_of (hx j (by omega)).2)
    refine ⟨(List.range len).map g, some a, m, by simp, by simpa using hl, hm, fun j hj => ?_⟩
    have hj' : j < len := by simpa using hj
    have hc := (hx j (by omega)).1
    obtain ⟨b, off, spot⟩ := a
    have hspot : spot = none := by
      have hc0 := (hx 0 (by omega)).1
      simpa [Addr.add] using World.cell?_spot hc0
    subst hspot
    have e : ((List.range len).map g)[j]?.getD [] = g j := by simp [hj']
    rw [add_plain] at hc
    exact ⟨b, off, V j, rfl, cell_lt hc, hc, by rw [e]; exact hg j hj'⟩
end
end Go.Proofs.Qxb6614327a
