import Derived.Test.Qxb6614327aAny
import Derived.Sort.MapsRangeIn
namespace Go.Proofs.Qxb6614327a
open Go.RowKit Go.Shelf Go.Maps

theorem beq_bytes {a b : ByteArray} : (a == b) = true ↔ a = b := by
  rw [beq_toListBytes, beq_iff_eq, ByteArray.toList_eq, ByteArray.toList_eq]
  exact ⟨fun h => WideShapes.bytes_inj h, fun h => by rw [h]⟩
theorem any_mem {ss : List ByteArray} {s : ByteArray} : (ss.any fun x => x == s) = true ↔ s ∈ ss := by
  rw [List.any_eq_true]
  constructor
  · rintro ⟨x, hx, he⟩
    rw [← beq_bytes.1 he]
    exact hx
  · intro h
    exact ⟨s, h, beq_bytes.2 rfl⟩
theorem has_mem {ss : List ByteArray} {s : ByteArray} : has (setD ss) (keyLit s) = true ↔ s ∈ ss := by rw [has_setD, any_mem]

/-- A round's word to this iterator: whatever is no row of strings and no variable of the type []string lies as it lay. -/
structure KeepsT (W W' : World) : Prop where
  size : W.heap.size ≤ W'.heap.size
  same : ∀ (k : Nat) (o : Obj), W.heap[k]? = some o → (∀ c t f, o = .cells c t f → t ≠ 9 ∧ t ≠ 31) → W'.heap[k]? = some o
theorem KeepsT.boxed {W W' : World} (h : KeepsT W W') {B : Nat} {t : TypeId} {v : Value} (hb : Boxed W B t v) (h9 : t ≠ 9) (h31 : t ≠ 31) : Boxed W' B t v :=
  h.same B _ hb (fun c t' f e => by cases e; exact ⟨h9, h31⟩)
theorem KeepsT.owns {W W' : World} (h : KeepsT W W') {b n : Nat} {D : DataW Unit} (hm : W.ownsMap Try.prog 9 (unitElem (H := Unit)) b n D) : W'.ownsMap Try.prog 9 (unitElem (H := Unit)) b n D := by
  obtain ⟨es, clock, hb, r⟩ := hm
  exact ⟨es, clock, h.same _ _ hb (fun _ _ _ e => by cases e), r⟩
theorem KeepsT.ranges {W W' : World} (h : KeepsT W W') {b r n : Nat} {D : DataW Unit} {left : Lit → Bool} {cnt : Nat} (hm : W.ranges Try.prog 9 (unitElem (H := Unit)) b r n D left cnt) : W'.ranges Try.prog 9 (unitElem (H := Unit)) b r n D left cnt := by
  obtain ⟨es, clock, since, seen, c0, hb, F, hs, hD, hr, rest⟩ := hm
  exact ⟨es, clock, since, seen, c0, h.same _ _ hb (fun _ _ _ e => by cases e), F, hs, hD, h.same _ _ hr (fun _ _ _ e => by cases e), rest⟩
theorem KeepsT.from {W W' : World} (h : KeepsT W W') (B : Nat) : KeepsFrom B W W' := ⟨h.size, fun k o _ hk ho => h.same k o hk (fun c t f e => by rw [e] at ho; cases ho)⟩

/-- The caller's invariant abides the iterator's steps: new blocks, a turn of the map bs or of a block from B on that is no cells. -/
def Lets {β : Type} (bs B : Nat) (J : β → World → Prop) : Prop :=
  ∀ s A A' row, J s A → A.grownBy A' row → (∀ r, row = some r → (r = bs ∨ B ≤ r) ∧ ∃ o : Obj, A.heap[r]? = some o ∧ o.isCells = false) → J s A'

theorem run_clear {W : World} {bs n : Nat} {D : DataW Unit} (h : W.ownsMap Try.prog 9 (unitElem (H := Unit)) bs n D) :
    ∃ W', (∀ ty, (Builtin.clear_ #[29] ty #[.map (some bs)]).run Try.prog W = .ok (.tuple #[]) W') ∧ W'.ownsMap Try.prog 9 (unitElem (H := Unit)) bs 0 (.map []) ∧ W.grownBy W' (some bs) ∧ W'.heap.size = W.heap.size := by
  obtain ⟨es, clock, hb, F, hs, rfl⟩ := h
  refine ⟨ChangeMaps.setBlock W bs (.map #[] clock), fun ty => ?_, ⟨#[], clock, ChangeMaps.heap_setBlock_same hb _, ⟨by simp, MapKept.stamped_empty _, by simp⟩, Nat.le_refl _, rfl⟩, ⟨rfl, rfl, rfl, by simp [ChangeMaps.setBlock], fun i _ hi => ?_⟩, by simp [ChangeMaps.setBlock]⟩
  · simp [Builtin.clear_, run_underlying Try.underlying29, MapKept.run_getObj_map hb, MapKept.run_setObj_map _ hb, Result.andThen, ChangeMaps.setBlock]
  · have hne : i ≠ bs := fun e => hi (by rw [e])
    simp [ChangeMaps.setBlock, Array.getElem?_setIfInBounds_ne (Ne.symm hne)]
end Go.Proofs.Qxb6614327a
