import Derived.Test.Qxb6614988aDoorItoa
import Derived.Laws.OwnMore
import Derived.Laws.Rows
namespace Go.Proofs.Qxb6614988aDoor
open Go.RowKit

abbrev Hdr := ByteArray × ByteArray
abbrev hd0 : Hdr := (ByteArray.empty, ByteArray.empty)
/-- The cells of a row of headers. -/
def flat : List Hdr → List Value
  | [] => []
  | h :: r => .string h.1 :: .string h.2 :: flat r
theorem flat_length : ∀ hs : List Hdr, (flat hs).length = hs.length * 2
  | [] => rfl
  | _ :: r => by simp [flat, flat_length r]; omega
theorem flat_append : ∀ xs ys : List Hdr, flat (xs ++ ys) = flat xs ++ flat ys
  | [], _ => rfl
  | x :: xs, ys => by simp [flat, flat_append xs ys]
theorem flat_get : ∀ (hs : List Hdr) (k : Nat), k < hs.length → (flat hs)[k * 2]? = some (.string (hs[k]?.getD hd0).1) ∧ (flat hs)[k * 2 + 1]? = some (.string (hs[k]?.getD hd0).2)
  | h :: r, 0, _ => ⟨rfl, rfl⟩
  | h :: r, k + 1, hk => by
    have := flat_get r k (by simpa using hk)
    rw [show (k + 1) * 2 = k * 2 + 1 + 1 by omega]
    simpa [flat] using this
theorem flat_set : ∀ (hs : List Hdr) (k : Nat) (v : ByteArray), k < hs.length → (flat hs).set (k * 2 + 1) (.string v) = flat (hs.set k ((hs[k]?.getD hd0).1, v))
  | h :: r, 0, v, _ => rfl
  | h :: r, k + 1, v, hk => by
    have := flat_set r k v (by simpa using hk)
    rw [show (k + 1) * 2 + 1 = k * 2 + 1 + 1 + 1 by omega]
    simpa [flat] using this

/-- A row of headers that the call owns. -/
abbrev Row (base : Nat) (W : World) (hv : Value) (hs : List Hdr) : Prop := W.ownsRow base 47 2 hv hs.length (flat hs)

theorem Row.cell {base : Nat} {W : World} {hv : Value} {hs : List Hdr} (h : Row base W hv hs) (k : Nat) (hk : k < hs.length) :
    ∃ g cap, hv = .slice (some ⟨g, 0, none⟩) hs.length cap ∧ hs.length ≤ cap ∧ cap ≤ maxLen ∧ base ≤ g ∧ g < W.heap.size ∧ W.cell? ⟨g, k * 2, none⟩ = some (.string (hs[k]?.getD hd0).1) ∧ W.cell? ⟨g, k * 2 + 1, none⟩ = some (.string (hs[k]?.getD hd0).2) ∧ W.frozen? ⟨g, k * 2 + 1, none⟩ = false := by
  have h' := h
  obtain ⟨_, ⟨_, h0⟩ | ⟨g, cap, cur, rfl, h1, h2, h3, h4, h5, h6⟩⟩ := h
  · omega
  · obtain ⟨e1, e2⟩ := flat_get hs k hk
    refine ⟨g, cap, rfl, h3, h4, h1, (Array.getElem?_eq_some_iff.1 h2).1, ?_, ?_, by simp [World.frozen?, h2]⟩
    · rw [World.ownsRow.cellAt h' (k * 2) (by omega), e1]
    · rw [World.ownsRow.cellAt h' (k * 2 + 1) (by omega), e2]

theorem Row.set {base : Nat} {W : World} {g cap : Nat} {hs : List Hdr} (h : Row base W (.slice (some ⟨g, 0, none⟩) hs.length cap) hs) (k : Nat) (hk : k < hs.length) (v : ByteArray) :
    Row base (W.setCell ⟨g, k * 2 + 1, none⟩ (.string v)) (.slice (some ⟨g, 0, none⟩) hs.length cap) (hs.set k ((hs[k]?.getD hd0).1, v)) := by
  obtain ⟨_, ⟨h0, _⟩ | ⟨g', cap', cur, e, h1, h2, h3, h4, h5, h6⟩⟩ := h
  · cases h0
  · cases e
    refine ⟨by rw [flat_length], .inr ⟨g, cap, cur.setIfInBounds (k * 2 + 1) (.string v), by simp, h1, heap_setCell_same W g _ cur 47 _ h2, by simpa using h3, h4, by simpa using h5, ?_⟩⟩
    rw [← flat_set hs k v hk, ← h6]
    simp [List.take_set]

/-- The record. -/
def recObj (hv : Value) (hp ht : Bool) (ps : Value) (tl : Int) : Obj :=
  .cells #[.int .i64 0, .pointer none, .int .i64 0, .int .i64 0, .int .i64 0, .int .i64 0, .string ⟨#[]⟩, .string ⟨#[]⟩, .int .i64 0, hv, .bool hp, ps, .slice none 0 0, .bool ht, .int .i64 tl, .int .i64 0, .nilIface] 43

structure RecL (base : Nat) (W : World) (br : Nat) (hv : Value) (hs : List Hdr) (hp ht : Bool) (ps : Value) (tl : Int) : Prop where
  lo : base ≤ br
  blk : W.heap[br]? = some (recObj hv hp ht ps tl)
  row : Row base W hv hs
  ne : hv.ownBlock ≠ some br

section
variable {base br : Nat} {W W' : World} {hv hv' : Value} {hs : List Hdr} {hp ht : Bool} {ps : Value} {tl : Int}
theorem RecL.lt (h : RecL base W br hv hs hp ht ps tl) : br < W.heap.size := (Array.getElem?_eq_some_iff.1 h.blk).1
theorem RecL.c9 (h : RecL base W br hv hs hp ht ps tl) : W.cell? ⟨br, 9, none⟩ = some hv := by simp [World.cell?, h.blk, recObj]
theorem RecL.c10 (h : RecL base W br hv hs hp ht ps tl) : W.cell? ⟨br, 10, none⟩ = some (.bool hp) := by simp [World.cell?, h.blk, recObj]
theorem RecL.c11 (h : RecL base W br hv hs hp ht ps tl) : W.cell? ⟨br, 11, none⟩ = some ps := by simp [World.cell?, h.blk, recObj]
theorem RecL.c13 (h : RecL base W br hv hs hp ht ps tl) : W.cell? ⟨br, 13, none⟩ = some (.bool ht) := by simp [World.cell?, h.blk, recObj]
theorem RecL.c14 (h : RecL base W br hv hs hp ht ps tl) : W.cell? ⟨br, 14, none⟩ = some (.int .i64 tl) := by simp [World.cell?, h.blk, recObj]
theorem RecL.f9 (h : RecL base W br hv hs hp ht ps tl) : W.frozen? ⟨br, 9, none⟩ = false := by simp [World.frozen?, h.blk, recObj]

theorem Row.kept (h : Row base W hv hs) (hk : ∀ g, hv.ownBlock = some g → W'.heap[g]? = W.heap[g]?) : Row base W' hv hs := by
  obtain ⟨h0, h | ⟨g, cap, cur, rfl, h1, h2, h3⟩⟩ := h
  · exact ⟨h0, .inl h⟩
  · exact ⟨h0, .inr ⟨g, cap, cur, rfl, h1, (hk g rfl).trans h2, h3⟩⟩
theorem RecL.below (h : RecL base W br hv hs hp ht ps tl) (hB : Below W.heap.size W W') : RecL base W' br hv hs hp ht ps tl :=
  ⟨h.lo, (hB.block br h.lt).trans h.blk, h.row.kept fun g e => hB.block g (h.row.lt g e).2, h.ne⟩
end

/-- What a call on the record leaves alone: all that lay, but the record and its row of headers. -/
structure Keeps (br : Nat) (hv hv' : Value) (W W' : World) : Prop where
  os : W'.os = W.os
  tape : W'.tape = W.tape
  output : W'.output = W.output
  size : W.heap.size ≤ W'.heap.size
  block : ∀ b, b < W.heap.size → b ≠ br → hv.ownBlock ≠ some b → W'.heap[b]? = W.heap[b]?
  new : ∀ b, hv'.ownBlock = some b → hv.ownBlock = some b ∨ W.heap.size ≤ b
theorem Keeps.refl (br : Nat) (hv : Value) (W : World) : Keeps br hv hv W W := ⟨rfl, rfl, rfl, Nat.le_refl _, fun _ _ _ _ => rfl, fun _ h => .inl h⟩
theorem Keeps.trans {br : Nat} {a b c : Value} {U V W : World} (h : Keeps br a b U V) (k : Keeps br b c V W) : Keeps br a c U W := by
  refine ⟨k.os.trans h.os, k.tape.trans h.tape, k.output.trans h.output, Nat.le_trans h.size k.size, fun q h1 h2 h3 => ?_, fun q hq => ?_⟩
  · refine (k.block q (Nat.lt_of_lt_of_le h1 h.size) h2 fun e => ?_).trans (h.block q h1 h2 h3)
    rcases h.new q e with e' | e'
    · exact h3 e'
    · omega
  · rcases k.new q hq with e | e
    · exact h.new q e
    · exact .inr (Nat.le_trans h.size e)
theorem Keeps.of_below {br : Nat} {hv : Value} {U V : World} (hB : Below U.heap.size U V) : Keeps br hv hv U V :=
  ⟨hB.os, hB.tape, hB.output, hB.size, fun b h _ _ => hB.block b h, fun _ h => .inl h⟩
theorem Keeps.below {br base : Nat} {hv hv' : Value} {W W' : World} (h : Keeps br hv hv' W W') (h1 : base ≤ br) (h2 : ∀ b, hv.ownBlock = some b → base ≤ b) (hb : base ≤ W.heap.size) : Below base W W' :=
  ⟨h.os, h.tape, h.output, h.size, fun b hb' => h.block b (by omega) (by omega) fun e => by have := h2 b e; omega⟩
end Go.Proofs.Qxb6614988aDoor
