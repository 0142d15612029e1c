import Derived.Test.Qxb6614327aAny
namespace Go.Proofs.Qxb6614327a
open Go.RowKit Go.Maps

/-- Of the n places in block b the first k hold the roles of gs. -/
def RolesPart (b n : Nat) (gs : List (List ByteArray)) (k : Nat) (W : World) : Prop :=
  b < W.heap.size ∧ (∀ j, j < n → ∃ u, W.cell? ⟨b, j, none⟩ = some u ∧ W.frozen? ⟨b, j, none⟩ = false) ∧
  ∀ j, j < k → ∃ br bm, W.cell? ⟨b, j, none⟩ = some (.pointer (some ⟨br, 0, none⟩)) ∧ b < br ∧ b < bm ∧ br < W.heap.size ∧ W.cell? ⟨br, 1, none⟩ = some (.map (some bm)) ∧ SetAt W bm (gs[j]?.getD [])

theorem RolesPart.start {b n : Nat} {gs : List (List ByteArray)} {W : World} (hb : b < W.heap.size) (hc : ∀ j, j < n → ∃ u, W.cell? ⟨b, j, none⟩ = some u ∧ W.frozen? ⟨b, j, none⟩ = false) : RolesPart b n gs 0 W :=
  ⟨hb, hc, fun j hj => absurd hj (by omega)⟩

theorem RolesPart.below {b n : Nat} {gs : List (List ByteArray)} {k : Nat} {A B : World} (h : RolesPart b n gs k A) (hB : Below A.heap.size A B) : RolesPart b n gs k B := by
  obtain ⟨h1, h2, h3⟩ := h
  refine ⟨Nat.lt_of_lt_of_le h1 hB.size, fun j hj => ?_, fun j hj => ?_⟩
  · obtain ⟨u, hu, hf⟩ := h2 j hj
    exact ⟨u, (hB.cell (p := ⟨b, j, none⟩) h1).trans hu, (hB.frozen (p := ⟨b, j, none⟩) h1).trans hf⟩
  · obtain ⟨br, bm, e1, e2, e3, e4, e5, e6⟩ := h3 j hj
    exact ⟨br, bm, (hB.cell (p := ⟨b, j, none⟩) h1).trans e1, e2, e3, Nat.lt_of_lt_of_le e4 hB.size, (hB.cell (p := ⟨br, 1, none⟩) e4).trans e5, e6.block (hB.block bm e6.lt)⟩

/-- A store at place k of a pointer to a role that holds row k. -/
theorem RolesPart.step {b n : Nat} {gs : List (List ByteArray)} {k : Nat} {W : World} (h : RolesPart b n gs k W) (hk : k < n) {br bm : Nat} (hbr : b < br) (hbm : b < bm) (hlt : br < W.heap.size) (hc : W.cell? ⟨br, 1, none⟩ = some (.map (some bm))) (hs : SetAt W bm (gs[k]?.getD [])) :
    RolesPart b n gs (k + 1) (W.setCell ⟨b, k, none⟩ (.pointer (some ⟨br, 0, none⟩))) := by
  obtain ⟨h1, h2, h3⟩ := h
  have hz : (W.setCell ⟨b, k, none⟩ (.pointer (some ⟨br, 0, none⟩))).heap.size = W.heap.size := by simp [World.setCell]
  obtain ⟨u0, hu0, _⟩ := h2 k hk
  have other : ∀ q o, q ≠ b → (W.setCell ⟨b, k, none⟩ (.pointer (some ⟨br, 0, none⟩))).cell? ⟨q, o, none⟩ = W.cell? ⟨q, o, none⟩ := fun q o hq => World.cell?_of_block (Below.heap_setCell _ _ _ _ hq)
  have same : (W.setCell ⟨b, k, none⟩ (.pointer (some ⟨br, 0, none⟩))).cell? ⟨b, k, none⟩ = some (.pointer (some ⟨br, 0, none⟩)) := World.cell?_setCell_same' _ _ _ (by rw [hu0]; rfl)
  have diff : ∀ j, j ≠ k → (W.setCell ⟨b, k, none⟩ (.pointer (some ⟨br, 0, none⟩))).cell? ⟨b, j, none⟩ = W.cell? ⟨b, j, none⟩ := fun j hj => World.cell?_setCell_other _ _ _ _ (by intro e; cases e; exact hj rfl)
  have hset : ∀ q ss, b < q → SetAt W q ss → SetAt (W.setCell ⟨b, k, none⟩ (.pointer (some ⟨br, 0, none⟩))) q ss := fun q ss hq h => h.block (Below.heap_setCell _ _ _ _ (by show q ≠ b; omega))
  refine ⟨by rw [hz]; exact h1, fun j hj => ?_, fun j hj => ?_⟩
  · obtain ⟨u, hu, hf⟩ := h2 j hj
    by_cases e : j = k
    · subst e
      exact ⟨_, same, by rw [World.frozen?_setCell]; exact hf⟩
    · exact ⟨u, (diff j e).trans hu, by rw [World.frozen?_setCell]; exact hf⟩
  · by_cases e : j = k
    · subst e
      exact ⟨br, bm, same, hbr, hbm, by rw [hz]; exact hlt, (other _ _ (by omega)).trans hc, hset _ _ hbm hs⟩
    · obtain ⟨br', bm', e1, e2, e3, e4, e5, e6⟩ := h3 j (by omega)
      exact ⟨br', bm', (diff j e).trans e1, e2, e3, by rw [hz]; exact e4, (other _ _ (by omega)).trans e5, hset _ _ e3 e6⟩

/-- One round: a set, a role over it, the store: in the walk's own spelling. -/
theorem RolesPart.step' {b n : Nat} {gs : List (List ByteArray)} {k : Nat} {W w2 : World} (h : RolesPart b n gs k W) (hk : k < n) (hB : Below W.heap.size W w2) (hs : SetAt w2 W.heap.size (gs[k]?.getD [])) :
    RolesPart b n gs (k + 1) ((w2.setCell ⟨b, k, none⟩ (.pointer (some ⟨w2.heap.size, 0, none⟩))).alloc (.cells #[.string ⟨#[]⟩, .map (some W.heap.size), .map none] 42)) := by
  have hb := h.1
  have h2 := h.below hB
  have hb2 := h2.1
  have h3 : RolesPart b n gs k (w2.alloc (.cells #[.string ⟨#[]⟩, .map (some W.heap.size), .map none] 42)) := h2.below ((Below.refl _ _).alloc (Nat.le_refl _) _)
  have h4 := h3.step hk (br := w2.heap.size) (bm := W.heap.size) hb2 hb (by simp)
    (by unfold World.cell?; rw [World.alloc_heap_new]; rfl)
    (hs.block (Below.heap_alloc _ _ _ hs.lt))
  rwa [World.setCell_alloc_past _ _ _ _ hb2] at h4

/-- The roles from place o on. -/
theorem RolesPart.roles {b n : Nat} {gs : List (List ByteArray)} {W : World} (h : RolesPart b n gs n W) (hn : n ≤ maxLen) (o len cap : Nat) (hs : List (List ByteArray)) (hl : hs.length = len) (hle : o + len ≤ n) (hh : ∀ j, j < len → hs[j]?.getD [] = gs[o + j]?.getD []) :
    Roles W.heap.size W (.slice (some ⟨b, o, none⟩) len cap) hs := by
  obtain ⟨h1, h2, h3⟩ := h
  subst hl
  refine ⟨_, cap, rfl, by omega, fun j hj => ?_⟩
  obtain ⟨br, bm, e1, e2, e3, e4, e5, e6⟩ := h3 (o + j) (by omega)
  exact ⟨b, o, br, rfl, h1, e1, e4, bm, e6.lt, e5, by rw [hh j hj]; exact e6⟩
end Go.Proofs.Qxb6614327a
