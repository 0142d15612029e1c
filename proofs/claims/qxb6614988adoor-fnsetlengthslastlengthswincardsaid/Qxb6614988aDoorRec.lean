import Derived.Test.Qxb6614988aDoorNames
namespace Go.Proofs.Qxb6614988aDoor
open Go.RowKit Go.WideShapes

theorem zip_get (ns vs : List ByteArray) (hl : ns.length = vs.length) (j : Nat) (hj : j < ns.length) : ((ns.zip vs)[j]?.getD hd0).1 = ns[j]?.getD ByteArray.empty ∧ ((ns.zip vs)[j]?.getD hd0).2 = vs[j]?.getD ByteArray.empty := by
  have h1 : j < (ns.zip vs).length := by simp; omega
  have h2 : j < vs.length := by omega
  simp [List.getElem?_eq_getElem h1, List.getElem?_eq_getElem hj, List.getElem?_eq_getElem h2]

/-- Of the n places in block b the first k hold the headers. -/
def HdrPart (b n : Nat) (ns vs : List ByteArray) (k : Nat) (W : World) : Prop :=
  b < W.heap.size ∧ (∀ j, j < n * 2 → ∃ u, W.cell? ⟨b, j, none⟩ = some u ∧ W.frozen? ⟨b, j, none⟩ = false) ∧
  ∀ j, j < k → W.cell? ⟨b, j * 2, none⟩ = some (.string (ns[j]?.getD ByteArray.empty)) ∧ W.cell? ⟨b, j * 2 + 1, none⟩ = some (.string (vs[j]?.getD ByteArray.empty))

theorem HdrPart.step {b n : Nat} {ns vs : List ByteArray} {k : Nat} {W : World} (h : HdrPart b n ns vs k W) (hk : k < n) :
    HdrPart b n ns vs (k + 1) ((W.setCell ⟨b, k * 2, none⟩ (.string (ns[k]?.getD ByteArray.empty))).setCell ⟨b, k * 2 + 1, none⟩ (.string (vs[k]?.getD ByteArray.empty))).drew := by
  obtain ⟨h1, h2, h3⟩ := h
  generalize hx : Value.string (ns[k]?.getD ByteArray.empty) = x
  generalize hy : Value.string (vs[k]?.getD ByteArray.empty) = y
  obtain ⟨u1, hu1, _⟩ := h2 (k * 2) (by omega)
  obtain ⟨u2, hu2, _⟩ := h2 (k * 2 + 1) (by omega)
  have other : ∀ j, j ≠ k * 2 → j ≠ k * 2 + 1 → ((W.setCell ⟨b, k * 2, none⟩ x).setCell ⟨b, k * 2 + 1, none⟩ y).drew.cell? ⟨b, j, none⟩ = W.cell? ⟨b, j, none⟩ := fun j e1 e2 =>
    (World.cell?_setCell_other _ _ _ _ (by intro e; injection e; omega)).trans (World.cell?_setCell_other _ _ _ _ (by intro e; injection e; omega))
  have c1 : ((W.setCell ⟨b, k * 2, none⟩ x).setCell ⟨b, k * 2 + 1, none⟩ y).drew.cell? ⟨b, k * 2, none⟩ = some x :=
    (World.cell?_setCell_other _ _ _ _ (by intro e; injection e; omega)).trans (World.cell?_setCell_same' _ _ _ (by rw [hu1]; rfl))
  have c2 : ((W.setCell ⟨b, k * 2, none⟩ x).setCell ⟨b, k * 2 + 1, none⟩ y).drew.cell? ⟨b, k * 2 + 1, none⟩ = some y :=
    World.cell?_setCell_same' _ _ _ (by rw [World.cell?_setCell_other _ _ _ _ (by intro e; injection e; omega), hu2]; rfl)
  have fz : ∀ q, ((W.setCell ⟨b, k * 2, none⟩ x).setCell ⟨b, k * 2 + 1, none⟩ y).drew.frozen? q = W.frozen? q := fun q => by
    show ((W.setCell ⟨b, k * 2, none⟩ x).setCell ⟨b, k * 2 + 1, none⟩ y).frozen? q = _
    rw [World.frozen?_setCell, World.frozen?_setCell]
  refine ⟨by simp [World.setCell, World.drew]; exact h1, fun j hj => ?_, fun j hj => ?_⟩
  · obtain ⟨u, hu, hf⟩ := h2 j hj
    by_cases e1 : j = k * 2
    · subst e1; exact ⟨_, c1, (fz _).trans hf⟩
    · by_cases e2 : j = k * 2 + 1
      · subst e2; exact ⟨_, c2, (fz _).trans hf⟩
      · exact ⟨u, (other j e1 e2).trans hu, (fz _).trans hf⟩
  · by_cases e : j = k
    · subst e
      rw [hx, hy]
      exact ⟨c1, c2⟩
    · obtain ⟨e1, e2⟩ := h3 j (by omega)
      exact ⟨(other _ (by omega) (by omega)).trans e1, (other _ (by omega) (by omega)).trans e2⟩

/-- The block is one of headers. -/
def Blk (b n : Nat) (W : World) : Prop := ∃ cur : Array Value, W.heap[b]? = some (.cells cur 47 (0, 0)) ∧ cur.size = n * 2
theorem Blk.step {b n : Nat} {W : World} (h : Blk b n W) (i j : Nat) (x y : Value) : Blk b n ((W.setCell ⟨b, i, none⟩ x).setCell ⟨b, j, none⟩ y).drew := by
  obtain ⟨cur, h1, h2⟩ := h
  exact ⟨_, heap_setCell_same _ b j _ 47 y (heap_setCell_same W b i cur 47 x h1), by simpa using h2⟩
theorem Blk.row {b n base : Nat} {ns vs : List ByteArray} {W : World} (h : Blk b n W) (hP : HdrPart b n ns vs n W) (hns : ns.length = n) (hvs : vs.length = n) (hb : base ≤ b) (hm : n ≤ maxLen) : Row base W (.slice (some ⟨b, 0, none⟩) n n) (ns.zip vs) := by
  obtain ⟨cur, h1, h2⟩ := h
  have hz : (ns.zip vs).length = n := by simp [hns, hvs]
  show W.ownsRow base 47 2 _ (ns.zip vs).length (flat (ns.zip vs))
  rw [hz]
  refine ⟨by rw [flat_length, hz], .inr ⟨b, n, cur, rfl, hb, h1, Nat.le_refl _, hm, h2, ?_⟩⟩
  have hcell : ∀ i, W.cell? ⟨b, i, none⟩ = cur[i]? := fun i => by simp [World.cell?, h1]
  rw [List.take_of_length_le (by simp [h2])]
  refine List.ext_getElem? fun i => ?_
  by_cases hi : i < n * 2
  · obtain ⟨e1, e2⟩ := hP.2.2 (i / 2) (by omega)
    obtain ⟨f1, f2⟩ := flat_get (ns.zip vs) (i / 2) (by omega)
    obtain ⟨z1, z2⟩ := zip_get ns vs (by omega) (i / 2) (by omega)
    rw [hcell] at e1 e2
    rcases Nat.mod_two_eq_zero_or_one i with e | e
    · have hi2 : i / 2 * 2 = i := by omega
      rw [hi2] at e1 f1
      rw [f1, z1, ← e1]
      simp
    · have hi2 : i / 2 * 2 + 1 = i := by omega
      rw [hi2] at e2 f2
      rw [f2, z2, ← e2]
      simp
  · rw [List.getElem?_eq_none (by simp [h2]; omega), List.getElem?_eq_none (by rw [flat_length, hz]; omega)]

set_option maxRecDepth 100000 in
set_option maxHeartbeats 2000000 in
theorem headers15 (n0 : Nat) (v1 v2 : Value) (ns vs : List ByteArray) (w : World) (hn0 : n0 ≤ w.heap.size) (hns : SRow n0 w v1 ns) (hvs : SRow n0 w v2 vs) (hl : ns.length = vs.length) (hN : ns.length ≤ 2097152) :
    Calls Tryd.prog 15 #[v1, v2] w fun e w' => e = .returned (.slice (some ⟨w.heap.size, 0, none⟩) ns.length ns.length) ∧ Below w.heap.size w w' ∧ HdrPart w.heap.size ns.length ns vs ns.length w' ∧ Blk w.heap.size ns.length w' := by
  obtain ⟨a, cap, rfl, h1, h2, h3⟩ := hns
  obtain ⟨a2, cap2, rfl, g1, g2, g3⟩ := hvs
  rw [← hl] at g1 g3 ⊢
  have HL : Hid (ns.length = vs.length) := hl
  clear hl
  generalize hn : ns.length = n at *
  clear hn
  obtain ⟨i0, hi, hz0, hz1, hz2⟩ := info_parts Tryd.info47
  unfold maxLen at h2 g2
  go_enter Tryd.func15, Tryd.ntmps15
  go_wp2_with (at_make; refine wpList_make_full _ rfl _ _ 35 rfl w.heap.size 47 i0 (.agg #[.string ⟨#[]⟩, .string ⟨#[]⟩]) 2 Tryd.underlying35 hi hz0 hz1 _ _ _ _ n rfl rfl rfl rfl (by rw [hz2]; omega) (by unfold maxLen; omega) (Nat.le_refl _) ?_; intro w1 hown hgrow)
  have hB1 : Below w.heap.size w w1 := (Below.refl _ _).grown hgrow (Nat.le_refl _) (fun k e => by cases e)
  have hP0 : HdrPart w.heap.size n ns vs 0 w1 := by
    obtain ⟨_, h | ⟨g, cap, cur, e1, e2, e3, e4, e5, e6, _⟩⟩ := hown
    · cases h.1
    · cases e1
      refine ⟨(Array.getElem?_eq_some_iff.1 e3).1, fun j hj => ⟨cur[j]'(by omega), ?_, ?_⟩, fun j hj => absurd hj (by omega)⟩
      · simp [World.cell?, e3, show j < cur.size by omega]
      · simp [World.frozen?, e3]
  have hK0 : Blk w.heap.size n w1 := by
    obtain ⟨_, h | ⟨g, cap, cur, e1, e2, e3, e4, e5, e6, _⟩⟩ := hown
    · cases h.1
    · cases e1
      exact ⟨cur, e3, e6⟩
  clear hown hgrow hi hz0 hz1 hz2
  go_loopw [7] (fun i wr => ∃ k : Nat, k ≤ n ∧ i = .int .i64 k ∧ HdrPart w.heap.size n ns vs k wr ∧ Below w.heap.size w wr ∧ Blk w.heap.size n wr) (fun i _ => n - (intOf i).toNat)
  case atStart => exact ⟨0, Nat.zero_le _, rfl, hP0, hB1, hK0⟩
  case round =>
    clear hP0 hB1 hK0
    obtain ⟨k, hk, rfl, hP, hB, hK⟩ := hrel
    by_cases hlt : k < n
    · obtain ⟨b, off, rfl, hb, hc⟩ := h3 k hlt
      obtain ⟨b2, off2, rfl, hb2, hc2⟩ := g3 k hlt
      have hc' : wr.cell? ⟨b, off + k, none⟩ = some (.string (ns[k]?.getD ByteArray.empty)) := (hB.cell (p := ⟨b, off + k, none⟩) (by show b < _; omega)).trans hc
      have hc2' : wr.cell? ⟨b2, off2 + k, none⟩ = some (.string (vs[k]?.getD ByteArray.empty)) := (hB.cell (p := ⟨b2, off2 + k, none⟩) (by show b2 < _; omega)).trans hc2
      obtain ⟨u1, hu1, hf1⟩ := hP.2.1 (k * 2) (by omega)
      obtain ⟨u2, hu2, hf2⟩ := hP.2.1 (k * 2 + 1) (by omega)
      have hi1 : (k : Int) < (n : Int) := by omega
      clear hc hc2
      go_wp2_with fail
      go_region
      go_wp2_with fail
      go_roundw
      case rel => exact ⟨k + 1, by omega, by go_num, hP.step hlt, ((hB.setCell (p := ⟨w.heap.size, k * 2, none⟩) (Nat.le_refl _) _).setCell (p := ⟨w.heap.size, k * 2 + 1, none⟩) (Nat.le_refl _) _).drew, hK.step _ _ _ _⟩
      case measure => simp [intOf]; omega
    · obtain rfl : k = n := by omega
      go_wp2_with fail
      go_ret
      exact ⟨rfl, hB, hP, hK⟩

theorem HdrPart.below {b n k : Nat} {ns vs : List ByteArray} {A B : World} (h : HdrPart b n ns vs k A) (hB : Below A.heap.size A B) : HdrPart b n ns vs k B := by
  obtain ⟨h1, h2, h3⟩ := h
  refine ⟨Nat.lt_of_lt_of_le h1 hB.size, fun j hj => ?_, fun j hj => ?_⟩
  · obtain ⟨u, hu, hf⟩ := h2 j hj
    exact ⟨u, (hB.cell (p := ⟨b, j, none⟩) h1).trans hu, (hB.frozen (p := ⟨b, j, none⟩) h1).trans hf⟩
  · obtain ⟨e1, e2⟩ := h3 j hj
    exact ⟨(hB.cell (p := ⟨b, j * 2, none⟩) h1).trans e1, (hB.cell (p := ⟨b, j * 2 + 1, none⟩) h1).trans e2⟩

set_option maxRecDepth 100000 in
set_option maxHeartbeats 2000000 in
/-- ZZnewRecordLengths. -/
theorem newRec9 (n0 : Nat) (v1 v2 : Value) (ns vs : List ByteArray) (pa : Option Addr) (pn pc : Nat) (hp ht : Bool) (tl : Int) (w : World) (hn0 : n0 ≤ w.heap.size) (hns : SRow n0 w v1 ns) (hvs : SRow n0 w v2 vs) (hl : ns.length = vs.length) (hN : ns.length ≤ 2097152) :
    Calls Tryd.prog 9 #[v1, v2, .slice pa pn pc, .bool hp, .int .i64 tl, .bool ht] w fun e w' => ∃ br hv, e = .returned (.pointer (some ⟨br, 0, none⟩)) ∧ RecL w.heap.size w' br hv (ns.zip vs) hp ht (.slice pa pn pc) tl ∧ Below w.heap.size w w' := by
  obtain ⟨a, cap, rfl, _⟩ := id hns
  obtain ⟨a2, cap2, rfl, _⟩ := id hvs
  have hC := headers15 n0 _ _ ns vs w hn0 hns hvs hl hN
  have HL : Hid (ns.length = vs.length) := hl
  have hm : ns.length ≤ maxLen := by unfold maxLen; omega
  clear hns hvs hl
  generalize hnl : ns.length = n at *
  generalize hvl : vs.length = m at *
  have HN : Hid (ns.length = n) := hnl
  have HM : Hid (vs.length = m) := hvl
  clear hnl hvl
  go_enter Tryd.func9, Tryd.ntmps9
  go_wp2_with fail
  refine hC.mono ?_
  clear hC
  rintro e w1 ⟨rfl, hB, hP, hK⟩
  go_wp2_with fail
  go_ret
  have hBA : Below w1.heap.size w1 (w1.alloc (recObj (.slice (some ⟨w.heap.size, 0, none⟩) n n) hp ht (.slice pa pn pc) tl)) := (Below.refl _ _).alloc (Nat.le_refl _) _
  have hrow : Row w.heap.size w1 (.slice (some ⟨w.heap.size, 0, none⟩) n n) (ns.zip vs) := hK.row hP HN.out (HM.out.trans HL.out.symm) (Nat.le_refl _) hm
  have hlt := hP.1
  refine ⟨w1.heap.size, _, rfl, ⟨hB.size, ?_, hrow.kept fun g e => hBA.block g (hrow.lt g e).2, ?_⟩, hB.trans (hBA.mono hB.size)⟩
  · exact World.alloc_heap_new w1 _
  · intro e
    have := Option.some.inj e
    dsimp only at this
    omega
end Go.Proofs.Qxb6614988aDoor
