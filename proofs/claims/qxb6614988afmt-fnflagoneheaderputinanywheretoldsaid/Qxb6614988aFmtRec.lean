import Derived.Test.Qxb6614988aFmtBase
import Derived.Test.Qxb6614988aFmtFlag
import Derived.BigRegion
import Derived.RangeFuncRecord
namespace Go.Proofs.Qxb6614988aFmt
open Go.RowKit

theorem Tryf.info48 : (Tryf.prog.info? 48).map (fun i => (i.zero, i.size, i.bytes)) = some (some (.agg #[.string ⟨#[]⟩, .string ⟨#[]⟩]), 2, 32) := by kernel_rfl

/-- Of the n places in block b the first k hold the headers. -/
def HdrPart (b n : Nat) (ns vs : List ByteArray) (k : Nat) (W : World) : Prop :=
  b < W.heap.size ∧ (∀ j, j < n * 2 → ∃ u, W.cell? ⟨b, j, none⟩ = some u ∧ W.frozen? ⟨b, j, none⟩ = false) ∧
  ∀ j, j < k → W.cell? ⟨b, j * 2, none⟩ = some (.string (ns[j]?.getD ByteArray.empty)) ∧ W.cell? ⟨b, j * 2 + 1, none⟩ = some (.string (vs[j]?.getD ByteArray.empty))

theorem HdrPart.step {b n : Nat} {ns vs : List ByteArray} {k : Nat} {W : World} (h : HdrPart b n ns vs k W) (hk : k < n) :
    HdrPart b n ns vs (k + 1) ((W.setCell ⟨b, k * 2, none⟩ (.string (ns[k]?.getD ByteArray.empty))).setCell ⟨b, k * 2 + 1, none⟩ (.string (vs[k]?.getD ByteArray.empty))).drew := by
  obtain ⟨h1, h2, h3⟩ := h
  generalize hx : Value.string (ns[k]?.getD ByteArray.empty) = x
  generalize hy : Value.string (vs[k]?.getD ByteArray.empty) = y
  obtain ⟨u1, hu1, _⟩ := h2 (k * 2) (by omega)
  obtain ⟨u2, hu2, _⟩ := h2 (k * 2 + 1) (by omega)
  have other : ∀ j, j ≠ k * 2 → j ≠ k * 2 + 1 → ((W.setCell ⟨b, k * 2, none⟩ x).setCell ⟨b, k * 2 + 1, none⟩ y).drew.cell? ⟨b, j, none⟩ = W.cell? ⟨b, j, none⟩ := fun j e1 e2 =>
    (World.cell?_setCell_other _ _ _ _ (by intro e; injection e; omega)).trans (World.cell?_setCell_other _ _ _ _ (by intro e; injection e; omega))
  have c1 : ((W.setCell ⟨b, k * 2, none⟩ x).setCell ⟨b, k * 2 + 1, none⟩ y).drew.cell? ⟨b, k * 2, none⟩ = some x :=
    (World.cell?_setCell_other _ _ _ _ (by intro e; injection e; omega)).trans (World.cell?_setCell_same' _ _ _ (by rw [hu1]; rfl))
  have c2 : ((W.setCell ⟨b, k * 2, none⟩ x).setCell ⟨b, k * 2 + 1, none⟩ y).drew.cell? ⟨b, k * 2 + 1, none⟩ = some y :=
    World.cell?_setCell_same' _ _ _ (by rw [World.cell?_setCell_other _ _ _ _ (by intro e; injection e; omega), hu2]; rfl)
  have fz : ∀ q, ((W.setCell ⟨b, k * 2, none⟩ x).setCell ⟨b, k * 2 + 1, none⟩ y).drew.frozen? q = W.frozen? q := fun q => by
    show ((W.setCell ⟨b, k * 2, none⟩ x).setCell ⟨b, k * 2 + 1, none⟩ y).frozen? q = _
    rw [World.frozen?_setCell, World.frozen?_setCell]
  refine ⟨by simp [World.setCell, World.drew]; exact h1, fun j hj => ?_, fun j hj => ?_⟩
  · obtain ⟨u, hu, hf⟩ := h2 j hj
    by_cases e1 : j = k * 2
    · subst e1; exact ⟨_, c1, (fz _).trans hf⟩
    · by_cases e2 : j = k * 2 + 1
      · subst e2; exact ⟨_, c2, (fz _).trans hf⟩
      · exact ⟨u, (other j e1 e2).trans hu, (fz _).trans hf⟩
  · by_cases e : j = k
    · subst e
      rw [hx, hy]
      exact ⟨c1, c2⟩
    · obtain ⟨e1, e2⟩ := h3 j (by omega)
      exact ⟨(other _ (by omega) (by omega)).trans e1, (other _ (by omega) (by omega)).trans e2⟩

set_option maxRecDepth 100000 in
set_option maxHeartbeats 2000000 in
theorem headers12 (n0 : Nat) (v1 v2 : Value) (ns vs : List ByteArray) (w : World) (hn0 : n0 ≤ w.heap.size) (hns : StrRow n0 w v1 ns) (hvs : StrRow n0 w v2 vs) (hl : ns.length = vs.length) (hN : ns.length ≤ 1048577) :
    Calls Tryf.prog 12 #[v1, v2] w fun e w' => e = .returned (.slice (some ⟨w.heap.size, 0, none⟩) ns.length ns.length) ∧ Below w.heap.size w w' ∧ HdrPart w.heap.size ns.length ns vs ns.length w' := by
  obtain ⟨a, cap, rfl, h1, h2, h3⟩ := hns
  obtain ⟨a2, cap2, rfl, g1, g2, g3⟩ := hvs
  rw [← hl] at g1 g3 ⊢
  have HL : Hid (ns.length = vs.length) := hl
  clear hl
  generalize hn : ns.length = n at *
  clear hn
  obtain ⟨i0, hi, hz0, hz1, hz2⟩ := info_parts Tryf.info48
  unfold maxLen at h2 g2
  go_enter Tryf.func12, Tryf.ntmps12
  go_wp2_with (at_make; refine wpList_make_full _ rfl _ _ 34 rfl w.heap.size 48 i0 (.agg #[.string ⟨#[]⟩, .string ⟨#[]⟩]) 2 Tryf.underlying34 hi hz0 hz1 _ _ _ _ n rfl rfl rfl rfl (by rw [hz2]; omega) (by unfold maxLen; omega) (Nat.le_refl _) ?_; intro w1 hown hgrow)
  have hB1 : Below w.heap.size w w1 := (Below.refl _ _).grown hgrow (Nat.le_refl _) (fun k e => by cases e)
  have hP0 : HdrPart w.heap.size n ns vs 0 w1 := by
    obtain ⟨_, h | ⟨g, cap, cur, e1, e2, e3, e4, e5, e6, _⟩⟩ := hown
    · cases h.1
    · cases e1
      refine ⟨(Array.getElem?_eq_some_iff.1 e3).1, fun j hj => ⟨cur[j]'(by omega), ?_, ?_⟩, fun j hj => absurd hj (by omega)⟩
      · simp [World.cell?, e3, show j < cur.size by omega]
      · simp [World.frozen?, e3]
  clear hown hgrow hi hz0 hz1 hz2
  go_loopw [7] (fun i wr => ∃ k : Nat, k ≤ n ∧ i = .int .i64 k ∧ HdrPart w.heap.size n ns vs k wr ∧ Below w.heap.size w wr) (fun i _ => n - (intOf i).toNat)
  case atStart => exact ⟨0, Nat.zero_le _, rfl, hP0, hB1⟩
  case round =>
    clear hP0 hB1
    obtain ⟨k, hk, rfl, hP, hB⟩ := hrel
    by_cases hlt : k < n
    · obtain ⟨b, off, rfl, hb, _, hc⟩ := h3 k hlt
      obtain ⟨b2, off2, rfl, hb2, _, hc2⟩ := g3 k hlt
      have hc' : wr.cell? ⟨b, off + k, none⟩ = some (.string (ns[k]?.getD ByteArray.empty)) := (hB.cell (p := ⟨b, off + k, none⟩) (by show b < _; omega)).trans hc
      have hc2' : wr.cell? ⟨b2, off2 + k, none⟩ = some (.string (vs[k]?.getD ByteArray.empty)) := (hB.cell (p := ⟨b2, off2 + k, none⟩) (by show b2 < _; omega)).trans hc2
      obtain ⟨u1, hu1, hf1⟩ := hP.2.1 (k * 2) (by omega)
      obtain ⟨u2, hu2, hf2⟩ := hP.2.1 (k * 2 + 1) (by omega)
      have hi1 : (k : Int) < (n : Int) := by omega
      clear hc hc2
      go_wp2_with fail
      go_region
      go_wp2_with fail
      go_roundw
      case rel => exact ⟨k + 1, by omega, by go_num, hP.step hlt, ((hB.setCell (p := ⟨w.heap.size, k * 2, none⟩) (Nat.le_refl _) _).setCell (p := ⟨w.heap.size, k * 2 + 1, none⟩) (Nat.le_refl _) _).drew⟩
      case measure => simp [intOf]; omega
    · obtain rfl : k = n := by omega
      go_wp2_with fail
      go_ret
      exact ⟨rfl, hB, hP⟩

theorem HdrPart.below {b n k : Nat} {ns vs : List ByteArray} {A B : World} (h : HdrPart b n ns vs k A) (hB : Below A.heap.size A B) : HdrPart b n ns vs k B := by
  obtain ⟨h1, h2, h3⟩ := h
  refine ⟨Nat.lt_of_lt_of_le h1 hB.size, fun j hj => ?_, fun j hj => ?_⟩
  · obtain ⟨u, hu, hf⟩ := h2 j hj
    exact ⟨u, (hB.cell (p := ⟨b, j, none⟩) h1).trans hu, (hB.frozen (p := ⟨b, j, none⟩) h1).trans hf⟩
  · obtain ⟨e1, e2⟩ := h3 j hj
    exact ⟨(hB.cell (p := ⟨b, j * 2, none⟩) h1).trans e1, (hB.cell (p := ⟨b, j * 2 + 1, none⟩) h1).trans e2⟩

theorem zip_get (ns vs : List ByteArray) (hl : ns.length = vs.length) (j : Nat) (hj : j < ns.length) : ((ns.zip vs)[j]?.getD hd0).1 = ns[j]?.getD ByteArray.empty ∧ ((ns.zip vs)[j]?.getD hd0).2 = vs[j]?.getD ByteArray.empty := by
  have h1 : j < (ns.zip vs).length := by simp; omega
  have h2 : j < vs.length := by omega
  simp [List.getElem?_eq_getElem h1, List.getElem?_eq_getElem hj, List.getElem?_eq_getElem h2]

theorem RecAt.of_part {b br : Nat} {ns vs : List ByteArray} {W : World} (hl : ns.length = vs.length) (hm : ns.length ≤ maxLen) (h : HdrPart b ns.length ns vs ns.length W) (hbr : br < W.heap.size) (hc : W.cell? ⟨br, 9, none⟩ = some (.slice (some ⟨b, 0, none⟩) ns.length ns.length)) :
    RecAt W.heap.size W br (ns.zip vs) := by
  obtain ⟨h1, h2, h3⟩ := h
  have hz : (ns.zip vs).length = ns.length := by simp; omega
  refine ⟨hbr, some ⟨b, 0, none⟩, ns.length, by rw [hz]; exact hc, by rw [hz]; exact hm, fun j hj => ?_⟩
  obtain ⟨e1, e2⟩ := h3 j (by omega)
  obtain ⟨z1, z2⟩ := zip_get ns vs hl j (by omega)
  exact ⟨b, 0, rfl, h1, by rw [z1, Nat.zero_add]; exact e1, by rw [z2, Nat.zero_add]; exact e2⟩

set_option maxRecDepth 100000 in
set_option maxHeartbeats 2000000 in
/-- ZZnewRecordHeaders. -/
theorem newRec9 (n0 : Nat) (v1 v2 : Value) (ns vs : List ByteArray) (w : World) (hn0 : n0 ≤ w.heap.size) (hns : StrRow n0 w v1 ns) (hvs : StrRow n0 w v2 vs) (hl : ns.length = vs.length) (hN : ns.length ≤ 1048577) :
    Calls Tryf.prog 9 #[v1, v2] w fun e w' => ∃ br, e = .returned (.pointer (some ⟨br, 0, none⟩)) ∧ Below w.heap.size w w' ∧ RecAt w'.heap.size w' br (ns.zip vs) := by
  obtain ⟨a, cap, rfl, _⟩ := id hns
  obtain ⟨a2, cap2, rfl, _⟩ := id hvs
  have hC := headers12 n0 _ _ ns vs w hn0 hns hvs hl hN
  have HL : Hid (ns.length = vs.length) := hl
  have hm : ns.length ≤ maxLen := by unfold maxLen; omega
  clear hns hvs hl
  generalize hnl : ns.length = n at *
  generalize hvl : vs.length = m at *
  have HN : Hid (ns.length = n) := hnl
  have HM : Hid (vs.length = m) := hvl
  clear hnl hvl
  go_enter Tryf.func9, Tryf.ntmps9
  go_wp2_with fail
  refine hC.mono ?_
  clear hC
  rintro e w1 ⟨rfl, hB, hP⟩
  go_wp2_with fail
  go_ret
  have hBA : Below w1.heap.size w1 (w1.alloc (.cells #[.int .i64 0, .pointer none, .int .i64 0, .int .i64 0, .int .i64 0, .int .i64 0, .string ⟨#[]⟩, .string ⟨#[]⟩, .int .i64 0, .slice (some ⟨w.heap.size, 0, none⟩) n n, .bool false, .slice none 0 0, .slice none 0 0, .bool false, .int .i64 0, .int .i64 0, .nilIface] 43)) := (Below.refl _ _).alloc (Nat.le_refl _) _
  refine ⟨w1.heap.size, rfl, hB.trans (hBA.mono hB.size), ?_⟩
  have h9 := HN.out
  have h10 := HM.out
  subst h9 h10
  exact RecAt.of_part HL.out hm (hP.below hBA) (by simp) (by unfold World.cell?; rw [World.alloc_heap_new]; rfl)
end Go.Proofs.Qxb6614988aFmt
