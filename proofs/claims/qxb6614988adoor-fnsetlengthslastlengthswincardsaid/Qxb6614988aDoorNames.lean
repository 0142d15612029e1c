import Derived.Test.Qxb6614988aDoorSet
namespace Go.Proofs.Qxb6614988aDoor
open Go.RowKit Go.WideShapes

/-- A row of strings, each below n0. -/
def SRow (n0 : Nat) (W : World) (v : Value) (ss : List ByteArray) : Prop :=
  ∃ a cap, v = .slice a ss.length cap ∧ ss.length ≤ cap ∧ cap ≤ maxLen ∧
    ∀ j, j < ss.length → ∃ b off, a = some ⟨b, off, none⟩ ∧ b < n0 ∧ W.cell? ⟨b, off + j, none⟩ = some (.string (ss[j]?.getD ByteArray.empty))
theorem StrRow.s {n0 : Nat} {W : World} {v : Value} {ss : List ByteArray} (h : StrRow n0 W v ss) : SRow n0 W v ss := by
  obtain ⟨a, cap, rfl, h1, h2, h3⟩ := h
  refine ⟨a, cap, rfl, h1, h2, fun j hj => ?_⟩
  obtain ⟨b, off, e, hb, _, hc⟩ := h3 j hj
  exact ⟨b, off, e, hb, hc⟩
theorem SRow.below {n0 : Nat} {A B : World} {v : Value} {ss : List ByteArray} (h : SRow n0 A v ss) (hB : Below n0 A B) : SRow n0 B v ss := by
  obtain ⟨a, cap, rfl, h1, h2, h3⟩ := h
  refine ⟨a, cap, rfl, h1, h2, fun j hj => ?_⟩
  obtain ⟨b, off, e, hb, hc⟩ := h3 j hj
  exact ⟨b, off, e, hb, (hB.cell (p := ⟨b, off + j, none⟩) hb).trans hc⟩
theorem SRow.mono {n0 n1 : Nat} {W : World} {v : Value} {ss : List ByteArray} (h : SRow n0 W v ss) (hn : n0 ≤ n1) : SRow n1 W v ss := by
  obtain ⟨a, cap, rfl, h1, h2, h3⟩ := h
  refine ⟨a, cap, rfl, h1, h2, fun j hj => ?_⟩
  obtain ⟨b, off, e, hb, hc⟩ := h3 j hj
  exact ⟨b, off, e, by omega, hc⟩
/-- One block is enough: the row lies in it. -/
theorem SRow.kept {n0 n1 : Nat} {A B : World} {a : Option Addr} {n cap : Nat} {ss : List ByteArray} (h : SRow n0 A (.slice a n cap) ss) (hk : ∀ b off, a = some ⟨b, off, none⟩ → b < n0 → b < n1 ∧ B.heap[b]? = A.heap[b]?) : SRow n1 B (.slice a n cap) ss := by
  obtain ⟨a', cap', e, h1, h2, h3⟩ := h
  cases e
  refine ⟨a, cap, rfl, h1, h2, fun j hj => ?_⟩
  obtain ⟨b, off, e, hb, hc⟩ := h3 j hj
  obtain ⟨k1, k2⟩ := hk b off e hb
  exact ⟨b, off, e, k1, (World.cell?_of_block (a := ⟨b, off + j, none⟩) k2).trans hc⟩

/-! ### zzSame, of two rows that are alike -/
set_option maxRecDepth 100000 in
set_option maxHeartbeats 2000000 in
theorem same13 (n0 n1 : Nat) (v1 v2 : Value) (ss : List ByteArray) (w : World) (h1 : SRow n0 w v1 ss) (h2 : SRow n1 w v2 ss) (hn0 : n0 ≤ w.heap.size) (hn1 : n1 ≤ w.heap.size) :
    Calls Tryd.prog 13 #[v1, v2] w fun e w' => e = .returned (.bool true) ∧ Below w.heap.size w w' := by
  obtain ⟨a, cap, rfl, h11, h12, h13⟩ := h1
  obtain ⟨a2, cap2, rfl, h21, h22, h23⟩ := h2
  unfold maxLen at h12 h22
  go_enter Tryd.func13, Tryd.ntmps13
  go_wp2_with fail
  go_loopw [5] (fun i wr => ∃ k : Nat, k ≤ ss.length ∧ i = .int .i64 k ∧ Below w.heap.size w wr) (fun i _ => ss.length - (intOf i).toNat)
  case atStart => exact ⟨0, Nat.zero_le _, rfl, Below.refl _ _⟩
  case round =>
    obtain ⟨k, hk, rfl, hB⟩ := hrel
    by_cases hlt : k < ss.length
    · obtain ⟨b, off, rfl, hb, hc⟩ := h13 k hlt
      obtain ⟨b2, off2, rfl, hb2, hc2⟩ := h23 k hlt
      have hc' : wr.cell? ⟨b, off + k, none⟩ = some (.string (ss[k]?.getD ByteArray.empty)) := (hB.cell (p := ⟨b, off + k, none⟩) (by show b < _; omega)).trans hc
      have hc2' : wr.cell? ⟨b2, off2 + k, none⟩ = some (.string (ss[k]?.getD ByteArray.empty)) := (hB.cell (p := ⟨b2, off2 + k, none⟩) (by show b2 < _; omega)).trans hc2
      have hki : (k : Int) < (ss.length : Int) := by omega
      clear hc hc2
      generalize ss[k]?.getD ByteArray.empty = s at *
      have hq : (s.toList == s.toList) = true := by simp
      go_wp2_with fail
      go_quiet (fail)
      go_wp2_with fail
      go_roundw
      case rel => exact ⟨k + 1, by omega, by go_num, hB.trans ⟨rfl, rfl, rfl, Nat.le_refl _, fun _ _ => rfl⟩⟩
      case measure => simp [intOf]; omega
    · go_wp2_with fail
      go_ret
      exact ⟨rfl, hB⟩

/-! ### ZZheaderNames, ZZheaderValues -/
theorem Tryd.info9' : (Tryd.prog.info? 9).map (fun i => (i.zero, i.size, i.bytes)) = some (some (.string ⟨#[]⟩), 1, 16) := by kernel_rfl
/-- Of the n places in block b the first k hold their strings. -/
def NPart (b n : Nat) (ss : List ByteArray) (k : Nat) (W : World) : Prop :=
  b < W.heap.size ∧ (∀ j, j < n → ∃ u, W.cell? ⟨b, j, none⟩ = some u ∧ W.frozen? ⟨b, j, none⟩ = false) ∧
  ∀ j, j < k → W.cell? ⟨b, j, none⟩ = some (.string (ss[j]?.getD ByteArray.empty))
theorem NPart.step {b n : Nat} {ss : List ByteArray} {k : Nat} {W : World} (h : NPart b n ss k W) (hk : k < n) : NPart b n ss (k + 1) (W.setCell ⟨b, k, none⟩ (.string (ss[k]?.getD ByteArray.empty))) := by
  obtain ⟨h1, h2, h3⟩ := h
  obtain ⟨u0, hu0, _⟩ := h2 k hk
  refine ⟨by simpa using h1, fun j hj => ?_, fun j hj => ?_⟩
  · obtain ⟨u, hu, hf⟩ := h2 j hj
    by_cases e : j = k
    · subst e
      exact ⟨_, World.cell?_setCell_same' _ _ _ (by rw [hu]; rfl), by rw [World.frozen?_setCell]; exact hf⟩
    · exact ⟨u, (World.cell?_setCell_other _ _ _ _ (by intro e2; injection e2; omega)).trans hu, by rw [World.frozen?_setCell]; exact hf⟩
  · by_cases e : j = k
    · subst e
      exact World.cell?_setCell_same' _ _ _ (by rw [hu0]; rfl)
    · exact (World.cell?_setCell_other _ _ _ _ (by intro e2; injection e2; omega)).trans (h3 j (by omega))
theorem NPart.row {b : Nat} {ss : List ByteArray} {W : World} (h : NPart b ss.length ss ss.length W) (hm : ss.length ≤ maxLen) : SRow W.heap.size W (.slice (some ⟨b, 0, none⟩) ss.length ss.length) ss :=
  ⟨_, _, rfl, Nat.le_refl _, hm, fun j hj => ⟨b, 0, rfl, h.1, by rw [Nat.zero_add]; exact h.2.2 j hj⟩⟩
theorem NPart.first {W : World} {g n base : Nat} {ss : List ByteArray} {xs : List Value} (h : W.ownsRow base 9 1 (.slice (some ⟨g, 0, none⟩) n n) n xs) : NPart g n ss 0 W := by
  obtain ⟨cur, hc, hb⟩ := made_block h
  refine ⟨(Array.getElem?_eq_some_iff.1 hb).1, fun j hj => ⟨cur[j]'(by omega), ?_, ?_⟩, fun j hj => absurd hj (by omega)⟩
  · simp [World.cell?, hb, show j < cur.length by omega]
  · simp [World.frozen?, hb]

theorem map_get1 (hs : List Hdr) (k : Nat) (hk : k < hs.length) : ((hs.map fun h => h.1)[k]?.getD ByteArray.empty) = (hs[k]?.getD hd0).1 := by
  simp [List.getElem?_eq_getElem hk]
theorem map_get2 (hs : List Hdr) (k : Nat) (hk : k < hs.length) : ((hs.map fun h => h.2)[k]?.getD ByteArray.empty) = (hs[k]?.getD hd0).2 := by
  simp [List.getElem?_eq_getElem hk]

/-- How the two end. -/
def NamesEnd (w : World) (ss : List ByteArray) (e : Ending) (w' : World) : Prop := ∃ n, e = .returned (.slice (some ⟨w.heap.size, 0, none⟩) n n) ∧ SRow w'.heap.size w' (.slice (some ⟨w.heap.size, 0, none⟩) n n) ss ∧ Below w.heap.size w w'

set_option maxRecDepth 100000 in
set_option maxHeartbeats 2000000 in
theorem names11 (base br : Nat) (hv : Value) (hs : List Hdr) (hp ht : Bool) (ps : Value) (tl : Int) (w : World) (hR : RecL base w br hv hs hp ht ps tl) (hN : hs.length ≤ 2097152) :
    Calls Tryd.prog 11 #[.pointer (some ⟨br, 0, none⟩)] w (NamesEnd w (hs.map fun h => h.1)) := by
  obtain ⟨a, cap, rfl⟩ := hR.row.form
  have hc9 := hR.c9
  have hlt := hR.lt
  have hrl := hR.row.lt
  have hml : (hs.map fun h => h.1).length = hs.length := by simp
  have HR : Hid (RecL base w br (.slice a hs.length cap) hs hp ht ps tl) := hR
  clear hR
  generalize hnn : hs.length = n at *
  obtain ⟨i0, hi, hz0, hz1, hz2⟩ := info_parts Tryd.info9'
  go_enter Tryd.func11, Tryd.ntmps11
  go_wp2_with (
    at_make
    refine wpList_make_full _ rfl _ _ 22 rfl w.heap.size 9 i0 (.string ⟨#[]⟩) 1 Tryd.underlying22 hi hz0 hz1 _ _ _ _ n rfl rfl rfl rfl (by rw [hz2]; omega) (by unfold maxLen; omega) (Nat.le_refl _) ?_
    intro w1 hown hgrow
    have hP0 : NPart w.heap.size n (hs.map fun h => h.1) 0 w1 := NPart.first hown
    have hB1 : Below w.heap.size w w1 := (Below.refl _ _).grown hgrow (Nat.le_refl _) (fun k e => by cases e)
    have hc9' : w1.cell? ⟨br, 9, none⟩ = some (.slice a n cap) := (hB1.cell (p := ⟨br, 9, none⟩) hlt).trans hc9
    clear hown hgrow)
  go_loopw [4, 16] (fun _ i wr => ∃ k : Nat, k ≤ n ∧ i = .int .i64 k ∧ NPart w.heap.size n (hs.map fun h => h.1) k wr ∧ Below w.heap.size w wr) (fun _ i _ => n - (intOf i).toNat)
  case atStart => exact ⟨0, Nat.zero_le _, rfl, hP0, hB1⟩
  case round =>
    clear hP0 hB1 hc9'
    obtain ⟨k, hk, rfl, hP, hB⟩ := hrel
    have hc9' : wr.cell? ⟨br, 9, none⟩ = some (.slice a n cap) := (hB.cell (p := ⟨br, 9, none⟩) hlt).trans hc9
    by_cases hlt2 : k < n
    · obtain ⟨g, cap', e, hq1, hq2, hg1, hg2, hc1, hc2, _⟩ := HR.out.row.cell k (by omega)
      rw [hnn] at e
      cases e
      have hd1 : wr.cell? ⟨g, k * 2, none⟩ = some (.string (hs[k]?.getD hd0).1) := (hB.cell (p := ⟨g, k * 2, none⟩) hg2).trans hc1
      rw [← map_get1 hs k (by omega)] at hd1
      have HP : Hid (NPart w.heap.size n (hs.map fun h => h.1) k wr) := hP
      obtain ⟨u, hu, hf⟩ := hP.2.1 k hlt2
      have hki : (k : Int) < (n : Int) := by omega
      clear hc1 hc2 hP hq1 hq2
      have HS := HP.out.step hlt2
      have HS' : Hid (NPart w.heap.size n (hs.map fun h => h.1) (k + 1) (wr.setCell ⟨w.heap.size, k, none⟩ (.string ((hs.map fun h => h.1)[k]?.getD ByteArray.empty)))) := HS
      clear HS
      generalize (hs.map fun h => h.1)[k]?.getD ByteArray.empty = s at *
      go_wp2_with fail
      go_roundw
      case rel => exact ⟨k + 1, by omega, by go_num, HS'.out, hB.setCell (p := ⟨w.heap.size, k, none⟩) (Nat.le_refl _) _⟩
      case measure => simp [intOf]; omega
    · have hke : k = n := by omega
      subst hke
      go_wp2_with fail
      go_ret
      refine ⟨k, rfl, ?_, hB⟩
      rw [← hml] at hP ⊢
      exact hP.row (by rw [hml]; unfold maxLen; omega)

set_option maxRecDepth 100000 in
set_option maxHeartbeats 2000000 in
theorem values12 (base br : Nat) (hv : Value) (hs : List Hdr) (hp ht : Bool) (ps : Value) (tl : Int) (w : World) (hR : RecL base w br hv hs hp ht ps tl) (hN : hs.length ≤ 2097152) :
    Calls Tryd.prog 12 #[.pointer (some ⟨br, 0, none⟩)] w (NamesEnd w (hs.map fun h => h.2)) := by
  obtain ⟨a, cap, rfl⟩ := hR.row.form
  have hc9 := hR.c9
  have hlt := hR.lt
  have hrl := hR.row.lt
  have hml : (hs.map fun h => h.2).length = hs.length := by simp
  have HR : Hid (RecL base w br (.slice a hs.length cap) hs hp ht ps tl) := hR
  clear hR
  generalize hnn : hs.length = n at *
  obtain ⟨i0, hi, hz0, hz1, hz2⟩ := info_parts Tryd.info9'
  go_enter Tryd.func12, Tryd.ntmps12
  go_wp2_with (
    at_make
    refine wpList_make_full _ rfl _ _ 22 rfl w.heap.size 9 i0 (.string ⟨#[]⟩) 1 Tryd.underlying22 hi hz0 hz1 _ _ _ _ n rfl rfl rfl rfl (by rw [hz2]; omega) (by unfold maxLen; omega) (Nat.le_refl _) ?_
    intro w1 hown hgrow
    have hP0 : NPart w.heap.size n (hs.map fun h => h.2) 0 w1 := NPart.first hown
    have hB1 : Below w.heap.size w w1 := (Below.refl _ _).grown hgrow (Nat.le_refl _) (fun k e => by cases e)
    have hc9' : w1.cell? ⟨br, 9, none⟩ = some (.slice a n cap) := (hB1.cell (p := ⟨br, 9, none⟩) hlt).trans hc9
    clear hown hgrow)
  go_loopw [4, 16] (fun _ i wr => ∃ k : Nat, k ≤ n ∧ i = .int .i64 k ∧ NPart w.heap.size n (hs.map fun h => h.2) k wr ∧ Below w.heap.size w wr) (fun _ i _ => n - (intOf i).toNat)
  case atStart => exact ⟨0, Nat.zero_le _, rfl, hP0, hB1⟩
  case round =>
    clear hP0 hB1 hc9'
    obtain ⟨k, hk, rfl, hP, hB⟩ := hrel
    have hc9' : wr.cell? ⟨br, 9, none⟩ = some (.slice a n cap) := (hB.cell (p := ⟨br, 9, none⟩) hlt).trans hc9
    by_cases hlt2 : k < n
    · obtain ⟨g, cap', e, hq1, hq2, hg1, hg2, hc1, hc2, _⟩ := HR.out.row.cell k (by omega)
      rw [hnn] at e
      cases e
      have hd1 : wr.cell? ⟨g, k * 2 + 1, none⟩ = some (.string (hs[k]?.getD hd0).2) := (hB.cell (p := ⟨g, k * 2 + 1, none⟩) hg2).trans hc2
      rw [← map_get2 hs k (by omega)] at hd1
      have HP : Hid (NPart w.heap.size n (hs.map fun h => h.2) k wr) := hP
      obtain ⟨u, hu, hf⟩ := hP.2.1 k hlt2
      have hki : (k : Int) < (n : Int) := by omega
      clear hc1 hc2 hP hq1 hq2
      have HS := HP.out.step hlt2
      have HS' : Hid (NPart w.heap.size n (hs.map fun h => h.2) (k + 1) (wr.setCell ⟨w.heap.size, k, none⟩ (.string ((hs.map fun h => h.2)[k]?.getD ByteArray.empty)))) := HS
      clear HS
      generalize (hs.map fun h => h.2)[k]?.getD ByteArray.empty = s at *
      go_wp2_with fail
      go_roundw
      case rel => exact ⟨k + 1, by omega, by go_num, HS'.out, hB.setCell (p := ⟨w.heap.size, k, none⟩) (Nat.le_refl _) _⟩
      case measure => simp [intOf]; omega
    · have hke : k = n := by omega
      subst hke
      go_wp2_with fail
      go_ret
      refine ⟨k, rfl, ?_, hB⟩
      rw [← hml] at hP ⊢
      exact hP.row (by rw [hml]; unfold maxLen; omega)
end Go.Proofs.Qxb6614988aDoor
