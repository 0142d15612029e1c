import Derived.Test.Qxb6614327aPlain
namespace Go.Proofs.Qxb6614327a
open Go.RowKit Go.Maps

/-! ### how many -/
theorem key_ok (s : ByteArray) : WideAt.IsKeyLit (keyLit s) := trivial
theorem tidy_setD (ss : List ByteArray) : Tidy (setD ss) := tidy_setOf _ _ (keys_ok ss)
theorem nodup_le' : ∀ {xs ys : List ByteArray}, xs.Nodup → (∀ s ∈ xs, s ∈ ys) → xs.length ≤ ys.length
  | [], _, _, _ => Nat.zero_le _
  | x :: xs, ys, hn, hs => by
    obtain ⟨hx, hn'⟩ := List.nodup_cons.1 hn
    obtain ⟨a, b, rfl⟩ := List.append_of_mem (hs x (by simp))
    have := nodup_le' (ys := a ++ b) hn' (fun s h => by
      have h1 := hs s (by simp [h])
      have h2 : s ≠ x := fun e => hx (by rw [← e]; exact h)
      simp only [List.mem_append, List.mem_cons] at h1 ⊢
      rcases h1 with h1 | h1 | h1
      · exact .inl h1
      · exact absurd h1 h2
      · exact .inr h1)
    simp at this ⊢
    omega

theorem nodup_snoc {zs : List ByteArray} {s : ByteArray} (hn : zs.Nodup) (hs : s ∉ zs) : (zs ++ [s]).Nodup := by
  rw [List.nodup_append]
  refine ⟨hn, by simp, fun a ha b hb e => hs ?_⟩
  simp at hb
  rw [← hb, ← e]
  exact ha

theorem size_take (ys : List ByteArray) : ∀ k, k ≤ ys.length → ∃ zs : List ByteArray, zs.Nodup ∧ (∀ s, s ∈ zs ↔ s ∈ ys.take k) ∧ Maps.size (setD (ys.take k)) = zs.length
  | 0, _ => ⟨[], List.nodup_nil, by simp, by simp [setD_nil, Maps.size]⟩
  | k + 1, hk => by
    obtain ⟨zs, h1, h2, h3⟩ := size_take ys k (by omega)
    have hkl : k < ys.length := by omega
    have e : ys[k]?.getD ByteArray.empty = ys[k] := by simp [hkl]
    have hput := Maps.size_put (k := keyLit ys[k]) (tidy_setD (ys.take k)) (.agg [])
    rw [setD_take ys k hkl, e, hput]
    have htk : ∀ s, s ∈ ys.take (k + 1) ↔ s ∈ ys.take k ∨ s = ys[k] := fun s => by
      rw [List.take_succ_eq_append_getElem hkl, List.mem_append]
      simp
    cases hb : has (setD (ys.take k)) (keyLit ys[k])
    · have hn : ys[k] ∉ zs := fun h => by
        rw [has_mem.2 ((h2 _).1 h)] at hb
        cases hb
      refine ⟨zs ++ [ys[k]], nodup_snoc h1 hn, fun s => ?_, by simp [h3]⟩
      rw [htk, List.mem_append, h2 s]
      simp
    · refine ⟨zs, h1, fun s => ?_, by simp [h3]⟩
      rw [htk, h2 s]
      constructor
      · exact .inl
      · rintro (h | rfl)
        · exact h
        · exact has_mem.1 hb

/-- The set of ys has as many as a list of the same strings, each once. -/
theorem size_setD {xs ys : List ByteArray} (hn : xs.Nodup) (hm : ∀ s, s ∈ xs ↔ s ∈ ys) : Maps.size (setD ys) = xs.length := by
  obtain ⟨zs, h1, h2, h3⟩ := size_take ys ys.length (Nat.le_refl _)
  rw [List.take_length] at h2 h3
  rw [h3]
  exact Nat.le_antisymm (nodup_le' h1 (fun s h => (hm s).2 ((h2 s).1 h))) (nodup_le' hn (fun s h => (h2 s).2 ((hm s).1 h)))

theorem lookS (W : World) (bm n : Nat) (ss : List ByteArray) (p : ByteArray) (hs : W.ownsMap Try.prog 9 (unitElem (H := Unit)) bm n (setD ss)) (hp : p.size ≤ maxLen) (hin : p ∈ ss) :
    (Instr.lookup 29 (.map (some bm)) (.string p) true).run Try.prog W = .ok (.tuple #[.agg #[], .bool true]) W := by
  obtain ⟨v, ps, h1, h2⟩ := World.ownsMap.look_ok (e := 43) hs key9 Try.underlying29 (zero43 W) unitElem_mk (keyOf9 hp)
  obtain ⟨rfl, _⟩ := unitElem_inv h2
  rw [h1]
  have := has_mem.2 hin
  unfold keyLit at this
  rw [this]

/-! ### unionOf -/
theorem flat_take (gs : List (List ByteArray)) (k : Nat) (h : k < gs.length) : (gs.take (k + 1)).flatten = (gs.take k).flatten ++ gs[k]?.getD [] := by
  rw [List.take_succ_eq_append_getElem h, List.flatten_append]
  simp [h]
theorem flat_le (gs : List (List ByteArray)) (k : Nat) (h : k < gs.length) : (gs.take k).flatten.length + (gs[k]?.getD []).length ≤ gs.flatten.length := by
  have h1 := congrArg List.length (flat_take gs k h)
  have h2 : (gs.take (k + 1)).flatten.length ≤ gs.flatten.length := by
    conv => rhs; rw [← List.take_append_drop (k + 1) gs, List.flatten_append, List.length_append]
    omega
  rw [List.length_append] at h1
  omega

set_option maxRecDepth 100000 in
set_option maxHeartbeats 1000000 in
theorem union17 (n0 : Nat) (v : Value) (gs : List (List ByteArray)) (w : World) (hn0 : n0 ≤ w.heap.size) (hg : Grid n0 w v gs) (hN : gs.flatten.length ≤ 65536) :
    Calls Try.prog 17 #[v] w fun e w' => e = .returned (.map (some w.heap.size)) ∧ w'.ownsMap Try.prog 9 (unitElem (H := Unit)) w.heap.size gs.flatten.length (setD gs.flatten) ∧ Below w.heap.size w w' := by
  obtain ⟨a, cap, rfl, h1, h2, h3⟩ := hg
  have hmm := @run_makeMap Try.prog
  unfold maxLen at h2
  go_enter Try.func17, Try.ntmps17
  go_wp2
  go_loopw [4] (fun i wr => ∃ k : Nat, k ≤ gs.length ∧ i = .int .i64 k ∧ wr.ownsMap Try.prog 9 (unitElem (H := Unit)) w.heap.size (gs.take k).flatten.length (setD (gs.take k).flatten) ∧ Below w.heap.size w wr) (fun i _ => gs.length - (intOf i).toNat)
  case atStart => exact ⟨0, Nat.zero_le _, rfl, World.ownsMap_made _ _ _ _, (Below.refl _ _).alloc (Nat.le_refl _) _⟩
  case round =>
    obtain ⟨k, hk, rfl, hown, hB⟩ := hrel
    by_cases hlt : k < gs.length
    · obtain ⟨b, off, u, rfl, hb, hc0, a2, cap2, rfl, h4, h5, h6⟩ := h3 k hlt
      have HF : Hid ((gs.take (k + 1)).flatten = (gs.take k).flatten ++ gs[k]?.getD []) := flat_take gs k hlt
      have hfl := flat_le gs k hlt
      unfold maxLen at h5
      generalize gs[k]?.getD [] = ss at *
      generalize (gs.take k).flatten = fs at *
      have hc : ∀ V, Below w.heap.size w V → V.cell? ⟨b, off + k, none⟩ = some (.slice a2 ss.length cap2) := fun V hV => (hV.cell (p := ⟨b, off + k, none⟩) (Nat.lt_of_lt_of_le hb hn0)).trans hc0
      have hc1 := hc wr hB
      clear hc0
      go_wp2
      go_loopw [5] (fun i wr => ∃ k2 : Nat, k2 ≤ ss.length ∧ i = .int .i64 k2 ∧ wr.ownsMap Try.prog 9 (unitElem (H := Unit)) w.heap.size (fs.length + k2) (setD (fs ++ ss.take k2)) ∧ Below w.heap.size w wr) (fun i _ => ss.length - (intOf i).toNat)
      case atStart => exact ⟨0, Nat.zero_le _, rfl, by simpa using hown, hB⟩
      case round =>
        clear hown hB hc1
        obtain ⟨k2, hk2, rfl, hown, hB⟩ := hrel
        have hc1 := hc wr hB
        by_cases hlt2 : k2 < ss.length
        · obtain ⟨b2, off2, rfl, hb2, hs, hc2⟩ := h6 k2 hlt2
          have hc3 : wr.cell? ⟨b2, off2 + k2, none⟩ = some (.string (ss[k2]?.getD ByteArray.empty)) := (hB.cell (p := ⟨b2, off2 + k2, none⟩) (Nat.lt_of_lt_of_le hb2 hn0)).trans hc2
          have HT : Hid (setD (fs ++ ss.take (k2 + 1)) = (setD (fs ++ ss.take k2)).put (keyLit (ss[k2]?.getD ByteArray.empty)) (.agg [])) := by
            show _ = _
            rw [List.take_succ_eq_append_getElem hlt2, ← List.append_assoc, setD_snoc]
            simp [hlt2]
          have hkey := keyOf9 hs
          clear hc2
          generalize ss[k2]?.getD ByteArray.empty = s at *
          go_wp2_with (at_mapUpdate; refine wpList_mapUpdate_own _ rfl _ _ _ 29 rfl 9 43 key9 Try.underlying29 (unitElem (H := Unit)) w.heap.size (fs.length + k2) _ rfl hown (by unfold maxLen; omega) _ _ _ rfl rfl hkey _ [] unitElem_mk ?_; intro w1 hown1 hgrow1)
          go_roundw
          case rel => exact ⟨k2 + 1, by omega, by go_num, by rw [HT.out]; exact hown1, hB.grown hgrow1 hB.size (fun j e => by cases e; exact Nat.le_refl _)⟩
          case measure => simp [intOf]; omega
        · obtain rfl : k2 = ss.length := by omega
          rw [List.take_length] at hown
          go_wp2
          go_roundw
          case rel => exact ⟨k + 1, by omega, by go_num, by rw [HF.out, List.length_append]; exact hown, hB⟩
          case measure => simp [intOf]; omega
    · obtain rfl : k = gs.length := by omega
      rw [List.take_length] at hown
      go_wp2
      go_ret
      exact ⟨rfl, hown, hB⟩
end Go.Proofs.Qxb6614327a
