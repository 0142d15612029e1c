import Derived.Test.Qxb6614327aUnion
namespace Go.Proofs.Qxb6614327a
open Go.RowKit Go.Maps

theorem zero4 (w : World) : (zeroValue 4).run Try.prog w = .ok (.bool false) w := by kernel_rfl
/-- The strings met so far, as a map to true. -/
def metD (ss : List ByteArray) : DataW Unit := setOf (.lit (.bool true)) (ss.map keyLit)
theorem metD_take (ss : List ByteArray) (k : Nat) (h : k < ss.length) : metD (ss.take (k + 1)) = (metD (ss.take k)).put (keyLit (ss[k]?.getD ByteArray.empty)) (.lit (.bool true)) := by
  unfold metD
  rw [List.take_succ_eq_append_getElem h, List.map_append, List.getElem?_eq_getElem h]
  exact setOf_snoc _ _ _
theorem has_metD (ss : List ByteArray) (s : ByteArray) : has (metD ss) (keyLit s) = true ↔ s ∈ ss := by
  rw [← any_mem]
  unfold metD
  rw [has_setOf _ _ _ (keys_ok ss), List.any_map]
  have : (fun x : Lit => x.sameKey (keyLit s)) ∘ keyLit = fun x => x == s := by
    funext x
    exact keyLit_same x s
  rw [this]

theorem plainBool_inv {v : Value} {b : Bool} {ps : List MemPlace} (h : plainElem (H := Unit) Try.prog 4 v = some (.lit (.bool b), ps)) : v = .bool b := by
  unfold plainElem at h
  rw [Try.underlying4] at h
  cases v <;> simp at h
  rw [h.1]

theorem lookMet (W : World) (bm n : Nat) (ss : List ByteArray) (p : ByteArray) (hs : W.ownsMap Try.prog 9 (plainElem (H := Unit) Try.prog 4) bm n (metD ss)) (hp : p.size ≤ maxLen) (hin : p ∉ ss) :
    (Instr.lookup 52 (.map (some bm)) (.string p) false).run Try.prog W = .ok (.bool false) W := by
  obtain ⟨v, ps, h1, h2⟩ := World.ownsMap.lookup (e := 4) hs key9 Try.underlying52 (zero4 W) (plainElem_bool Try.underlying4 false) (keyOf9 hp)
  have hn : has (metD ss) (keyLit p) = false := by
    cases hb : has (metD ss) (keyLit p)
    · rfl
    · exact absurd ((has_metD ss p).1 hb) hin
  have e := atKey_of_not_has hn (.lit (.bool false))
  unfold keyLit at e
  rw [e] at h2
  rw [h1, plainBool_inv h2]

set_option maxRecDepth 100000 in
set_option maxHeartbeats 2000000 in
/-- listsEachOnce, where it is so. -/
theorem once18 (n0 : Nat) (v : Value) (xs ys : List ByteArray) (bu nu : Nat) (w : World) (hn0 : n0 ≤ w.heap.size) (hr : StrRow n0 w v xs) (hu : w.ownsMap Try.prog 9 (unitElem (H := Unit)) bu nu (setD ys)) (hnd : xs.Nodup) (hm : ∀ s, s ∈ xs ↔ s ∈ ys) :
    Calls Try.prog 18 #[v, .map (some bu)] w fun e w' => e = .returned (.bool true) ∧ Below w.heap.size w w' := by
  obtain ⟨a, cap, rfl, h1, h2, h3⟩ := hr
  have hmm : ∀ (n : Int) (w : World), (Instr.makeMap 52 (some (.int .i64 n))).run Try.prog w = .ok (.map (some w.heap.size)) (w.alloc (.map #[] 0)) := by
    intro n w
    simp [Instr.makeMap, run_underlying Try.underlying52, asInt, asIntOf, go_sem]
  have hlen : ∀ ty, (Builtin.len_ #[29] ty #[.map (some bu)]).run Try.prog w = .ok (.int .i64 xs.length) w := fun ty => by
    rw [World.ownsMap.len hu Try.underlying29 ty, size_setD hnd hm]
  have hbu := World.ownsMap.lt hu
  unfold maxLen at h2
  go_enter Try.func18, Try.ntmps18
  go_wp2
  clear hlen hmm
  go_loopw [6] (fun i wr => ∃ k : Nat, k ≤ xs.length ∧ i = .int .i64 k ∧ wr.ownsMap Try.prog 9 (plainElem (H := Unit) Try.prog 4) w.heap.size k (metD (xs.take k)) ∧ Below w.heap.size w wr ∧ w.heap.size < wr.heap.size) (fun i _ => xs.length - (intOf i).toNat)
  case atStart => exact ⟨0, Nat.zero_le _, rfl, World.ownsMap_made _ _ _ _, (Below.refl _ _).alloc (Nat.le_refl _) _, by simp⟩
  case round =>
    obtain ⟨k, hk, rfl, hown, hB, hz⟩ := hrel
    by_cases hlt : k < xs.length
    · obtain ⟨b, off, rfl, hb, hs, hc0⟩ := h3 k hlt
      have hbw : b < w.heap.size := Nat.lt_of_lt_of_le hb hn0
      have hc : wr.cell? ⟨b, off + k, none⟩ = some (.string (xs[k]?.getD ByteArray.empty)) := (hB.cell (p := ⟨b, off + k, none⟩) hbw).trans hc0
      have HT : Hid (metD (xs.take (k + 1)) = (metD (xs.take k)).put (keyLit (xs[k]?.getD ByteArray.empty)) (.lit (.bool true))) := metD_take xs k hlt
      have hel : xs[k]?.getD ByteArray.empty = xs[k] := by simp [hlt]
      have hin : xs[k]?.getD ByteArray.empty ∈ ys := (hm _).1 (by rw [hel]; exact List.getElem_mem hlt)
      have hnin : xs[k]?.getD ByteArray.empty ∉ xs.take k := by
        rw [hel]
        intro hmem
        obtain ⟨i, hi, hie⟩ := List.getElem_of_mem hmem
        have hi' : i < k := by simp at hi; omega
        rw [List.getElem_take] at hie
        exact (List.pairwise_iff_getElem.1 hnd) i k (by omega) hlt hi' hie
      clear hel
      have hkey := keyOf9 hs
      have hl1 := lookS wr bu nu ys _ (ownsMap_block hu (hB.block _ hbu)) hs hin
      have hown2 := World.ownsMap.alloc hown (.cells #[] 43)
      have hl2 := lookMet _ _ _ _ _ hown2 hs hnin
      have hc2 : (wr.alloc (.cells #[] 43)).cell? ⟨b, off + k, none⟩ = some (.string (xs[k]?.getD ByteArray.empty)) := cell_kept hc (World.grownBy_alloc wr _ none) (fun r e => by cases e)
      have hbz : b < wr.heap.size := by omega
      clear hc0 hin hnin
      generalize xs[k]?.getD ByteArray.empty = s at *
      go_wp2_with (at_mapUpdate; refine wpList_mapUpdate_own _ rfl _ _ _ 52 rfl 9 4 key9 Try.underlying52 (plainElem (H := Unit) Try.prog 4) w.heap.size k _ rfl hown2 (by unfold maxLen; omega) _ _ _ rfl rfl hkey _ [] (plainElem_bool Try.underlying4 true) ?_; intro w1 hown1 hgrow1)
      have hz1 := hgrow1.size
      go_roundw
      case rel => exact ⟨k + 1, by omega, by go_num, by rw [HT.out]; exact hown1, (hB.alloc hB.size _).grown hgrow1 (by simp; omega) (fun j e => by cases e; exact Nat.le_refl _), by simp at hz1; omega⟩
      case measure => simp [intOf]; omega
    · go_wp2
      go_ret
      exact ⟨rfl, hB⟩

set_option maxRecDepth 100000 in
set_option maxHeartbeats 2000000 in
/-- holdsExactly, where it is so. -/
theorem exactly19 (n0 : Nat) (v : Value) (gs : List (List ByteArray)) (xs : List ByteArray) (bs : Nat) (sz : Int) (w : World) (hn0 : n0 ≤ w.heap.size) (hg : Grid n0 w v gs) (hs : SetAt w bs xs) (hnd : xs.Nodup) (hm : ∀ s, s ∈ xs ↔ ∃ r ∈ gs, s ∈ r) (hsz : sz = xs.length) :
    Calls Try.prog 19 #[.map (some bs), v, .int .i64 sz] w fun e w' => e = .returned (.bool true) ∧ Below w.heap.size w w' := by
  subst hsz
  obtain ⟨a, cap, rfl, h1, h2, h3⟩ := hg
  have hlen : ∀ ty, (Builtin.len_ #[29] ty #[.map (some bs)]).run Try.prog w = .ok (.int .i64 xs.length) w := fun ty => by
    rw [World.ownsMap.len hs Try.underlying29 ty, size_setD hnd (fun _ => Iff.rfl)]
  have hbs := hs.lt
  unfold maxLen at h2
  go_enter Try.func19, Try.ntmps19
  go_wp2
  clear hlen
  go_loopw [7] (fun i wr => ∃ k : Nat, k ≤ gs.length ∧ i = .int .i64 k ∧ Below w.heap.size w wr) (fun i _ => gs.length - (intOf i).toNat)
  case atStart => exact ⟨0, Nat.zero_le _, rfl, Below.refl _ _⟩
  case round =>
    obtain ⟨k, hk, rfl, hB⟩ := hrel
    by_cases hlt : k < gs.length
    · obtain ⟨b, off, u, rfl, hb, hc0, a2, cap2, rfl, h4, h5, h6⟩ := h3 k hlt
      have hel : gs[k]?.getD [] = gs[k] := by simp [hlt]
      have hin : ∀ s ∈ gs[k]?.getD [], s ∈ xs := fun s h => (hm s).2 ⟨gs[k], List.getElem_mem hlt, by rw [← hel]; exact h⟩
      clear hel
      unfold maxLen at h5
      generalize gs[k]?.getD [] = ss at *
      have hc : ∀ V, Below w.heap.size w V → V.cell? ⟨b, off + k, none⟩ = some (.slice a2 ss.length cap2) := fun V hV => (hV.cell (p := ⟨b, off + k, none⟩) (Nat.lt_of_lt_of_le hb hn0)).trans hc0
      have hc1 := hc wr hB
      clear hc0
      go_wp2
      go_loopw [8] (fun i wr => ∃ k2 : Nat, k2 ≤ ss.length ∧ i = .int .i64 k2 ∧ Below w.heap.size w wr) (fun i _ => ss.length - (intOf i).toNat)
      case atStart => exact ⟨0, Nat.zero_le _, rfl, hB⟩
      case round =>
        clear hB hc1
        obtain ⟨k2, hk2, rfl, hB⟩ := hrel
        have hc1 := hc wr hB
        by_cases hlt2 : k2 < ss.length
        · obtain ⟨b2, off2, rfl, hb2, hsz, hc2⟩ := h6 k2 hlt2
          have hc3 : wr.cell? ⟨b2, off2 + k2, none⟩ = some (.string (ss[k2]?.getD ByteArray.empty)) := (hB.cell (p := ⟨b2, off2 + k2, none⟩) (Nat.lt_of_lt_of_le hb2 hn0)).trans hc2
          have hl1 := lookS wr bs _ xs _ (ownsMap_block hs (hB.block _ hbs)) hsz (hin _ (by simp [hlt2]))
          clear hc2
          generalize ss[k2]?.getD ByteArray.empty = s at *
          go_wp2
          go_roundw
          case rel => exact ⟨k2 + 1, by omega, by go_num, hB.alloc hB.size _⟩
          case measure => simp [intOf]; omega
        · go_wp2
          go_roundw
          case rel => exact ⟨k + 1, by omega, by go_num, hB⟩
          case measure => simp [intOf]; omega
    · go_wp2
      go_ret
      exact ⟨rfl, hB⟩
end Go.Proofs.Qxb6614327a
