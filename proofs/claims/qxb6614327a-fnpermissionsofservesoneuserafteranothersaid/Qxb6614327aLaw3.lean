import Derived.Test.Qxb6614327aPart
import Derived.Test.Qxb6614327aZz
namespace Go.Proofs.Qxb6614327a
open Go.RowKit Go.Maps

theorem anyHas12 (sv : Value) (p : ByteArray) (hp : p.size ≤ maxLen) (w : World) (gs : List (List ByteArray)) (hr : Roles w.heap.size w sv gs) :
    Calls Try.prog 12 #[sv, .string p] w fun e W' => e = .returned (.bool (occ gs p)) ∧ Below w.heap.size w W' :=
  (callsIn_wide (n := 4)).1 (zzAnyHas_in Fence.wide 4 trivial trivial trivial trivial rfl (by omega) sv p hp w gs hr)

theorem Grid.sizes {n0 : Nat} {W : World} {v : Value} {gs : List (List ByteArray)} (h : Grid n0 W v gs) : ∀ r ∈ gs, ∀ s ∈ r, s.size ≤ maxLen := by
  obtain ⟨a, cap, rfl, h1, h2, h3⟩ := h
  intro r hr s hs
  obtain ⟨i, hi, rfl⟩ := List.getElem_of_mem hr
  obtain ⟨j, hj, rfl⟩ := List.getElem_of_mem hs
  obtain ⟨_, _, u, _, _, _, a2, cap2, _, _, _, h6⟩ := h3 i hi
  have e : gs[i]?.getD [] = gs[i] := by simp [hi]
  rw [e] at h6
  obtain ⟨_, _, _, _, h7, _⟩ := h6 j hj
  simpa [hj] using h7

theorem flatten_count (gs : List (List ByteArray)) : gs.flatten.length = count gs := by
  unfold count
  rw [List.length_flatten]

/-- A slice that the call owns, as a row of strings. -/
theorem StrRow.of_owns {base : Nat} {W : World} {v : Value} {xs : List ByteArray} (h : W.ownsRow base 9 1 v xs.length (xs.map Value.string)) (hs : ∀ s ∈ xs, s.size ≤ maxLen) : StrRow W.heap.size W v xs := by
  rcases h.2 with ⟨rfl, h0⟩ | ⟨g, cap, cur, rfl, _, hb, h1, h2, h3, h4⟩
  · have : xs = [] := List.length_eq_zero_iff.1 h0
    subst this
    exact ⟨none, 0, rfl, Nat.le_refl _, Nat.zero_le _, fun j hj => absurd hj (by simp)⟩
  · refine ⟨_, cap, rfl, h1, h2, fun j hj => ⟨g, 0, rfl, (Array.getElem?_eq_some_iff.1 hb).1, hs _ (by simp [hj]), ?_⟩⟩
    have e : cur.toList[j]? = some (.string xs[j]) := by
      have := congrArg (fun l => l[j]?) h4
      simp only [Nat.mul_one] at this
      rw [List.getElem?_take_of_lt hj, List.getElem?_map, List.getElem?_eq_getElem hj] at this
      simpa using this
    simp [World.cell?, hb, hj]
    simpa using e

theorem Once.any {gs : List (List ByteArray)} {xs : List ByteArray} (h : Once gs xs) (p : ByteArray) : (xs.any fun x => x == p) = occ gs p := by
  rw [Bool.eq_iff_iff, any_mem, h.2 p]
  unfold occ
  rw [List.any_eq_true]
  constructor
  · rintro ⟨r, hr, hs⟩
    exact ⟨r, hr, any_mem.2 hs⟩
  · rintro ⟨r, hr, hs⟩
    exact ⟨r, hr, any_mem.1 hs⟩

theorem grownBy_below {w W : World} {bs n : Nat} (h : w.grownBy W (some bs)) (hn : n ≤ bs) (hb : bs < w.heap.size) : Below n w W :=
  ⟨h.os, h.tape, h.output, h.size, fun k hk => h.block k (by omega) (by simp; omega)⟩

theorem any_snoc {ss : List ByteArray} {p : ByteArray} {k : Nat} (hk : k < ss.length) : ((ss.take (k + 1)).any fun x => x == p) = (((ss.take k).any fun x => x == p) || (ss[k]?.getD ByteArray.empty == p)) := by
  rw [List.take_succ_eq_append_getElem hk, List.any_append]
  simp [hk]

set_option maxRecDepth 100000 in
set_option maxHeartbeats 2000000 in
theorem walk3 (v : Value) (gs : List (List ByteArray)) (p : ByteArray) (w : World) (hg : Grid w.heap.size w v gs) (hp : p.size ≤ maxLen) :
    Calls Try.prog 3 #[v, .string p] w fun e w' => e = .returned (.bool true) ∧ Below w.heap.size w w' := by
  obtain ⟨a, cap, rfl, h1, h2, h3⟩ := id hg
  have hp' := hp
  unfold maxLen at hp'
  have hmm := @run_makeMap Try.prog
  go_enter Try.func3, Try.ntmps3
  go_wp2_with fail
  refine (bytes7 w.heap.size _ gs p w hg hp).mono ?_
  rintro e w ⟨rfl, r, rfl, hr⟩
  cases r
  · go_wp2_with fail
    go_ret
    exact ⟨rfl, Below.refl _ _⟩
  replace hr := hr rfl
  by_cases hpl : 65536 < p.size
  · go_wp2_with fail
    go_ret
    exact ⟨rfl, Below.refl _ _⟩
  go_wp2_with fail
  refine (lists8 _ _ gs _ _ hg (by omega)).mono ?_
  rintro e w ⟨rfl, n, rfl, hn0, hn⟩
  by_cases hnl : 1048576 < n
  · go_wp2_with fail
    go_ret
    exact ⟨rfl, Below.refl _ _⟩
  replace hn := hn (by omega)
  go_wp2_with fail
  refine (newRoles9 gs.length _ (by omega)).mono ?_
  rintro e w1 ⟨rfl, hB1, hz1, hcells⟩
  go_wp2_with fail
  go_loopw [6] (fun i wr => ∃ k : Nat, k ≤ gs.length ∧ i = .int .i64 k ∧ RolesPart w.heap.size gs.length gs k wr ∧ Below w.heap.size w wr) (fun i _ => gs.length - (intOf i).toNat)
  case atStart => exact ⟨0, Nat.zero_le _, rfl, RolesPart.start hz1 hcells, hB1⟩
  case round =>
    obtain ⟨k, hk, rfl, hP, hB⟩ := hrel
    by_cases hlt : k < gs.length
    · obtain ⟨b, off, u, rfl, hb, hcu, hsr⟩ := h3 k hlt
      have hcu' : wr.cell? ⟨b, off + k, none⟩ = some u := (hB.cell (p := ⟨b, off + k, none⟩) hb).trans hcu
      have hsr' := hsr.below hB
      clear hsr
      obtain ⟨ss, HS⟩ : ∃ ss, Hid (gs[k]?.getD [] = ss) := ⟨_, rfl⟩
      rw [HS.out] at hsr'
      obtain ⟨a2, cap2, rfl, _⟩ := id hsr'
      go_wp2_with fail
      refine (toSet11 w.heap.size _ _ _ hB.size hsr').mono ?_
      rintro e w2 ⟨rfl, hset, hB2⟩
      go_wp2_with fail
      refine (newRole10 _ _).mono ?_
      rintro e w3 ⟨rfl, rfl⟩
      have hP2 := (hP.below hB2)
      obtain ⟨u2, hu2, hf2⟩ := hP2.2.1 k hlt
      have hz2 := hP2.1
      go_wp2_with fail
      go_roundw
      case rel => exact ⟨k + 1, by omega, by go_num, hP.step' hlt hB2 (by rw [HS.out]; exact hset), ((hB.trans (hB2.mono hB.size)).setCell (p := ⟨w.heap.size, k, none⟩) (Nat.le_refl _) _).alloc (by simp [World.setCell]; omega) _⟩
      case measure => simp [intOf]; omega
    · obtain rfl : k = gs.length := by omega
      have hl1 : gs.length ≤ maxLen := by unfold maxLen; omega
      go_wp2_with fail
      have hR : Roles wr.heap.size wr (.slice (some ⟨w.heap.size, 0, none⟩) gs.length gs.length) gs := hP.roles hl1 0 _ _ _ rfl (by omega) (fun j _ => by simp)
      refine (anyHas12 _ p hp _ gs hR).mono ?_
      rintro e w2 ⟨rfl, hB2⟩
      have hR2 : Roles w2.heap.size (w2.alloc (.map #[] 0)) (.slice (some ⟨w.heap.size, 0, none⟩) gs.length gs.length) gs := ((hR.below hB2).mono hB2.size).below ((Below.refl _ _).alloc (Nat.le_refl _) _)
      have hown := World.ownsMap_made w2 Try.prog 9 (unitElem (H := Unit))
      have hBw2 : Below w.heap.size w w2 := hB.trans (hB2.mono hB.size)
      clear hP hB hB2 hR hcells hB1 h3
      go_wp2_with fail
      refine (zzPerms13 _ _ _ _ gs _ hR2 hown (by rw [flatten_count]; exact hn.2)).mono ?_
      rintro e w3 ⟨v3, xs, rfl, hO, hset, hrow, hgr⟩
      have hBw3 : Below w.heap.size w w3 := (hBw2.alloc hBw2.size _).trans (grownBy_below hgr hBw2.size (by simp))
      have hszs : ∀ s ∈ xs, s.size ≤ maxLen := fun s hs => by
        obtain ⟨r, hr, h⟩ := (hO.2 s).1 hs
        exact hg.sizes r hr s h
      obtain ⟨a3, cap3, rfl, h4, h5, h6⟩ := StrRow.of_owns hrow hszs
      have HO : Hid ((xs.any fun x => x == p) = occ gs p) := hO.any p
      have hg3 := hg.below hBw3
      unfold maxLen at h5
      clear hO hset hrow hgr hszs hown hR2 hBw2 hmm
      obtain ⟨bo, Hbo⟩ : ∃ b, Hid (occ gs p = b) := ⟨_, rfl⟩
      rw [Hbo.out] at HO ⊢
      go_wp2_with fail
      go_loop [9, 10] (fun t i => ∃ k : Nat, k ≤ xs.length ∧ i = .int .i64 k ∧ ∃ bt, t = .bool bt ∧ Hid (((xs.take k).any fun x => x == p) = bt)) (fun _ i => xs.length - (intOf i).toNat)
      case atStart => exact ⟨0, Nat.zero_le _, rfl, false, rfl, by simp [Hid]⟩
      case round =>
        obtain ⟨k, hk, rfl, bt, rfl, HB⟩ := hrel
        by_cases hlt : k < xs.length
        · obtain ⟨b, off, rfl, hb, hs, hc⟩ := h6 k hlt
          have HT : Hid (((xs.take (k + 1)).any fun x => x == p) = (bt || (xs[k]?.getD ByteArray.empty == p))) := by
            have := any_snoc (p := p) hlt
            rw [HB.out] at this
            exact this
          generalize xs[k]?.getD ByteArray.empty = s at *
          cases hq : (s.toList == p.toList)
          · go_wp2_with fail
            go_round
            case rel => exact ⟨k + 1, by omega, by go_num, bt, rfl, HT.out.trans (by rw [beq_toListBytes, hq, Bool.or_false])⟩
            case measure => simp [intOf]; omega
          · go_wp2_with fail
            go_round
            case rel => exact ⟨k + 1, by omega, by go_num, true, rfl, HT.out.trans (by rw [beq_toListBytes, hq, Bool.or_true])⟩
            case measure => simp [intOf]; omega
        · have hbt : bo = bt := by
            have h7 := HB.out
            rw [List.take_of_length_le (by omega), HO.out] at h7
            exact h7
          subst hbt
          cases bo
          all_goals
            go_wp2_with fail
            refine (occurs14 w.heap.size _ gs p _ hg3).mono ?_
            rintro e w3 ⟨rfl, rfl⟩
            rw [Hbo.out]
            go_wp2_with fail
            go_ret
            exact ⟨rfl, hBw3⟩
end Go.Proofs.Qxb6614327a
