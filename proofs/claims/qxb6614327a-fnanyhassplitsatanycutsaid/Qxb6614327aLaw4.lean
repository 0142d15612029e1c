import Derived.Test.Qxb6614327aPart
namespace Go.Proofs.Qxb6614327a
open Go.RowKit Go.Maps

theorem zzAnyHas12 (sv : Value) (p : ByteArray) (hp : p.size ≤ maxLen) (w : World) (gs : List (List ByteArray)) (hr : Roles w.heap.size w sv gs) :
    Calls Try.prog 12 #[sv, .string p] w fun e W' => e = .returned (.bool (occ gs p)) ∧ Below w.heap.size w W' :=
  (callsIn_wide (n := 4)).1 (zzAnyHas_in Fence.wide 4 trivial trivial trivial trivial rfl (by omega) sv p hp w gs hr)

theorem occ_split (gs : List (List ByteArray)) (p : ByteArray) (c : Nat) : Hid (occ gs p = (occ (gs.take c) p || occ (gs.drop c) p)) := by
  unfold occ
  show _ = _
  rw [← List.any_append, List.take_append_drop]

theorem Grid.take {n0 : Nat} {W : World} {a : Option Addr} {len cap c : Nat} {gs : List (List ByteArray)} (h : Grid n0 W (.slice a len cap) gs) (hc : c ≤ gs.length) : Grid n0 W (.slice a c cap) (gs.take c) := by
  obtain ⟨a', cap', e, h1, h2, h3⟩ := h
  cases e
  have hl : (gs.take c).length = c := by simp; omega
  refine ⟨a, cap, by rw [hl], by rw [hl]; omega, h2, fun j hj => ?_⟩
  obtain ⟨b, off, u, h4, h5, h6, h7⟩ := h3 j (by omega)
  exact ⟨b, off, u, h4, h5, h6, by rw [List.getElem?_take_of_lt (by omega)]; exact h7⟩

theorem Grid.drop {n0 : Nat} {W : World} {a : Option Addr} {len cap c : Nat} {gs : List (List ByteArray)} (h : Grid n0 W (.slice a len cap) gs) (hc : c ≤ gs.length) : Grid n0 W (.slice (Option.map (fun x => x.add c) a) (gs.length - c) (cap - c)) (gs.drop c) := by
  obtain ⟨a', cap', e, h1, h2, h3⟩ := h
  cases e
  have hl : (gs.drop c).length = gs.length - c := by simp
  refine ⟨Option.map (fun x => x.add c) a, cap - c, by rw [hl], by rw [hl]; omega, by omega, fun j hj => ?_⟩
  obtain ⟨b, off, u, rfl, h5, h6, h7⟩ := h3 (c + j) (by omega)
  refine ⟨b, off + c, u, ?_, h5, by rw [Nat.add_assoc]; exact h6, by rw [List.getElem?_drop]; exact h7⟩
  by_cases e : c = 0
  · subst e; rfl
  · simp [Addr.add, e]
theorem Grid.dropAll {n0 : Nat} {W : World} {a : Option Addr} {cap c : Nat} {gs : List (List ByteArray)} (hc : gs.length ≤ c) (hm : cap ≤ maxLen) : Grid n0 W (.slice a 0 cap) (gs.drop c) := by
  rw [List.drop_eq_nil_of_le hc]
  exact ⟨a, cap, rfl, Nat.zero_le _, hm, fun j hj => absurd hj (by simp)⟩

set_option maxRecDepth 100000 in
set_option maxHeartbeats 2000000 in
theorem walk4 (v : Value) (gs : List (List ByteArray)) (p : ByteArray) (c : Int) (w : World) (hg : Grid w.heap.size w v gs) (hp : p.size ≤ maxLen) (hc : (Lit.int .i64 c).wf = true) :
    Calls Try.prog 4 #[v, .string p, .int .i64 c] w fun e w' => e = .returned (.bool true) ∧ Below w.heap.size w w' := by
  obtain ⟨a, cap, rfl, h1, h2, h3⟩ := id hg
  have hp' := hp
  unfold maxLen at hp'
  go_enter Try.func4, Try.ntmps4
  go_wp2_with fail
  refine (bytes15 w.heap.size _ gs p c w hg hp).mono ?_
  rintro e w ⟨rfl, r, rfl, hr⟩
  cases r
  · go_wp2_with fail
    go_ret
    exact ⟨rfl, Below.refl _ _⟩
  replace hr := hr rfl
  by_cases hpl : 65536 < p.size
  · go_wp2_with fail
    go_ret
    exact ⟨rfl, Below.refl _ _⟩
  go_wp2_with fail
  refine (lists8 _ _ gs _ _ hg (by omega)).mono ?_
  rintro e w ⟨rfl, n, rfl, hn0, hn⟩
  by_cases hnl : 1048576 < n
  · go_wp2_with fail
    go_ret
    exact ⟨rfl, Below.refl _ _⟩
  replace hn := hn (by omega)
  by_cases hc0 : c < 0
  · go_wp2_with fail
    go_ret
    exact ⟨rfl, Below.refl _ _⟩
  by_cases hc1 : (gs.length : Int) < c
  · go_wp2_with fail
    go_ret
    exact ⟨rfl, Below.refl _ _⟩
  obtain ⟨cut, rfl⟩ := Int.eq_ofNat_of_zero_le (show 0 ≤ c by omega)
  go_wp2_with fail
  refine (newRoles9 gs.length _ (by omega)).mono ?_
  rintro e w1 ⟨rfl, hB1, hz1, hcells⟩
  go_wp2_with fail
  go_loopw [8] (fun i wr => ∃ k : Nat, k ≤ gs.length ∧ i = .int .i64 k ∧ RolesPart w.heap.size gs.length gs k wr ∧ Below w.heap.size w wr) (fun i _ => gs.length - (intOf i).toNat)
  case atStart => exact ⟨0, Nat.zero_le _, rfl, RolesPart.start hz1 hcells, hB1⟩
  case round =>
    obtain ⟨k, hk, rfl, hP, hB⟩ := hrel
    by_cases hlt : k < gs.length
    · obtain ⟨b, off, u, rfl, hb, hcu, hsr⟩ := h3 k hlt
      have hcu' : wr.cell? ⟨b, off + k, none⟩ = some u := (hB.cell (p := ⟨b, off + k, none⟩) hb).trans hcu
      have hsr' := hsr.below hB
      clear hsr
      obtain ⟨ss, HS⟩ : ∃ ss, Hid (gs[k]?.getD [] = ss) := ⟨_, rfl⟩
      rw [HS.out] at hsr'
      obtain ⟨a2, cap2, rfl, _⟩ := id hsr'
      go_wp2_with fail
      refine (toSet11 w.heap.size _ _ _ hB.size hsr').mono ?_
      rintro e w2 ⟨rfl, hset, hB2⟩
      go_wp2_with fail
      refine (newRole10 _ _).mono ?_
      rintro e w3 ⟨rfl, rfl⟩
      have hP2 := (hP.below hB2)
      obtain ⟨u2, hu2, hf2⟩ := hP2.2.1 k hlt
      have hz2 := hP2.1
      go_wp2_with fail
      go_roundw
      case rel => exact ⟨k + 1, by omega, by go_num, hP.step' hlt hB2 (by rw [HS.out]; exact hset), ((hB.trans (hB2.mono hB.size)).setCell (p := ⟨w.heap.size, k, none⟩) (Nat.le_refl _) _).alloc (by simp [World.setCell]; omega) _⟩
      case measure => simp [intOf]; omega
    · obtain rfl : k = gs.length := by omega
      have hl1 : gs.length ≤ maxLen := by unfold maxLen; omega
      have hcut : cut ≤ gs.length := by omega
      go_wp2_with fail
      refine (zzAnyHas12 _ p hp _ gs (hP.roles hl1 0 _ _ _ rfl (by omega) (fun j _ => by simp))).mono ?_
      rintro e w2 ⟨rfl, hB2⟩
      go_wp2_with fail
      refine (zzAnyHas12 _ p hp _ (gs.take cut) ((hP.below hB2).roles hl1 0 _ _ _ (by simp; omega) (by omega) (fun j hj => by rw [List.getElem?_take_of_lt hj]; simp))).mono ?_
      rintro e w3 ⟨rfl, hB3⟩
      have HO := occ_split gs p cut
      go_wp2_with fail
      all_goals
        refine (zzAnyHas12 _ p hp _ (gs.drop cut) (by first | exact ((hP.below hB2).below hB3).roles hl1 cut _ _ _ (by simp) (by omega) (fun j hj => by simp) | exact ((hP.below hB2).below hB3).roles hl1 0 _ _ _ (by simp; omega) (by omega) (fun j hj => absurd hj (by omega)))).mono ?_
        rintro e w4 ⟨rfl, hB4⟩
        have hB5 : Below w.heap.size w w4 := ((hB.trans (hB2.mono hB.size)).trans (hB3.mono (Nat.le_trans hB.size hB2.size))).trans (hB4.mono (Nat.le_trans (Nat.le_trans hB.size hB2.size) hB3.size))
        have hg4 := hg.below hB5
        rw [HO.out]
        obtain ⟨bl, HL⟩ : ∃ b, Hid (occ (gs.take cut) p = b) := ⟨_, rfl⟩
        obtain ⟨br, HR⟩ : ∃ b, Hid (occ (gs.drop cut) p = b) := ⟨_, rfl⟩
        rw [HL.out, HR.out]
        clear hP hB hB2 hB3 hB4 hn hr hcells hB1 hz1 h3
        cases bl <;> cases br
        all_goals
          go_wp2_with fail
          refine (occurs14 w.heap.size _ (gs.take cut) p _ (hg4.take hcut)).mono ?_
          rintro e w4 ⟨rfl, rfl⟩
          rw [HL.out]
          go_wp2_with fail
        all_goals
          refine (occurs14 w.heap.size _ (gs.drop cut) p _ (by first | exact hg4.drop hcut | exact Grid.dropAll (by omega) (by omega))).mono ?_
          rintro e w4 ⟨rfl, rfl⟩
          rw [HR.out]
          go_wp2_with fail
          go_ret
          exact ⟨rfl, hB5⟩
end Go.Proofs.Qxb6614327a
