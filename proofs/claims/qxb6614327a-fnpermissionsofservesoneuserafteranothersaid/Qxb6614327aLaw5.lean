import Derived.Test.Qxb6614327aLaw3
import Derived.Test.Qxb6614327aBytes
import Derived.Test.Qxb6614327aOnce
namespace Go.Proofs.Qxb6614327a
open Go.RowKit Go.Maps

theorem Once.flat {gs : List (List ByteArray)} {xs : List ByteArray} (h : Once gs xs) : ∀ s, s ∈ xs ↔ s ∈ gs.flatten := fun s => by
  rw [h.2 s, List.mem_flatten]

/-- One row, laid in a new block. -/
theorem Grid.one {n0 : Nat} {w : World} {v : Value} {ks : List ByteArray} (hn0 : n0 ≤ w.heap.size) (h : StrRow n0 w v ks) : Grid (w.heap.size + 1) (w.alloc (.cells #[v] 31)) (.slice (some ⟨w.heap.size, 0, none⟩) 1 1) [ks] := by
  refine ⟨_, 1, rfl, by simp, by unfold maxLen; omega, fun j hj => ?_⟩
  have : j = 0 := by simpa using hj
  subst this
  refine ⟨w.heap.size, 0, v, rfl, by omega, (Boxed.new w 31 v).cell, ?_⟩
  obtain ⟨a, cap, rfl, h1, h2, h3⟩ := h.below ((Below.refl n0 w).alloc hn0 (.cells #[v] 31))
  refine ⟨a, cap, rfl, h1, h2, fun j hj => ?_⟩
  obtain ⟨b, off, e1, e2, e3, e4⟩ := h3 j hj
  exact ⟨b, off, e1, by omega, e3, e4⟩

set_option maxRecDepth 100000 in
set_option maxHeartbeats 2000000 in
theorem walk5 (v v2 : Value) (gs : List (List ByteArray)) (ks : List ByteArray) (w : World) (hg : Grid w.heap.size w v gs) (hk : StrRow w.heap.size w v2 ks) :
    Calls Try.prog 5 #[v, v2] w fun e w' => e = .returned (.bool true) ∧ Below w.heap.size w w' := by
  obtain ⟨a, cap, rfl, h1, h2, h3⟩ := id hg
  obtain ⟨ak, capk, rfl, k1, k2, k3⟩ := id hk
  unfold maxLen at k2
  clear k3
  go_enter Try.func5, Try.ntmps5
  go_wp2_with fail
  refine (bytes16 w.heap.size w.heap.size _ _ gs ks w hg hk).mono ?_
  rintro e w ⟨rfl, r, rfl, hr⟩
  cases r
  · go_wp2_with fail
    go_ret
    exact ⟨rfl, Below.refl _ _⟩
  replace hr := hr rfl
  by_cases hkl : 65536 < ks.length
  · go_wp2_with fail
    go_ret
    exact ⟨rfl, Below.refl _ _⟩
  go_wp2_with fail
  refine (lists8 _ _ gs 0 _ hg (by omega)).mono ?_
  rintro e w ⟨rfl, n, rfl, hn0, hn⟩
  by_cases hnl : 1048576 < n
  · go_wp2_with fail
    go_ret
    exact ⟨rfl, Below.refl _ _⟩
  replace hn := hn (by omega)
  have hG1 := Grid.one (Nat.le_refl _) hk
  go_wp2_with fail
  refine (lists8 _ _ [ks] n _ hG1 (by omega)).mono ?_
  clear hG1
  rintro e W0 ⟨hW0, n2, rfl, hn20, hn2⟩
  have hB0 : Below w.heap.size w W0 := by rw [hW0]; exact (Below.refl _ w).alloc (Nat.le_refl _) _
  have hz0 : w.heap.size < W0.heap.size := by rw [hW0]; simp
  clear hW0 hn2
  by_cases hnl2 : 1048576 < n2
  · go_wp2_with fail
    go_ret
    exact ⟨rfl, hB0⟩
  go_wp2_with fail
  refine (newRoles9 gs.length _ (by omega)).mono ?_
  rintro e w1 ⟨rfl, hB1, hz1, hcells⟩
  have hBw1 : Below w.heap.size w w1 := hB0.trans (hB1.mono (by omega))
  go_wp2_with fail
  go_loopw [7] (fun i wr => ∃ k : Nat, k ≤ gs.length ∧ i = .int .i64 k ∧ RolesPart W0.heap.size gs.length gs k wr ∧ Below w.heap.size w wr ∧ W0.heap.size ≤ wr.heap.size) (fun i _ => gs.length - (intOf i).toNat)
  case atStart => exact ⟨0, Nat.zero_le _, rfl, RolesPart.start hz1 hcells, hBw1, by omega⟩
  case round =>
    obtain ⟨k, hkk, rfl, hP, hB, hzr⟩ := hrel
    by_cases hlt : k < gs.length
    · obtain ⟨b, off, u, rfl, hb, hcu, hsr⟩ := h3 k hlt
      have hcu' : wr.cell? ⟨b, off + k, none⟩ = some u := (hB.cell (p := ⟨b, off + k, none⟩) hb).trans hcu
      have hsr' := hsr.below hB
      clear hsr
      obtain ⟨ss, HS⟩ : ∃ ss, Hid (gs[k]?.getD [] = ss) := ⟨_, rfl⟩
      rw [HS.out] at hsr'
      obtain ⟨a2, cap2, rfl, _⟩ := id hsr'
      go_wp2_with fail
      refine (toSet11 w.heap.size _ _ _ hB.size hsr').mono ?_
      rintro e w2 ⟨rfl, hset, hB2⟩
      go_wp2_with fail
      refine (newRole10 _ _).mono ?_
      rintro e w3 ⟨rfl, rfl⟩
      have hP2 := (hP.below hB2)
      obtain ⟨u2, hu2, hf2⟩ := hP2.2.1 k hlt
      have hz2 := hP2.1
      have hz3 := hB2.size
      go_wp2_with fail
      go_roundw
      case rel => exact ⟨k + 1, by omega, by go_num, hP.step' hlt hB2 (by rw [HS.out]; exact hset), ((hB.trans (hB2.mono hB.size)).setCell (p := ⟨W0.heap.size, k, none⟩) (Nat.le_of_lt hz0) _).alloc (by simp [World.setCell]; omega) _, by simp [World.setCell]; omega⟩
      case measure => simp [intOf]; omega
    · obtain rfl : k = gs.length := by omega
      have hl1 : gs.length ≤ maxLen := by unfold maxLen; omega
      have hR : Roles wr.heap.size wr (.slice (some ⟨W0.heap.size, 0, none⟩) gs.length gs.length) gs := hP.roles hl1 0 _ _ _ rfl (by omega) (fun j _ => by simp)
      clear hP hcells hB1 hBw1 h3
      go_wp2_with fail
      refine (toSet11 w.heap.size _ _ _ hB.size (hk.below hB)).mono ?_
      rintro e w2 ⟨rfl, hset2, hB2⟩
      have hBw2 : Below w.heap.size w w2 := hB.trans (hB2.mono hB.size)
      have hzb := hset2.lt
      have hzw := hB.size
      go_wp2_with fail
      refine (zzPerms13 _ _ _ _ gs _ (hR.below hB2) hset2 (by rw [flatten_count]; exact hn.2)).mono ?_
      rintro e w3 ⟨v3, xs, rfl, hO, hset3, hrow3, hgr3⟩
      have hBw3 : Below w.heap.size w w3 := hBw2.trans (grownBy_below hgr3 hzw hzb)
      have hszs : ∀ s ∈ xs, s.size ≤ maxLen := fun s hs => by
        obtain ⟨r, hr, h⟩ := (hO.2 s).1 hs
        exact hg.sizes r hr s h
      have hS3 := StrRow.of_owns hrow3 hszs
      have hOf := hO.flat
      have hb3 := hset3.lt
      clear hR hset2 hB2 hBw2 hB hrow3 hgr3 hszs
      obtain ⟨av, cv, rfl, _⟩ := id hS3
      generalize hLx : xs.length = lx at *
      go_wp2_with fail
      refine (union17 w.heap.size _ gs _ hBw3.size (hg.below hBw3) (by rw [flatten_count]; exact hn.2)).mono ?_
      rintro e w4 ⟨rfl, hu4, hB4⟩
      have hBw4 : Below w.heap.size w w4 := hBw3.trans (hB4.mono hBw3.size)
      have hset4 := hset3.block (hB4.block _ hb3)
      go_wp2_with fail
      refine (once18 w3.heap.size _ xs gs.flatten _ _ _ hB4.size (hS3.below hB4) hu4 hO.1 hOf).mono ?_
      rintro e w5 ⟨rfl, hB5⟩
      have hBw5 : Below w.heap.size w w5 := hBw4.trans (hB5.mono hBw4.size)
      have hset5 := hset4.block (hB5.block _ hset4.lt)
      have hu5 := ownsMap_block hu4 (hB5.block _ (World.ownsMap.lt hu4))
      have hlen5 : ∀ ty, (Builtin.len_ #[29] ty #[.map (some w3.heap.size)]).run Try.prog w5 = .ok (.int .i64 lx) w5 := fun ty => by
        rw [World.ownsMap.len hu5 Try.underlying29 ty, size_setD hO.1 hOf, hLx]
      have HL : Hid (xs.length = lx) := hLx
      clear hu5 hu4 hLx hS3
      go_wp2_with fail
      refine (exactly19 w.heap.size _ gs xs _ _ _ hBw5.size (hg.below hBw5) hset5 hO.1 hO.2 (by rw [HL.out])).mono ?_
      rintro e w6 ⟨rfl, hB6⟩
      go_wp2_with fail
      go_ret
      exact ⟨rfl, hBw5.trans (hB6.mono hBw5.size)⟩
end Go.Proofs.Qxb6614327a
