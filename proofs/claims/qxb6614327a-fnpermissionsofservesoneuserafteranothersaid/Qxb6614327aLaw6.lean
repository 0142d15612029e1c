import Derived.Test.Qxb6614327aLaw5
import Derived.Test.Qxb6614327aBytes6
namespace Go.Proofs.Qxb6614327a
open Go.RowKit Go.Maps

theorem rowKept {w w' : World} {base bs k : Nat} {v : Value} {xs : List Value} (h : w.ownsRow base 9 1 v k xs) (hg : w.grownBy w' (some bs)) (hb : bs < base) : w'.ownsRow base 9 1 v k xs := by
  refine h.kept hg ?_
  rcases h.2 with ⟨rfl, _⟩ | ⟨g, cap, cur, rfl, hgb, _, _⟩
  · exact .inl rfl
  · refine .inr fun e => ?_
    have : g = bs := by simpa [Value.ownBlock] using e
    omega
theorem rowBelow {w w' : World} {base k : Nat} {v : Value} {xs : List Value} (h : w.ownsRow base 9 1 v k xs) (hB : Below w.heap.size w w') : w'.ownsRow base 9 1 v k xs := by
  obtain ⟨h1, h2⟩ := h
  refine ⟨h1, ?_⟩
  rcases h2 with h2 | ⟨g, cap, cur, e1, e2, e3, r⟩
  · exact .inl h2
  · exact .inr ⟨g, cap, cur, e1, e2, (hB.block g (Array.getElem?_eq_some_iff.1 e3).1).trans e3, r⟩
theorem Once.sizes {n0 : Nat} {W : World} {v : Value} {gs : List (List ByteArray)} {xs : List ByteArray} (h : Once gs xs) (hg : Grid n0 W v gs) : ∀ s ∈ xs, s.size ≤ maxLen := fun s hs => by
  obtain ⟨r, hr, h⟩ := (h.2 s).1 hs
  exact hg.sizes r hr s h

set_option maxRecDepth 100000 in
set_option maxHeartbeats 4000000 in
theorem walk6 (v v1 v2 : Value) (gs hs : List (List ByteArray)) (ks : List ByteArray) (w : World) (hg : Grid w.heap.size w v gs) (hh : Grid w.heap.size w v1 hs) (hk : StrRow w.heap.size w v2 ks) :
    Calls Try.prog 6 #[v, v1, v2] w fun e w' => e = .returned (.bool true) ∧ Below w.heap.size w w' := by
  obtain ⟨a, cap, rfl, h1, h2, h3⟩ := id hg
  obtain ⟨ab, capb, rfl, g1, g2, g3⟩ := id hh
  obtain ⟨ak, capk, rfl, k1, k2, k3⟩ := id hk
  unfold maxLen at k2
  clear k3
  have hmm := @run_makeMap Try.prog
  go_enter Try.func6, Try.ntmps6
  go_wp2_with fail
  refine (bytes20 w.heap.size w.heap.size w.heap.size _ _ _ gs hs ks w hg hh hk).mono ?_
  rintro e w ⟨rfl, r, rfl, hr⟩
  cases r
  · go_wp2_with fail
    go_ret
    exact ⟨rfl, Below.refl _ _⟩
  obtain ⟨hr, hr2⟩ := hr rfl
  by_cases hkl : 65536 < ks.length
  · go_wp2_with fail
    go_ret
    exact ⟨rfl, Below.refl _ _⟩
  go_wp2_with fail
  refine (lists8 _ _ gs 0 _ hg (by omega)).mono ?_
  rintro e w ⟨rfl, n, rfl, hn0, hn⟩
  by_cases hnl : 1048576 < n
  · go_wp2_with fail
    go_ret
    exact ⟨rfl, Below.refl _ _⟩
  replace hn := hn (by omega)
  go_wp2_with fail
  refine (lists8 _ _ hs n _ hh (by omega)).mono ?_
  rintro e w ⟨rfl, m, rfl, hm0, hm⟩
  by_cases hml : 1048576 < m
  · go_wp2_with fail
    go_ret
    exact ⟨rfl, Below.refl _ _⟩
  replace hm := hm (by omega)
  have hG1 := Grid.one (Nat.le_refl _) hk
  go_wp2_with fail
  refine (lists8 _ _ [ks] m _ hG1 (by omega)).mono ?_
  clear hG1
  rintro e W0 ⟨hW0, n2, rfl, hn20, hn2⟩
  have hB0 : Below w.heap.size w W0 := by rw [hW0]; exact (Below.refl _ w).alloc (Nat.le_refl _) _
  have hz0 : w.heap.size < W0.heap.size := by rw [hW0]; simp
  clear hW0 hn2
  by_cases hnl2 : 1048576 < n2
  · go_wp2_with fail
    go_ret
    exact ⟨rfl, hB0⟩
  go_wp2_with fail
  refine (newRoles9 gs.length _ (by omega)).mono ?_
  rintro e w1 ⟨rfl, hB1, hz1, hcells⟩
  have hBw1 : Below w.heap.size w w1 := hB0.trans (hB1.mono (by omega))
  go_wp2_with fail
  go_loopw [9] (fun i wr => ∃ k : Nat, k ≤ gs.length ∧ i = .int .i64 k ∧ RolesPart W0.heap.size gs.length gs k wr ∧ Below w.heap.size w wr ∧ W0.heap.size ≤ wr.heap.size) (fun i _ => gs.length - (intOf i).toNat)
  case atStart => exact ⟨0, Nat.zero_le _, rfl, RolesPart.start hz1 hcells, hBw1, by omega⟩
  case round =>
    obtain ⟨k, hkk, rfl, hP, hB, hzr⟩ := hrel
    by_cases hlt : k < gs.length
    · obtain ⟨b, off, u, rfl, hb, hcu, hsr⟩ := h3 k hlt
      have hcu' : wr.cell? ⟨b, off + k, none⟩ = some u := (hB.cell (p := ⟨b, off + k, none⟩) hb).trans hcu
      have hsr' := hsr.below hB
      clear hsr
      obtain ⟨ss, HS⟩ : ∃ ss, Hid (gs[k]?.getD [] = ss) := ⟨_, rfl⟩
      rw [HS.out] at hsr'
      obtain ⟨a2, cap2, rfl, _⟩ := id hsr'
      go_wp2_with fail
      refine (toSet11 w.heap.size _ _ _ hB.size hsr').mono ?_
      rintro e w2 ⟨rfl, hset, hB2⟩
      go_wp2_with fail
      refine (newRole10 _ _).mono ?_
      rintro e w3 ⟨rfl, rfl⟩
      have hP2 := (hP.below hB2)
      obtain ⟨u2, hu2, hf2⟩ := hP2.2.1 k hlt
      have hz2 := hP2.1
      have hz3 := hB2.size
      go_wp2_with fail
      go_roundw
      case rel => exact ⟨k + 1, by omega, by go_num, hP.step' hlt hB2 (by rw [HS.out]; exact hset), ((hB.trans (hB2.mono hB.size)).setCell (p := ⟨W0.heap.size, k, none⟩) (Nat.le_of_lt hz0) _).alloc (by simp [World.setCell]; omega) _, by simp [World.setCell]; omega⟩
      case measure => simp [intOf]; omega
    · obtain rfl : k = gs.length := by omega
      have hl1 : gs.length ≤ maxLen := by unfold maxLen; omega
      have hRA : Roles wr.heap.size wr (.slice (some ⟨W0.heap.size, 0, none⟩) gs.length gs.length) gs := hP.roles hl1 0 _ _ _ rfl (by omega) (fun j _ => by simp)
      clear hP hcells hB1 hBw1 h3 hz1
      go_wp2_with fail
      refine (newRoles9 hs.length _ (by omega)).mono ?_
      rintro e w1b ⟨rfl, hB1, hz1, hcells⟩
      have hBw1 : Below w.heap.size w w1b := hB.trans (hB1.mono hB.size)
      have hzw := hB.size
      go_wp2_with fail
      generalize wr = wa at *
      go_loopw [11] (fun i wx => ∃ k : Nat, k ≤ hs.length ∧ i = .int .i64 k ∧ RolesPart wa.heap.size hs.length hs k wx ∧ Below w.heap.size w wx ∧ Below wa.heap.size wa wx ∧ wa.heap.size < wx.heap.size) (fun i _ => hs.length - (intOf i).toNat)
      case atStart => exact ⟨0, Nat.zero_le _, rfl, RolesPart.start hz1 hcells, hBw1, hB1, hz1⟩
      case round =>
        clear hcells hBw1 hB1 hz1
        obtain ⟨k, hkk, rfl, hP, hB, hBa, hzr⟩ := hrel
        by_cases hlt : k < hs.length
        · obtain ⟨b, off, u, rfl, hb, hcu, hsr⟩ := g3 k hlt
          have hcu' : wr.cell? ⟨b, off + k, none⟩ = some u := (hB.cell (p := ⟨b, off + k, none⟩) hb).trans hcu
          have hsr' := hsr.below hB
          clear hsr
          obtain ⟨ss, HS⟩ : ∃ ss, Hid (hs[k]?.getD [] = ss) := ⟨_, rfl⟩
          rw [HS.out] at hsr'
          obtain ⟨a2, cap2, rfl, _⟩ := id hsr'
          go_wp2_with fail
          refine (toSet11 w.heap.size _ _ _ hB.size hsr').mono ?_
          rintro e w2 ⟨rfl, hset, hB2⟩
          go_wp2_with fail
          refine (newRole10 _ _).mono ?_
          rintro e w3 ⟨rfl, rfl⟩
          have hP2 := (hP.below hB2)
          obtain ⟨u2, hu2, hf2⟩ := hP2.2.1 k hlt
          have hz2 := hP2.1
          have hz3 := hB2.size
          go_wp2_with fail
          go_roundw
          case rel => exact ⟨k + 1, by omega, by go_num, hP.step' hlt hB2 (by rw [HS.out]; exact hset), ((hB.trans (hB2.mono hB.size)).setCell (p := ⟨wa.heap.size, k, none⟩) hzw _).alloc (by simp [World.setCell]; omega) _, ((hBa.trans (hB2.mono hBa.size)).setCell (p := ⟨wa.heap.size, k, none⟩) (Nat.le_refl _) _).alloc (by simp [World.setCell]; omega) _, by simp [World.setCell]; omega⟩
          case measure => simp [intOf]; omega
        · obtain rfl : k = hs.length := by omega
          have hl2 : hs.length ≤ maxLen := by unfold maxLen; omega
          have hRB : Roles wr.heap.size wr (.slice (some ⟨wa.heap.size, 0, none⟩) hs.length hs.length) hs := hP.roles hl2 0 _ _ _ rfl (by omega) (fun j _ => by simp)
          have hRA2 : Roles wr.heap.size wr (.slice (some ⟨W0.heap.size, 0, none⟩) gs.length gs.length) gs := (hRA.below hBa).mono hBa.size
          clear hP g3 hRA hBa hzr hl1 hl2
          go_wp2_with fail
          refine (toSet11 w.heap.size _ _ _ hB.size (hk.below hB)).mono ?_
          rintro e w2 ⟨rfl, hset2, hB2⟩
          have hBw2 : Below w.heap.size w w2 := hB.trans (hB2.mono hB.size)
          have hzb := hset2.lt
          have hzx := hB.size
          have hRA3 := hRA2.below hB2
          have hRB3 := hRB.below hB2
          generalize wr.heap.size = bs at *
          clear hB2 hB hRA2 hRB
          go_wp2_with fail
          refine (zzPerms13 _ _ _ _ gs _ hRA3 hset2 (by rw [flatten_count]; exact hn.2)).mono ?_
          rintro e w3 ⟨v3, xs, rfl, hO3, hset3, hrow3, hgr3⟩
          have hBw3 : Below w.heap.size w w3 := hBw2.trans (grownBy_below hgr3 hzx hzb)
          have hRB4 := hRB3.below (grownBy_below hgr3 (Nat.le_refl _) hzb)
          have hz3 := hgr3.size
          clear hRA3 hRB3 hset2 hgr3
          obtain ⟨av, cv, rfl, _⟩ := StrRow.of_owns hrow3 (hO3.sizes hg)
          go_wp2_with fail
          refine (zzPerms13 _ _ _ _ hs _ hRB4 hset3 (by rw [flatten_count]; exact hm.2)).mono ?_
          rintro e w4 ⟨v4, ys, rfl, hO4, hset4, hrow4, hgr4⟩
          have hb3 := hset3.lt
          have hBw4 : Below w.heap.size w w4 := hBw3.trans (grownBy_below hgr4 hzx hb3)
          have hRB5 : Roles w4.heap.size (w4.alloc (.map #[] 0)) (.slice (some ⟨wa.heap.size, 0, none⟩) hs.length hs.length) hs :=
            ((hRB4.below (grownBy_below hgr4 (Nat.le_refl _) hb3)).mono (Nat.le_of_lt hset4.lt)).below ((Below.refl _ _).alloc (Nat.le_refl _) _)
          have hz4 := hgr4.size
          have hr34 := rowKept hrow3 hgr4 hzb
          have hown4 := World.ownsMap_made w4 Try.prog 9 (unitElem (H := Unit))
          have hb4 := hset4.lt
          clear hRB4 hset3 hgr4 hrow3
          obtain ⟨aw, cw, rfl, _⟩ := StrRow.of_owns hrow4 (hO4.sizes hh)
          go_wp2_with fail
          refine (zzPerms13 _ _ _ _ hs _ hRB5 hown4 (by rw [flatten_count]; exact hm.2)).mono ?_
          rintro e w5 ⟨v5, zs, rfl, hO5, hset5, hrow5, hgr5⟩
          have hBa4 : Below w4.heap.size w4 (w4.alloc (.map #[] 0)) := (Below.refl _ _).alloc (Nat.le_refl _) _
          have hB45 : Below w4.heap.size w4 w5 := hBa4.trans (grownBy_below hgr5 (Nat.le_refl _) (by simp))
          have hBw5 : Below w.heap.size w w5 := hBw4.trans (hB45.mono hBw4.size)
          have hr35 := rowBelow hr34 hB45
          have hr45 := rowBelow hrow4 hB45
          have hs5 := hset4.block (hB45.block _ hb4)
          clear hRB5 hown4 hgr5 hr34 hrow4 hset4 hset5 hBa4 hB45
          obtain ⟨az, cz, rfl, _⟩ := StrRow.of_owns hrow5 (hO5.sizes hh)
          go_wp2_with fail
          refine (union17 w.heap.size _ gs _ hBw5.size (hg.below hBw5) (by rw [flatten_count]; exact hn.2)).mono ?_
          rintro e w6 ⟨rfl, hu6, hB6⟩
          have hBw6 : Below w.heap.size w w6 := hBw5.trans (hB6.mono hBw5.size)
          have hr36 := rowBelow hr35 hB6
          have hr46 := rowBelow hr45 hB6
          have hr56 := rowBelow hrow5 hB6
          have hs6 := hs5.block (hB6.block _ hs5.lt)
          clear hr35 hr45 hrow5 hs5 hB6
          go_wp2_with fail
          refine (union17 w.heap.size _ hs _ hBw6.size (hh.below hBw6) (by rw [flatten_count]; exact hm.2)).mono ?_
          rintro e w7 ⟨rfl, hu7, hB7⟩
          have hBw7 : Below w.heap.size w w7 := hBw6.trans (hB7.mono hBw6.size)
          have hr37 := rowBelow hr36 hB7
          have hr47 := rowBelow hr46 hB7
          have hr57 := rowBelow hr56 hB7
          have hs7 := hs6.block (hB7.block _ hs6.lt)
          have hua7 := ownsMap_block hu6 (hB7.block _ (World.ownsMap.lt hu6))
          clear hr36 hr46 hr56 hs6 hu6 hB7
          go_wp2_with fail
          refine (once18 w7.heap.size _ xs gs.flatten _ _ _ (Nat.le_refl _) (StrRow.of_owns hr37 (hO3.sizes hg)) hua7 hO3.1 hO3.flat).mono ?_
          rintro e w8 ⟨rfl, hB8⟩
          have hBw8 : Below w.heap.size w w8 := hBw7.trans (hB8.mono hBw7.size)
          have hr48 := rowBelow hr47 hB8
          have hr58 := rowBelow hr57 hB8
          have hs8 := hs7.block (hB8.block _ hs7.lt)
          have hub8 := ownsMap_block hu7 (hB8.block _ (World.ownsMap.lt hu7))
          clear hr37 hr47 hr57 hs7 hu7 hua7 hB8
          go_wp2_with fail
          refine (once18 w8.heap.size _ ys hs.flatten _ _ _ (Nat.le_refl _) (StrRow.of_owns hr48 (hO4.sizes hh)) hub8 hO4.1 hO4.flat).mono ?_
          rintro e w9 ⟨rfl, hB9⟩
          have hBw9 : Below w.heap.size w w9 := hBw8.trans (hB9.mono hBw8.size)
          have hr59 := rowBelow hr58 hB9
          have hs9 := hs8.block (hB9.block _ hs8.lt)
          have hub9 := ownsMap_block hub8 (hB9.block _ (World.ownsMap.lt hub8))
          clear hr48 hr58 hs8 hub8 hB9
          go_wp2_with fail
          refine (once18 w9.heap.size _ zs hs.flatten _ _ _ (Nat.le_refl _) (StrRow.of_owns hr59 (hO5.sizes hh)) hub9 hO5.1 hO5.flat).mono ?_
          rintro e w10 ⟨rfl, hB10⟩
          have hBw10 : Below w.heap.size w w10 := hBw9.trans (hB10.mono hBw9.size)
          have hs10 := hs9.block (hB10.block _ hs9.lt)
          have hub10 := ownsMap_block hub9 (hB10.block _ (World.ownsMap.lt hub9))
          have hlen10 : ∀ ty, (Builtin.len_ #[29] ty #[.map (some w6.heap.size)]).run Try.prog w10 = .ok (.int .i64 ys.length) w10 := fun ty => by
            rw [World.ownsMap.len hub10 Try.underlying29 ty, size_setD hO4.1 hO4.flat]
          clear hr59 hs9 hub9 hub10 hB10
          go_wp2_with fail
          refine (exactly19 w.heap.size _ hs ys _ _ _ hBw10.size (hh.below hBw10) hs10 hO4.1 hO4.2 rfl).mono ?_
          rintro e w11 ⟨rfl, hB11⟩
          go_wp2_with fail
          go_ret
          exact ⟨rfl, hBw10.trans (hB11.mono hBw10.size)⟩
end Go.Proofs.Qxb6614327a
