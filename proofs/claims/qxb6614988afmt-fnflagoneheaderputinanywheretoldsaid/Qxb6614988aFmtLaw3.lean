import Derived.Test.Qxb6614988aFmtLaw4
namespace Go.Proofs.Qxb6614988aFmt
open Go.RowKit Go.Extern.Stop Go.Stop Go.Extern Go.WideShapes

set_option maxRecDepth 100000 in
set_option maxHeartbeats 2000000 in
theorem count7 (n0 : Nat) (v1 : Value) (ns : List ByteArray) (p : ByteArray) (w : World) (hns : StrRow n0 w v1 ns) (hN : ns.length ≤ 1048576) :
    Calls Tryf.prog 7 #[v1, .string p] w fun e w' => w' = w ∧ e = .returned (.int .i64 ((ns.filter fun x => x == p).length : Nat)) := by
  obtain ⟨a, cap, rfl, h1, h2, h3⟩ := hns
  go_enter Tryf.func7, Tryf.ntmps7
  go_wp2
  go_loop [5, 6] (fun t i => ∃ k : Nat, k ≤ ns.length ∧ i = .int .i64 k ∧ t = .int .i64 ((own9 ns p k).length : Nat)) (fun _ i => ns.length - (intOf i).toNat)
  case atStart => exact ⟨0, Nat.zero_le _, rfl, rfl⟩
  case round =>
    obtain ⟨k, hk, rfl, rfl⟩ := hrel
    have hle := own9_le ns p k
    by_cases hlt : k < ns.length
    · obtain ⟨b, off, rfl, hb, hs, hc⟩ := h3 k hlt
      have HO := own9_succ ns p k hlt
      clear hs h3
      generalize ns[k]?.getD ByteArray.empty = hn at *
      have HL := congrArg List.length HO.out
      rw [List.length_append] at HL
      have HL' : Hid ((own9 ns p (k + 1)).length = (own9 ns p k).length + (if (hn == p) = true then [hn] else []).length) := HL
      clear HL HO
      generalize (own9 ns p k).length = n at *
      cases hq : (hn.toList == p.toList)
      · have hq' : (hn == p) = false := (beq_toListBytes hn p).trans hq
        rw [hq'] at HL'
        clear hq'
        go_wp2
        go_round
        case rel => exact ⟨k + 1, by omega, by go_num, by rw [HL'.out]; simp⟩
        case measure => simp [intOf]; omega
      · have hq' : (hn == p) = true := (beq_toListBytes hn p).trans hq
        rw [hq'] at HL'
        clear hq'
        go_wp2
        go_round
        case rel => exact ⟨k + 1, by omega, by go_num, by rw [HL'.out]; simp⟩
        case measure => simp [intOf]; omega
    · have hke : k = ns.length := by omega
      subst hke
      rw [own9_full]
      clear h3
      go_wp2
      go_ret
      exact ⟨rfl, rfl⟩

/-! ### one header put in -/
def mid (l : List ByteArray) (c : Nat) (x : ByteArray) (k : Nat) : List ByteArray := l.take c ++ x :: (l.take k).drop c
theorem mid_at (l : List ByteArray) (c : Nat) (x : ByteArray) : mid l c x c = l.take c ++ [x] := by
  unfold mid
  rw [List.drop_eq_nil_of_le (by simp; omega)]
theorem mid_succ (l : List ByteArray) (c k : Nat) (x : ByteArray) (hc : c ≤ k) (hk : k < l.length) : Hid (mid l c x (k + 1) = mid l c x k ++ [l[k]?.getD ByteArray.empty]) := by
  show _ = _
  unfold mid
  rw [List.take_succ_eq_append_getElem hk, List.drop_append_of_le_length (by simp; omega), List.getElem?_eq_getElem hk]
  simp
theorem take_succ' (l : List ByteArray) (k : Nat) (hk : k < l.length) : Hid (l.take (k + 1) = l.take k ++ [l[k]?.getD ByteArray.empty]) := by
  show _ = _
  rw [List.take_succ_eq_append_getElem hk, List.getElem?_eq_getElem hk]
  rfl
theorem mid_full (l : List ByteArray) (c : Nat) (x : ByteArray) : mid l c x l.length = l.take c ++ x :: l.drop c := by
  unfold mid
  rw [List.take_length]
theorem mid_mem {l : List ByteArray} {c : Nat} {x s : ByteArray} (h : s ∈ mid l c x l.length) : s ∈ l ∨ s = x := by
  rw [mid_full] at h
  rcases List.mem_append.1 h with h | h
  · exact .inl (List.mem_of_mem_take h)
  · rcases List.mem_cons.1 h with h | h
    · exact .inr h
    · exact .inl (List.mem_of_mem_drop h)
theorem own_append (xs ys : List Hdr) (p : ByteArray) : own (xs ++ ys) p = own xs p ++ own ys p := by
  unfold own
  rw [List.filter_append, List.map_append]
theorem zip_mid (ns vs : List ByteArray) (c : Nat) (p v : ByteArray) (hl : ns.length = vs.length) : (mid ns c p ns.length).zip (mid vs c v vs.length) = (ns.take c).zip (vs.take c) ++ (p, v) :: (ns.drop c).zip (vs.drop c) := by
  rw [mid_full, mid_full, List.zip_append (by simp [hl]), List.zip_cons_cons]
/-- What the record with one header more has of that name. -/
theorem own_mid (ns vs : List ByteArray) (c : Nat) (p v : ByteArray) (hl : ns.length = vs.length) :
    ∃ A B, own (ns.zip vs) p = A ++ B ∧ own ((mid ns c p ns.length).zip (mid vs c v vs.length)) p = A ++ v :: B := by
  refine ⟨own ((ns.take c).zip (vs.take c)) p, own ((ns.drop c).zip (vs.drop c)) p, ?_, ?_⟩
  · rw [← own_append, ← List.zip_append (by simp [hl]), List.take_append_drop, List.take_append_drop]
  · rw [zip_mid ns vs c p v hl, own_append]
    congr 1
    have hp : (p == p) = true := (beq_toListBytes p p).trans (by simp)
    simp only [own, List.filter_cons, hp, if_true, List.map_cons]
theorem owns_len {W : World} {base n : Nat} {x : Value} {xs : List ByteArray} (h : W.ownsRow base 9 1 x n (xs.map Value.string)) : W.ownsRow base 9 1 x xs.length (xs.map Value.string) ∧ xs.length = n := by
  have := h.1
  rw [List.length_map, Nat.mul_one] at this
  rw [this]
  exact ⟨h, rfl⟩
theorem flag_two {l : List ByteArray} (h : 2 ≤ l.length) : flagB l = false ∧ flagE l = true := by
  match l, h with
  | _ :: _ :: _, _ => exact ⟨rfl, rfl⟩

set_option maxRecDepth 100000 in
set_option maxHeartbeats 4000000 in
theorem walk3 (F : Interp) (ae : Addr) (se : ByteArray) (v1 v2 : Value) (ns vs : List ByteArray) (p v : ByteArray) (c : Int) (w : World) (hF : F.answers w.tape) (hE : ErrAt w.heap.size w ae se) (hns : StrRow w.heap.size w v1 ns) (hvs : StrRow w.heap.size w v2 vs) (hp : p.size ≤ maxLen) (hv : v.size ≤ maxLen) :
    Calls Tryf.prog 3 #[v1, v2, .string p, .string v, .int .i64 c] w fun e w' => e = .returned (.bool true) ∧ Below w.heap.size w w' := by
  obtain ⟨a, cap, rfl, h1, h2, h3⟩ := id hns
  obtain ⟨a2, cap2, rfl, g1, g2, g3⟩ := id hvs
  have hp' := hp
  have hv' := hv
  unfold maxLen at hp' hv'
  go_enter Tryf.func3, Tryf.ntmps3
  go_wp2_with fail
  refine (bytes5 w.heap.size w.heap.size _ _ ns vs p v c w hns hvs hp hv).mono ?_
  rintro e w ⟨rfl, r, rfl, hr⟩
  cases r
  · go_wp2_with fail
    go_ret
    exact ⟨rfl, Below.refl _ _⟩
  obtain ⟨hr1, hr2⟩ := hr rfl
  by_cases hpl : 1048576 < p.size
  · go_wp2_with fail
    go_ret
    exact ⟨rfl, Below.refl _ _⟩
  by_cases hvl : 1048576 < v.size
  · go_wp2_with fail
    go_ret
    exact ⟨rfl, Below.refl _ _⟩
  go_wp2_with fail
  refine (tooBig6 w.heap.size w.heap.size _ _ ns vs _ w hns hvs (by omega)).mono ?_
  rintro e w ⟨rfl, r, rfl, _⟩
  cases r
  case true =>
    go_wp2_with fail
    go_ret
    exact ⟨rfl, Below.refl _ _⟩
  by_cases hl : ns.length = vs.length
  case neg =>
    have hb : ((ns.length : Int) != (vs.length : Int)) = true := by rw [bne_iff_ne]; omega
    clear hl
    go_wp2_with fail
    go_ret
    exact ⟨rfl, Below.refl _ _⟩
  have hb : ((ns.length : Int) != (vs.length : Int)) = false := by simp; omega
  have HL : Hid (ns.length = vs.length) := hl
  clear hl
  by_cases hc0 : c < 0
  · go_wp2_with fail
    go_ret
    exact ⟨rfl, Below.refl _ _⟩
  by_cases hc1 : (ns.length : Int) < c
  · go_wp2_with fail
    go_ret
    exact ⟨rfl, Below.refl _ _⟩
  obtain ⟨m, rfl⟩ : ∃ m : Nat, c = m := ⟨c.toNat, by omega⟩
  have hm : m ≤ ns.length := by omega
  obtain ⟨i0, hi, hz0, hz1, hz2⟩ := info_parts Tryf.info9
  have hneq := neqNil a ns.length cap
  have hneq2 := neqNil a2 vs.length cap2
  go_upto_if 60 with fail
  go_cut [0, 11] (fun s0 _ wc => ∃ a' cap', s0 = .slice a' ns.length cap' ∧ StrRow wc.heap.size wc (.slice a' ns.length cap') ns ∧ Below w.heap.size w wc)
  case first =>
    cases a with
    | none =>
      go_wp2_with fail
      go_meet
      case rel => exact ⟨_, _, rfl, hns, Below.refl _ _⟩
    | some ad =>
      have hsz := hns.sizes
      have hm1 : ns.length ≤ maxLen := by unfold maxLen; omega
      go_wp2_with (
        at_make
        refine wpList_make_full _ rfl _ _ 22 rfl w.heap.size 9 i0 (.string ⟨#[]⟩) 1 Tryf.underlying22 hi hz0 hz1 _ _ _ _ ns.length rfl rfl rfl rfl (by rw [hz2]; omega) (by unfold maxLen; omega) (Nat.le_refl _) ?_
        intro w1 hown hgrow
        obtain ⟨cur, hcl, hgb⟩ := made_block hown
        have hB1 : Below w.heap.size w w1 := (Below.refl _ _).grown hgrow (Nat.le_refl _) (fun k e => by cases e)
        obtain ⟨w2, hcopy, hg2, hB2⟩ := copy_strs hns hB1 rfl hcl hgb
        have HG2 : Hid (w2.heap[w.heap.size]? = some (.cells (ns.map Value.string).toArray 9 (0, 0))) := hg2
        have hB3 := hB1.trans hB2
        clear hown hgrow hgb hcl hg2 hB1 hB2)
      go_meet
      case rel =>
        exact ⟨_, _, rfl, StrRow.of_block HG2.out hsz hm1, hB3⟩
  case rest =>
    obtain ⟨a', cap', rfl, hns1, hB1⟩ := hcut
    have hvs1 := hvs.below hB1
    have hz1w := hB1.size
    have hsz1 := hns.sizes
    have hsz2 := hvs.sizes
    clear hns h3 g3
    generalize wc = wa at *
    go_upto_if 69 with fail
    go_cut [1, 12] (fun s1 _ wd => ∃ a' cap', s1 = .slice a' vs.length cap' ∧ StrRow wd.heap.size wd (.slice a' vs.length cap') vs ∧ Below wa.heap.size wa wd)
    case first =>
      cases a2 with
      | none =>
        go_wp2_with fail
        go_meet
        case rel => exact ⟨_, _, rfl, hvs1.mono hz1w, Below.refl _ _⟩
      | some ad =>
        have hsz := hvs.sizes
        have hm1 : vs.length ≤ maxLen := by unfold maxLen; omega
        go_wp2_with (
          at_make
          refine wpList_make_full _ rfl _ _ 22 rfl wa.heap.size 9 i0 (.string ⟨#[]⟩) 1 Tryf.underlying22 hi hz0 hz1 _ _ _ _ vs.length rfl rfl rfl rfl (by rw [hz2]; omega) (by unfold maxLen; omega) (Nat.le_refl _) ?_
          intro w1 hown hgrow
          obtain ⟨cur, hcl, hgb⟩ := made_block hown
          have hB4 : Below wa.heap.size wa w1 := (Below.refl _ _).grown hgrow (Nat.le_refl _) (fun k e => by cases e)
          obtain ⟨w2, hcopy, hg2, hB2⟩ := copy_strs hvs1 (hB4.mono hz1w) rfl hcl hgb
          have HG2 : Hid (w2.heap[wa.heap.size]? = some (.cells (vs.map Value.string).toArray 9 (0, 0))) := hg2
          have hB3 := hB4.trans hB2
          clear hown hgrow hgb hcl hg2 hB4 hB2)
        go_meet
        case rel => exact ⟨_, _, rfl, StrRow.of_block HG2.out hsz hm1, hB3⟩
    case rest =>
      clear hvs hvs1 hneq hneq2
      generalize wc = wb at *
      obtain ⟨b', capb', rfl, hvs2, hB2⟩ := hcut
      have hns2 := (hns1.below hB2).mono hB2.size
      have hBw : Below w.heap.size w wb := hB1.trans (hB2.mono hz1w)
      clear hns1 hB1 hB2 hz1w
      obtain ⟨_, _, e, h1, h2, h3⟩ := id hns2
      cases e
      obtain ⟨_, _, e, g1, g2, g3⟩ := id hvs2
      cases e
      unfold maxLen at h2 g2
      go_wp2_with fail
      refine (count7 wb.heap.size _ ns p wb hns2 hr1).mono ?_
      rintro e wb ⟨rfl, rfl⟩
      have hfl : (ns.filter fun x => x == p).length ≤ 1048576 := by have := List.length_filter_le (fun x => x == p) ns; omega
      obtain ⟨hlen, _⟩ := own_own p ns vs HL.out
      have HN : Hid ((ns.filter fun x => x == p).length = (own (ns.zip vs) p).length) := hlen
      clear hlen
      generalize (ns.filter fun x => x == p).length = cnt at *
      go_wp2_with (first
        | (at_make
           refine wpList_make_own _ rfl _ _ 22 rfl wb.heap.size 9 i0 (.string ⟨#[]⟩) 1 Tryf.underlying22 hi hz0 hz1 _ _ _ (ns.length + 1) rfl rfl (by omega) (by rw [hz2]; omega) (by unfold maxLen; omega) (Nat.le_refl _) ?_
           intro w1 hown14 hgrow14
           have hC14 : Below wb.heap.size wb w1 := (Below.refl _ _).grown hgrow14 (Nat.le_refl _) (fun k e => by cases e)
           have hz14 := hown14.lt _ rfl
           clear hgrow14)
        | (at_make
           refine wpList_make_own _ rfl _ _ 22 rfl wb.heap.size 9 i0 (.string ⟨#[]⟩) 1 Tryf.underlying22 hi hz0 hz1 _ _ _ (vs.length + 1) rfl rfl (by omega) (by rw [hz2]; omega) (by unfold maxLen; omega) hC14.size ?_
           intro w2 hown15 hgrow15
           have hC15 : Below wb.heap.size wb w2 := hC14.grown hgrow15 hC14.size (fun k e => by cases e)
           have hown14' := hown14.kept hgrow15 (.inr (by simp [Value.ownBlock]))
           have hne0 : w1.heap.size ≠ wb.heap.size := by omega
           clear hown14 hgrow15 hC14))
      have hne : Value.ownBlock (.slice (some ⟨wb.heap.size, 0, none⟩) 0 (ns.length + 1)) ≠ Value.ownBlock (.slice (some ⟨w1.heap.size, 0, none⟩) 0 (vs.length + 1)) := by simp [Value.ownBlock]; omega
      clear hz14 hne0
      go_loopw [14, 15, 16] (fun x14 x15 i wr => ∃ k : Nat, k ≤ m ∧ i = .int .i64 k ∧ wr.ownsRow wb.heap.size 9 1 x14 k ((ns.take k).map Value.string) ∧ wr.ownsRow wb.heap.size 9 1 x15 k ((vs.take k).map Value.string) ∧ (x14.ownBlock = none ∨ x14.ownBlock ≠ x15.ownBlock) ∧ Below wb.heap.size wb wr) (fun _ _ i _ => m - (intOf i).toNat)
      case atStart => exact ⟨0, Nat.zero_le _, rfl, hown14', hown15, .inr hne, hC15⟩
      case round =>
        clear hown14' hown15 hne hC15
        obtain ⟨k, hk, rfl, hr14, hr15, hne, hB⟩ := hrel
        by_cases hlt : k < m
        · have hkn : k < ns.length := by omega
          have hkv : k < vs.length := by have := HL.out; omega
          have HO := take_succ' ns k hkn
          have HO2 := take_succ' vs k hkv
          obtain ⟨b1, o1, rfl, hb1, _, hc1⟩ := h3 k hkn
          obtain ⟨b2, o2, rfl, hb2, _, hc2⟩ := g3 k hkv
          have hc1' : wr.cell? ⟨b1, o1 + k, none⟩ = some (.string (ns[k]?.getD ByteArray.empty)) := (hB.cell (p := ⟨b1, o1 + k, none⟩) hb1).trans hc1
          have HC2 : Hid (∀ V, Below wb.heap.size wb V → V.cell? ⟨b2, o2 + k, none⟩ = some (.string (vs[k]?.getD ByteArray.empty))) := fun V hV => (hV.cell (p := ⟨b2, o2 + k, none⟩) hb2).trans hc2
          clear hc1 hc2
          generalize ns[k]?.getD ByteArray.empty = hn at *
          generalize vs[k]?.getD ByteArray.empty = hw at *
          have hsB := hB.size
          have hA := hr14
          clear hr14
          generalize ns.take k = l14 at *
          generalize vs.take k = l15 at *
          go_wp2_with (first
            | (at_builtin
               refine wpList_append_own_at _ rfl _ _ 22 rfl wb.heap.size 9 i0 (.string ⟨#[]⟩) 1 16 Tryf.underlying22 hi hz0 hz1 hz2 rfl (by decide) _ _ _ rfl (hA.alloc _) ⟨wr.heap.size, 0, none⟩ 1 1 [.string hn] rfl rfl (cell_one_new _ _ _) (strs_one [hn]) (by unfold maxLen; omega) (by omega) (by simp; omega) ?_
               intro y14 u1 hown14 hgrow14 hnil14 hat14
               have hr15b := (hr15.alloc (.cells #[.string hn] 9)).kept hgrow14 (apart_symm hne)
               have hB1 := (hB.alloc hsB (.cells #[.string hn] 9)).grown hgrow14 (by simp; omega) (fun j e => (hA.lt j e).1)
               have hs1 := hgrow14.size
               have hd14 := apart_new hne hat14 (fun j e => by have := (hr15.lt j e).2; simp; omega)
               have hc3 := HC2.out u1 hB1
               clear hA hr15)
            | (at_builtin
               refine wpList_append_own_at _ rfl _ _ 22 rfl wb.heap.size 9 i0 (.string ⟨#[]⟩) 1 16 Tryf.underlying22 hi hz0 hz1 hz2 rfl (by decide) _ _ _ rfl (hr15b.alloc _) ⟨u1.heap.size, 0, none⟩ 1 1 [.string hw] rfl rfl (cell_one_new _ _ _) (strs_one [hw]) (by unfold maxLen; omega) (by omega) (by simp at hs1 ⊢; omega) ?_
               intro y15 u2 hown15 hgrow15 hnil15 hat15))
          go_roundw
          case rel =>
            refine ⟨k + 1, by omega, by go_num, ?_, ?_, ?_, ?_⟩
            · rw [HO.out]
              simpa using (hown14.alloc (.cells #[.string hw] 9)).kept hgrow15 hd14
            · rw [HO2.out]
              simpa using hown15
            · exact apart_symm (apart_new (apart_symm hd14) hat15 (fun j e => by have := (hown14.lt j e).2; simp; omega))
            · exact (hB1.alloc hB1.size (.cells #[.string hw] 9)).grown hgrow15 (by have := hB1.size; simp; omega) (fun j e => (hr15b.lt j e).1)
          case measure => simp [intOf]; omega
        · have hke : k = m := by omega
          subst hke
          have hsB := hB.size
          have hA := hr14
          clear hr14
          have HM := mid_at ns k p
          have HM2 := mid_at vs k v
          generalize ns.take k = l14 at *
          generalize vs.take k = l15 at *
          go_wp2_with (first
            | (at_builtin
               refine wpList_append_own_at _ rfl _ _ 22 rfl wb.heap.size 9 i0 (.string ⟨#[]⟩) 1 16 Tryf.underlying22 hi hz0 hz1 hz2 rfl (by decide) _ _ _ rfl (hA.alloc _) ⟨wr.heap.size, 0, none⟩ 1 1 [.string p] rfl rfl (cell_one_new _ _ _) (strs_one [p]) (by unfold maxLen; omega) (by omega) (by simp; omega) ?_
               intro y14 u1 hown14 hgrow14 hnil14 hat14
               have hr15b := (hr15.alloc (.cells #[.string p] 9)).kept hgrow14 (apart_symm hne)
               have hB1 := (hB.alloc hsB (.cells #[.string p] 9)).grown hgrow14 (by simp; omega) (fun j e => (hA.lt j e).1)
               have hs1 := hgrow14.size
               have hd14 := apart_new hne hat14 (fun j e => by have := (hr15.lt j e).2; simp; omega)
               clear hA hr15)
            | (at_builtin
               refine wpList_append_own_at _ rfl _ _ 22 rfl wb.heap.size 9 i0 (.string ⟨#[]⟩) 1 16 Tryf.underlying22 hi hz0 hz1 hz2 rfl (by decide) _ _ _ rfl (hr15b.alloc _) ⟨u1.heap.size, 0, none⟩ 1 1 [.string v] rfl rfl (cell_one_new _ _ _) (strs_one [v]) (by unfold maxLen; omega) (by omega) (by simp at hs1 ⊢; omega) ?_
               intro y15 u2 hown15 hgrow15 hnil15 hat15))
          have hfirst : u2.ownsRow wb.heap.size 9 1 y14 (k + 1) ((mid ns k p k).map Value.string) := by
            rw [HM]
            simpa using (hown14.alloc (.cells #[.string v] 9)).kept hgrow15 hd14
          have hsecond : u2.ownsRow wb.heap.size 9 1 y15 (k + 1) ((mid vs k v k).map Value.string) := by
            rw [HM2]
            simpa using hown15
          have hdd := apart_symm (apart_new (apart_symm hd14) hat15 (fun j e => by have := (hown14.lt j e).2; simp; omega))
          have hBB := (hB1.alloc hB1.size (.cells #[.string v] 9)).grown hgrow15 (by have := hB1.size; simp; omega) (fun j e => (hr15b.lt j e).1)
          clear hown14 hown15 hd14 hat15 hat14 hB1 hgrow15 hgrow14 hr15b hnil14 hnil15 HM HM2 hne hB hs1 hsB
          generalize wr = wz at *
          go_loopw [14, 15, 17] (fun x14 x15 i wr => ∃ j : Nat, k ≤ j ∧ j ≤ ns.length ∧ i = .int .i64 j ∧ wr.ownsRow wb.heap.size 9 1 x14 (j + 1) ((mid ns k p j).map Value.string) ∧ wr.ownsRow wb.heap.size 9 1 x15 (j + 1) ((mid vs k v j).map Value.string) ∧ (x14.ownBlock = none ∨ x14.ownBlock ≠ x15.ownBlock) ∧ Below wb.heap.size wb wr) (fun _ _ i _ => ns.length - (intOf i).toNat)
          case atStart => exact ⟨k, Nat.le_refl _, hm, rfl, hfirst, hsecond, hdd, hBB⟩
          case round =>
            clear hfirst hsecond hdd hBB
            obtain ⟨j, hkj, hj, rfl, hr14, hr15, hne, hB⟩ := hrel
            by_cases hjn : j < ns.length
            · have hjv : j < vs.length := by have := HL.out; omega
              have HO := mid_succ ns k j p hkj hjn
              have HO2 := mid_succ vs k j v hkj hjv
              obtain ⟨b1, o1, rfl, hb1, _, hc1⟩ := h3 j hjn
              obtain ⟨b2, o2, rfl, hb2, _, hc2⟩ := g3 j hjv
              have hc1' : wr.cell? ⟨b1, o1 + j, none⟩ = some (.string (ns[j]?.getD ByteArray.empty)) := (hB.cell (p := ⟨b1, o1 + j, none⟩) hb1).trans hc1
              have HC2 : Hid (∀ V, Below wb.heap.size wb V → V.cell? ⟨b2, o2 + j, none⟩ = some (.string (vs[j]?.getD ByteArray.empty))) := fun V hV => (hV.cell (p := ⟨b2, o2 + j, none⟩) hb2).trans hc2
              clear hc1 hc2
              generalize ns[j]?.getD ByteArray.empty = hn at *
              generalize vs[j]?.getD ByteArray.empty = hw at *
              have hsB := hB.size
              have hA := hr14
              clear hr14
              generalize mid ns k p j = l14 at *
              generalize mid vs k v j = l15 at *
              go_wp2_with (first
                | (at_builtin
                   refine wpList_append_own_at _ rfl _ _ 22 rfl wb.heap.size 9 i0 (.string ⟨#[]⟩) 1 16 Tryf.underlying22 hi hz0 hz1 hz2 rfl (by decide) _ _ _ rfl (hA.alloc _) ⟨wr.heap.size, 0, none⟩ 1 1 [.string hn] rfl rfl (cell_one_new _ _ _) (strs_one [hn]) (by unfold maxLen; omega) (by omega) (by simp; omega) ?_
                   intro y14 u1 hown14 hgrow14 hnil14 hat14
                   have hr15b := (hr15.alloc (.cells #[.string hn] 9)).kept hgrow14 (apart_symm hne)
                   have hB1 := (hB.alloc hsB (.cells #[.string hn] 9)).grown hgrow14 (by simp; omega) (fun q e => (hA.lt q e).1)
                   have hs1 := hgrow14.size
                   have hd14 := apart_new hne hat14 (fun q e => by have := (hr15.lt q e).2; simp; omega)
                   have hc3 := HC2.out u1 hB1
                   clear hA hr15)
                | (at_builtin
                   refine wpList_append_own_at _ rfl _ _ 22 rfl wb.heap.size 9 i0 (.string ⟨#[]⟩) 1 16 Tryf.underlying22 hi hz0 hz1 hz2 rfl (by decide) _ _ _ rfl (hr15b.alloc _) ⟨u1.heap.size, 0, none⟩ 1 1 [.string hw] rfl rfl (cell_one_new _ _ _) (strs_one [hw]) (by unfold maxLen; omega) (by omega) (by simp at hs1 ⊢; omega) ?_
                   intro y15 u2 hown15 hgrow15 hnil15 hat15))
              go_roundw
              case rel =>
                refine ⟨j + 1, by omega, by omega, by go_num, ?_, ?_, ?_, ?_⟩
                · rw [HO.out]
                  simpa using (hown14.alloc (.cells #[.string hw] 9)).kept hgrow15 hd14
                · rw [HO2.out]
                  simpa using hown15
                · exact apart_symm (apart_new (apart_symm hd14) hat15 (fun q e => by have := (hown14.lt q e).2; simp; omega))
                · exact (hB1.alloc hB1.size (.cells #[.string hw] 9)).grown hgrow15 (by have := hB1.size; simp; omega) (fun q e => (hr15b.lt q e).1)
              case measure => simp [intOf]; omega
            · have hje : j = ns.length := by omega
              subst hje
              rw [HL.out] at hr15
              obtain ⟨hO14, hl14⟩ := owns_len hr14
              obtain ⟨hO15, hl15⟩ := owns_len hr15
              have hR9 := StrRow.of_owns hO14 (fun s hs => by rcases mid_mem hs with h | rfl; exact hsz1 s h; exact hp)
              have hR10 := StrRow.of_owns hO15 (fun s hs => by rcases mid_mem hs with h | rfl; exact hsz2 s h; exact hv)
              obtain ⟨A, B, hab, hab2⟩ := own_mid ns vs k p v HL.out
              have hns3 := hns2.below hB
              have hvs3 := hvs2.below hB
              have hz := hB.size
              have hBw3 : Below w.heap.size w wr := hBw.trans (hB.mono hBw.size)
              have HO : Hid (own ((mid ns k p ns.length).zip (mid vs k v vs.length)) p = A ++ v :: B) := hab2
              have HAB : Hid (own (ns.zip vs) p = A ++ B) := hab
              have HM : Hid ((mid ns k p ns.length).length = (mid vs k v vs.length).length) := by
                show _ = _
                have := HL.out
                omega
              have hle9 : (mid ns k p ns.length).length ≤ 1048577 := by omega
              clear hr14 hr15 hne hB hns2 hvs2 hBw hsz1 hsz2 h3 g3 hO14 hO15 hab hab2 hl14 hl15
              obtain ⟨a9, c9, rfl, _⟩ := id hR9
              obtain ⟨a10, c10, rfl, _⟩ := id hR10
              go_wp2_with fail
              refine (newRec9 wb.heap.size _ _ ns vs wr hz hns3 hvs3 HL.out (by omega)).mono ?_
              rintro e w1 ⟨br, rfl, hB1, hRec⟩
              have hBw4 : Below w.heap.size w w1 := hBw3.trans (hB1.mono hBw3.size)
              have hF1 : F.answers w1.tape := hBw4.tape ▸ hF
              have hE1 : ErrAt w1.heap.size w1 ae se := (hE.below hBw4).mono hBw4.size
              replace hR9 := (hR9.below hB1).mono hB1.size
              replace hR10 := (hR10.below hB1).mono hB1.size
              clear hns3 hvs3 hBw3 hz hB1
              generalize wr = wy at *
              go_wp2_with fail
              refine (zzflag8 F w1.heap.size br ae se p _ w1 hF1 (Nat.le_refl _) hE1 hRec).mono ?_
              rintro e w2 ⟨hB2, er, her, rfl⟩
              rw [HAB.out] at her ⊢
              have HN2 : Hid (cnt = (A ++ B).length) := by
                show _ = _
                rw [HN.out, HAB.out]
              clear HN HAB
              generalize mid ns k p ns.length = l9 at *
              generalize mid vs k v vs.length = l10 at *
              have hBw5 : Below w.heap.size w w2 := hBw4.trans (hB2.mono hBw4.size)
              have hF2 : F.answers w2.tape := hBw5.tape ▸ hF
              have hE2 : ErrAt w2.heap.size w2 ae se := (hE.below hBw5).mono hBw5.size
              replace hR9 := (hR9.below hB2).mono hB2.size
              replace hR10 := (hR10.below hB2).mono hB2.size
              clear hBw4 hB2 hRec
              obtain ⟨bq, HB⟩ : ∃ b, Hid (flagB (A ++ B) = b) := ⟨_, rfl⟩
              rw [HB.out]
              go_wp2_with fail
              refine (newRec9 w2.heap.size _ _ l9 l10 w2 (Nat.le_refl _) hR9 hR10 HM.out hle9).mono ?_
              rintro e w3 ⟨br2, rfl, hB3, hRec⟩
              have hBw6 : Below w.heap.size w w3 := hBw5.trans (hB3.mono hBw5.size)
              have hF3 : F.answers w3.tape := hBw6.tape ▸ hF
              have hE3 : ErrAt w3.heap.size w3 ae se := (hE.below hBw6).mono hBw6.size
              clear hBw5 hB3 hE2 hF2 hR9 hR10
              go_wp2_with fail
              refine (zzflag8 F w3.heap.size br2 ae se p _ w3 hF3 (Nat.le_refl _) hE3 hRec).mono ?_
              rintro e w4 ⟨hB4, er2, her2, rfl⟩
              rw [HO.out] at her2 ⊢
              obtain ⟨bq2, HB2⟩ : ∃ b, Hid (flagB (A ++ v :: B) = b) := ⟨_, rfl⟩
              rw [HB2.out]
              have hBw7 : Below w.heap.size w w4 := hBw6.trans (hB4.mono hBw6.size)
              clear hBw6 hB4 hE3 hF3 hRec hE1 hF1
              by_cases h0 : (A ++ B).length = 0
              · obtain ⟨hA0, hB0⟩ := List.append_eq_nil_iff.1 (List.length_eq_zero_iff.1 h0)
                subst hA0 hB0
                have hcnt : cnt = 0 := HN2.out
                have hbq : bq = false := HB.out.symm
                have hbq2 : bq2 = isTrue v := HB2.out.symm
                obtain rfl := her.no rfl
                subst hcnt hbq
                clear HN2 HB HB2 her h0
                cases hf : isFalse v
                · cases ht : isTrue v
                  · obtain ⟨pe, rfl⟩ := her2.yes (by show (!isTrue v && !isFalse v) = true; rw [ht, hf]; rfl)
                    rw [ht] at hbq2
                    subst hbq2
                    unfold isTrue at ht
                    unfold isFalse at hf
                    clear her2
                    go_wp2_with fail
                    go_ret
                    exact ⟨rfl, hBw7⟩
                  · obtain rfl := her2.no (by show (!isTrue v && !isFalse v) = false; rw [ht]; rfl)
                    rw [ht] at hbq2
                    subst hbq2
                    unfold isTrue at ht
                    clear her2 hf
                    go_wp2_with fail
                    go_ret
                    exact ⟨rfl, hBw7⟩
                · have ht := true_not_false hf
                  obtain rfl := her2.no (by show (!isTrue v && !isFalse v) = false; rw [hf]; simp)
                  rw [ht] at hbq2
                  subst hbq2
                  unfold isTrue at ht
                  unfold isFalse at hf
                  clear her2
                  go_wp2_with fail
                  go_ret
                  exact ⟨rfl, hBw7⟩
              · have hab : (A ++ v :: B).length = (A ++ B).length + 1 := by simp; omega
                obtain ⟨e1, e2⟩ := flag_two (l := A ++ v :: B) (by omega)
                have hbq2 : bq2 = false := HB2.out.symm.trans e1
                obtain ⟨pe, rfl⟩ := her2.yes e2
                have hcnt : cnt = (A ++ B).length := HN2.out
                have hcb : ((cnt : Int) == 0) = false := by simp; omega
                subst hbq2
                clear HB2 e1 e2 her2 hab HN2 HO
                by_cases h2 : 2 ≤ cnt
                · obtain ⟨e1, e2⟩ := flag_two (l := A ++ B) (by omega)
                  have hbq : bq = false := HB.out.symm.trans e1
                  obtain ⟨pe2, rfl⟩ := her.yes e2
                  subst hbq
                  clear HB e1 e2 her hcnt h0
                  go_wp2_with fail
                  go_ret
                  exact ⟨rfl, hBw7⟩
                · clear HB her hcnt h0
                  go_wp2_with fail
                  go_ret
                  exact ⟨rfl, hBw7⟩
end Go.Proofs.Qxb6614988aFmt
