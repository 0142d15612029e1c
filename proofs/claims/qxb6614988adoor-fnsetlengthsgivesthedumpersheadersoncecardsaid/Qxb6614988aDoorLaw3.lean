import Derived.Test.Qxb6614988aDoorWant
import Derived.Test.Qxb6614988aDoorLens
namespace Go.Proofs.Qxb6614988aDoor
open Go.RowKit Go.WideShapes

set_option maxRecDepth 100000 in
set_option maxHeartbeats 8000000 in
theorem walk3 (v1 v2 : Value) (ns vs : List ByteArray) (pa : Option Addr) (pn pc : Nat) (hp ht : Bool) (tl : Int) (w : World) (htab : Tab w) (h0 : 0 < w.heap.size) (hns : StrRow w.heap.size w v1 ns) (hvs : StrRow w.heap.size w v2 vs) (hps : BRow w.heap.size w pa pn pc) (ht0 : -9223372036854775808 ≤ tl) (ht1 : tl ≤ 9223372036854775807) :
    Calls Tryd.prog 3 #[v1, v2, .slice pa pn pc, .bool hp, .int .i64 tl, .bool ht] w fun e w' => e = .returned (.bool true) ∧ Below w.heap.size w w' := by
  obtain ⟨a, cap, rfl, h1, h2, h3⟩ := id hns
  obtain ⟨a2, cap2, rfl, g1, g2, g3⟩ := id hvs
  have hpm : pn ≤ maxLen := by obtain ⟨_, _, q1, q2, _⟩ := hps; omega
  have hpm' := hpm
  unfold maxLen at hpm'
  go_enter Tryd.func3, Tryd.ntmps3
  go_wp2_with fail
  refine (bytes5 w.heap.size w.heap.size _ _ ns vs pa pn pc hp ht tl w hns hvs hpm).mono ?_
  rintro e w ⟨rfl, r, rfl, hr⟩
  cases r
  · go_wp2_with fail
    go_ret
    exact ⟨rfl, Below.refl _ _⟩
  obtain ⟨hr1, hr2⟩ := hr rfl
  by_cases hpl : 1048576 < pn
  · go_wp2_with fail
    go_ret
    exact ⟨rfl, Below.refl _ _⟩
  go_wp2_with fail
  refine (tooBig6 w.heap.size w.heap.size _ _ ns vs _ w hns hvs (by omega)).mono ?_
  rintro e w ⟨rfl, r, rfl, _⟩
  cases r
  case true =>
    go_wp2_with fail
    go_ret
    exact ⟨rfl, Below.refl _ _⟩
  by_cases hl : ns.length = vs.length
  case neg =>
    have hb : ((ns.length : Int) != (vs.length : Int)) = true := by rw [bne_iff_ne]; omega
    clear hl
    go_wp2_with fail
    go_ret
    exact ⟨rfl, Below.refl _ _⟩
  have hb : ((ns.length : Int) != (vs.length : Int)) = false := by simp; omega
  have HL : Hid (ns.length = vs.length) := hl
  clear hl
  obtain ⟨i0, hi, hz0, hz1, hz2⟩ := info_parts Tryd.info9
  obtain ⟨j0, hj, hy0, hy1, hy2⟩ := info_parts Tryd.info5
  have hneq := neqNil a ns.length cap
  have hneq2 := neqNil a2 vs.length cap2
  have hneq3 := neqNilB pa pn pc
  go_upto_if 53 with fail
  go_cut [0, 13] (fun s0 _ wq => ∃ a' cap', s0 = .slice a' ns.length cap' ∧ StrRow wq.heap.size wq (.slice a' ns.length cap') ns ∧ Below w.heap.size w wq)
  case first =>
    as_aux_lemma =>
      cases a with
      | none =>
        go_wp2_with fail
        go_meet
        case rel => exact ⟨_, _, rfl, hns, Below.refl _ _⟩
      | some ad =>
        have hsz := hns.sizes
        have hm1 : ns.length ≤ maxLen := by unfold maxLen; omega
        go_wp2_with (
          at_make
          refine wpList_make_full _ rfl _ _ 22 rfl w.heap.size 9 i0 (.string ⟨#[]⟩) 1 Tryd.underlying22 hi hz0 hz1 _ _ _ _ ns.length rfl rfl rfl rfl (by rw [hz2]; omega) (by unfold maxLen; omega) (Nat.le_refl _) ?_
          intro w1 hown hgrow
          obtain ⟨cur, hcl, hgb⟩ := made_block hown
          have hB4 : Below w.heap.size w w1 := (Below.refl _ _).grown hgrow (Nat.le_refl _) (fun k e => by cases e)
          obtain ⟨w2, hcopy, hg2, hB2⟩ := copy_strs hns hB4 rfl hcl hgb
          have HG2 : Hid (w2.heap[w.heap.size]? = some (.cells (ns.map Value.string).toArray 9 (0, 0))) := hg2
          have hB3 := hB4.trans hB2
          clear hown hgrow hgb hcl hg2 hB4 hB2)
        go_meet
        case rel => exact ⟨_, _, rfl, StrRow.of_block HG2.out hsz hm1, hB3⟩
  case rest =>
    obtain ⟨a', cap', rfl, hns1, hB1⟩ := hcut
    have hvs1 := (hvs.below hB1).mono hB1.size
    have hps1 := hps.below hB1
    have hz1w := hB1.size
    clear hns hvs hps h3 g3
    generalize wc = wa at *
    go_upto_if 62 with fail
    go_cut [1, 14] (fun s0 _ wq => ∃ a' cap', s0 = .slice a' vs.length cap' ∧ StrRow wq.heap.size wq (.slice a' vs.length cap') vs ∧ Below wa.heap.size wa wq)
    case first =>
      as_aux_lemma =>
        cases a2 with
        | none =>
          go_wp2_with fail
          go_meet
          case rel => exact ⟨_, _, rfl, hvs1, Below.refl _ _⟩
        | some ad =>
          have hsz := hvs1.sizes
          have hm1 : vs.length ≤ maxLen := by unfold maxLen; omega
          go_wp2_with (
            at_make
            refine wpList_make_full _ rfl _ _ 22 rfl wa.heap.size 9 i0 (.string ⟨#[]⟩) 1 Tryd.underlying22 hi hz0 hz1 _ _ _ _ vs.length rfl rfl rfl rfl (by rw [hz2]; omega) (by unfold maxLen; omega) (Nat.le_refl _) ?_
            intro w1 hown hgrow
            obtain ⟨cur, hcl, hgb⟩ := made_block hown
            have hB4 : Below wa.heap.size wa w1 := (Below.refl _ _).grown hgrow (Nat.le_refl _) (fun k e => by cases e)
            obtain ⟨w2, hcopy, hg2, hB2⟩ := copy_strs hvs1 hB4 rfl hcl hgb
            have HG2 : Hid (w2.heap[wa.heap.size]? = some (.cells (vs.map Value.string).toArray 9 (0, 0))) := hg2
            have hB3 := hB4.trans hB2
            clear hown hgrow hgb hcl hg2 hB4 hB2)
          go_meet
          case rel => exact ⟨_, _, rfl, StrRow.of_block HG2.out hsz hm1, hB3⟩
    case rest =>
      obtain ⟨b', capb', rfl, hvs2, hB2⟩ := hcut
      have hns2 := (hns1.below hB2).mono hB2.size
      have hBw : Below w.heap.size w wc := hB1.trans (hB2.mono hz1w)
      have hps2 := hps1.below (hB2.mono hz1w)
      clear hns1 hvs1 hps1 hB1 hB2 hneq hneq2
      generalize wc = wd at *
      have hzw := hBw.size
      go_upto_if 71 with fail
      go_cut [2, 15] (fun s0 _ wq => ∃ a' cap', s0 = .slice a' pn cap' ∧ Below wd.heap.size wd wq)
      case first =>
        as_aux_lemma =>
          cases pa with
          | none =>
            go_wp2_with fail
            go_meet
            case rel => exact ⟨_, _, rfl, Below.refl _ _⟩
          | some ad =>
            go_wp2_with (
              at_make
              refine wpList_make_full _ rfl _ _ 23 rfl wd.heap.size 5 j0 (.int .u8 0) 1 Tryd.underlying23 hj hy0 hy1 _ _ _ _ pn rfl rfl rfl rfl (by rw [hy2]; omega) (by unfold maxLen; omega) (Nat.le_refl _) ?_
              intro w1 hown hgrow
              obtain ⟨cur, hcl, hgb⟩ := made_block5 hown
              have hB4 : Below wd.heap.size wd w1 := (Below.refl _ _).grown hgrow (Nat.le_refl _) (fun k e => by cases e)
              obtain ⟨w2, hcopy, hB2⟩ := copy_bytes hps2 (hB4.mono hzw) hcl hgb
              have hB3 := hB4.trans hB2
              clear hown hgrow hgb hcl hB4 hB2)
            go_meet
            case rel => exact ⟨_, _, rfl, hB3⟩
      case rest =>
        obtain ⟨p', capp', rfl, hB3⟩ := hcut
        have hns3 := (hns2.below hB3).mono hB3.size
        have hvs3 := (hvs2.below hB3).mono hB3.size
        have hBw2 : Below w.heap.size w wc := hBw.trans (hB3.mono hzw)
        have htabc : Tab wc := htab.below hBw2 h0
        clear hns2 hvs2 hps2 hBw hB3 hneq3 hzw hz1w
        generalize wc = we at *
        obtain ⟨hw0, hw1⟩ := wrap_range (pn + tl)
        have hzw := hBw2.size
        go_wp2_with fail
        refine (itoa7 pn (by omega) (by omega) we).mono ?_
        rintro e w1 ⟨rfl, hB1⟩
        rw [sI_def]
        go_wp2_with fail
        refine (itoa7 tl ht0 ht1 w1).mono ?_
        rintro e w2 ⟨rfl, hB2⟩
        rw [sI_def]
        go_wp2_with fail
        refine (itoa7 (wrap64 (pn + tl)) hw0 hw1 w2).mono ?_
        rintro e wb ⟨rfl, hB3⟩
        rw [sI_def]
        have hBe : Below we.heap.size we wb := (hB1.trans (hB2.mono hB1.size)).trans (hB3.mono (Nat.le_trans hB1.size hB2.size))
        have hns4 := (hns3.below hBe).mono hBe.size
        have hvs4 := (hvs3.below hBe).mono hBe.size
        have htabb : Tab wb := htabc.below hBe (by omega)
        have hBw3 : Below w.heap.size w wb := hBw2.trans (hBe.mono hzw)
        clear hns3 hvs3 htabc hB1 hB2 hB3 hBe hBw2 htab hw0 hw1
        obtain ⟨_, _, e, h1, h2, h3⟩ := id hns4
        cases e
        obtain ⟨_, _, e, g1, g2, g3⟩ := id hvs4
        cases e
        unfold maxLen at h2 g2
        obtain ⟨pv, HPV⟩ : ∃ s, Hid (sI (pn : Int) = s) := ⟨_, rfl⟩
        obtain ⟨tv, HTV⟩ : ∃ s, Hid (sI tl = s) := ⟨_, rfl⟩
        obtain ⟨cv, HCV⟩ : ∃ s, Hid (sI (wrap64 (pn + tl)) = s) := ⟨_, rfl⟩
        rw [HPV.out, HTV.out, HCV.out]
        go_wp2_with (first
          | (at_make
             refine wpList_make_own _ rfl _ _ 22 rfl wb.heap.size 9 i0 (.string ⟨#[]⟩) 1 Tryd.underlying22 hi hz0 hz1 _ _ _ (ns.length + 3) rfl rfl (by omega) (by rw [hz2]; omega) (by unfold maxLen; omega) (Nat.le_refl _) ?_
             intro w1 hown14 hgrow14
             have hC14 : Below wb.heap.size wb w1 := (Below.refl _ _).grown hgrow14 (Nat.le_refl _) (fun k e => by cases e)
             have hz14 := hown14.lt _ rfl
             clear hgrow14)
          | (at_make
             refine wpList_make_own _ rfl _ _ 22 rfl wb.heap.size 9 i0 (.string ⟨#[]⟩) 1 Tryd.underlying22 hi hz0 hz1 _ _ _ (ns.length + 3) rfl rfl (by omega) (by rw [hz2]; omega) (by unfold maxLen; omega) hC14.size ?_
             intro w2 hown15 hgrow15
             have hC15 : Below wb.heap.size wb w2 := hC14.grown hgrow15 hC14.size (fun k e => by cases e)
             have hown14' := hown14.kept hgrow15 (.inr (by simp [Value.ownBlock]))
             clear hown14 hgrow15 hC14))
        have hne : Value.ownBlock (.slice (some ⟨wb.heap.size, 0, none⟩) 0 (ns.length + 3)) ≠ Value.ownBlock (.slice (some ⟨w1.heap.size, 0, none⟩) 0 (ns.length + 3)) := by simp [Value.ownBlock]; omega
        clear hz14
        go_loopw [20, 21, 22, 23] (fun x20 x21 i _ wr => ∃ k : Nat, k ≤ ns.length ∧ i = .int .i64 k ∧ Two wb k x20 x21 (ns.take k) (wV ns vs pv tv cv k) wr) (fun _ _ i _ _ => ns.length - (intOf i).toNat)
        case atStart => exact ⟨0, Nat.zero_le _, rfl, hown14', hown15, .inr hne, hC15⟩
        case round =>
          clear hown14' hown15 hne hC15
          obtain ⟨k, hk, rfl, hA, hr21, hne, hB⟩ := hrel
          have hsB := hB.size
          by_cases hlt : k < ns.length
          · have hkv : k < vs.length := by have := HL.out; omega
            have hki : (k : Int) < (ns.length : Int) := by omega
            have hkj : (k : Int) < (vs.length : Int) := by omega
            have HO := take_succ' ns k hlt
            have HO2 := wV_succ ns vs pv tv cv k hlt HL.out
            obtain ⟨b1, o1, rfl, hb1, _, hc1⟩ := h3 k hlt
            obtain ⟨b2, o2, rfl, hb2, _, hc2⟩ := g3 k hkv
            have hc1' : wr.cell? ⟨b1, o1 + k, none⟩ = some (.string (ns[k]?.getD ByteArray.empty)) := (hB.cell (p := ⟨b1, o1 + k, none⟩) hb1).trans hc1
            have hc2' : wr.cell? ⟨b2, o2 + k, none⟩ = some (.string (vs[k]?.getD ByteArray.empty)) := (hB.cell (p := ⟨b2, o2 + k, none⟩) hb2).trans hc2
            clear hc1 hc2
            generalize ns[k]?.getD ByteArray.empty = hn at *
            generalize vs[k]?.getD ByteArray.empty = hv at *
            generalize ns.take k = l20 at *
            generalize wV ns vs pv tv cv k = l21 at *
            obtain ⟨x, HX⟩ : ∃ x, Hid ((val pv tv cv (hn, hv)).2 = x) := ⟨_, rfl⟩
            rw [HX.out] at HO2
            have hx := HX.out
            clear HX
            unfold val at hx
            dsimp only at hx
            rw [lP, lT, lC] at hx
            cases hq1 : (hn.toList == [80, 114, 111, 112, 45, 99, 111, 110, 116, 101, 110, 116, 45, 108, 101, 110, 103, 116, 104])
            · cases hq2 : (hn.toList == [84, 101, 120, 116, 45, 99, 111, 110, 116, 101, 110, 116, 45, 108, 101, 110, 103, 116, 104])
              · cases hq3 : (hn.toList == [67, 111, 110, 116, 101, 110, 116, 45, 108, 101, 110, 103, 116, 104])
                · have hx' : x = hv := by rw [hq1, hq2, hq3] at hx; exact hx.symm
                  subst hx'
                  clear hx
                  as_aux_lemma =>
                    go_wp2_with (first
                      | (at_builtin
                         refine wpList_append_own_at _ rfl _ _ 22 rfl wb.heap.size 9 i0 (.string ⟨#[]⟩) 1 16 Tryd.underlying22 hi hz0 hz1 hz2 rfl (by decide) _ _ _ rfl (hA.alloc _) ⟨wr.heap.size, 0, none⟩ 1 1 [.string hn] rfl rfl (cell_one_new _ _ _) (strs_one [hn]) (by unfold maxLen; omega) (by omega) (by simp; omega) ?_
                         intro y20 u1 hown20 hgrow20 hnil20 hat20
                         have hr21b := (hr21.alloc (.cells #[.string hn] 9)).kept hgrow20 (apart_symm hne)
                         have hB1 := (hB.alloc hsB (.cells #[.string hn] 9)).grown hgrow20 (by simp; omega) (fun q e => (hA.lt q e).1)
                         have hs1 := hgrow20.size
                         have hd20 := apart_new hne hat20 (fun q e => by have := (hr21.lt q e).2; simp; omega)
                         clear hA hr21)
                      | (at_builtin
                         refine wpList_append_own_at _ rfl _ _ 22 rfl wb.heap.size 9 i0 (.string ⟨#[]⟩) 1 16 Tryd.underlying22 hi hz0 hz1 hz2 rfl (by decide) _ _ _ rfl (hr21b.alloc _) ⟨u1.heap.size, 0, none⟩ 1 1 [.string x] rfl rfl (cell_one_new _ _ _) (strs_one [x]) (by unfold maxLen; omega) (by omega) (by simp at hs1 ⊢; omega) ?_
                         intro y21 u2 hown21 hgrow21 hnil21 hat21))
                    have hq20 := (hown20.alloc (.cells #[.string x] 9)).kept hgrow21 hd20
                    have hqd := apart_symm (apart_new (apart_symm hd20) hat21 (fun q e => by have := (hown20.lt q e).2; simp; omega))
                    have hqB := (hB1.alloc hB1.size (.cells #[.string x] 9)).grown hgrow21 (by have := hB1.size; simp; omega) (fun q e => (hr21b.lt q e).1)
                    go_roundw
                    case rel =>
                      refine ⟨k + 1, by omega, by go_num, ?_, ?_, hqd, hqB⟩
                      · rw [HO.out]
                        simpa using hq20
                      · rw [HO2.out]
                        simpa using hown21
                    case measure => simp [intOf]; omega
                · have hx' : x = cv := by rw [hq1, hq2, hq3] at hx; exact hx.symm
                  subst hx'
                  clear hx
                  as_aux_lemma =>
                    go_wp2_with (first
                      | (at_builtin
                         refine wpList_append_own_at _ rfl _ _ 22 rfl wb.heap.size 9 i0 (.string ⟨#[]⟩) 1 16 Tryd.underlying22 hi hz0 hz1 hz2 rfl (by decide) _ _ _ rfl (hA.alloc _) ⟨wr.heap.size, 0, none⟩ 1 1 [.string hn] rfl rfl (cell_one_new _ _ _) (strs_one [hn]) (by unfold maxLen; omega) (by omega) (by simp; omega) ?_
                         intro y20 u1 hown20 hgrow20 hnil20 hat20
                         have hr21b := (hr21.alloc (.cells #[.string hn] 9)).kept hgrow20 (apart_symm hne)
                         have hB1 := (hB.alloc hsB (.cells #[.string hn] 9)).grown hgrow20 (by simp; omega) (fun q e => (hA.lt q e).1)
                         have hs1 := hgrow20.size
                         have hd20 := apart_new hne hat20 (fun q e => by have := (hr21.lt q e).2; simp; omega)
                         clear hA hr21)
                      | (at_builtin
                         refine wpList_append_own_at _ rfl _ _ 22 rfl wb.heap.size 9 i0 (.string ⟨#[]⟩) 1 16 Tryd.underlying22 hi hz0 hz1 hz2 rfl (by decide) _ _ _ rfl (hr21b.alloc _) ⟨u1.heap.size, 0, none⟩ 1 1 [.string x] rfl rfl (cell_one_new _ _ _) (strs_one [x]) (by unfold maxLen; omega) (by omega) (by simp at hs1 ⊢; omega) ?_
                         intro y21 u2 hown21 hgrow21 hnil21 hat21))
                    have hq20 := (hown20.alloc (.cells #[.string x] 9)).kept hgrow21 hd20
                    have hqd := apart_symm (apart_new (apart_symm hd20) hat21 (fun q e => by have := (hown20.lt q e).2; simp; omega))
                    have hqB := (hB1.alloc hB1.size (.cells #[.string x] 9)).grown hgrow21 (by have := hB1.size; simp; omega) (fun q e => (hr21b.lt q e).1)
                    go_roundw
                    case rel =>
                      refine ⟨k + 1, by omega, by go_num, ?_, ?_, hqd, hqB⟩
                      · rw [HO.out]
                        simpa using hq20
                      · rw [HO2.out]
                        simpa using hown21
                    case measure => simp [intOf]; omega
              · have hx' : x = tv := by rw [hq1, hq2] at hx; exact hx.symm
                subst hx'
                clear hx
                as_aux_lemma =>
                  go_wp2_with (first
                    | (at_builtin
                       refine wpList_append_own_at _ rfl _ _ 22 rfl wb.heap.size 9 i0 (.string ⟨#[]⟩) 1 16 Tryd.underlying22 hi hz0 hz1 hz2 rfl (by decide) _ _ _ rfl (hA.alloc _) ⟨wr.heap.size, 0, none⟩ 1 1 [.string hn] rfl rfl (cell_one_new _ _ _) (strs_one [hn]) (by unfold maxLen; omega) (by omega) (by simp; omega) ?_
                       intro y20 u1 hown20 hgrow20 hnil20 hat20
                       have hr21b := (hr21.alloc (.cells #[.string hn] 9)).kept hgrow20 (apart_symm hne)
                       have hB1 := (hB.alloc hsB (.cells #[.string hn] 9)).grown hgrow20 (by simp; omega) (fun q e => (hA.lt q e).1)
                       have hs1 := hgrow20.size
                       have hd20 := apart_new hne hat20 (fun q e => by have := (hr21.lt q e).2; simp; omega)
                       clear hA hr21)
                    | (at_builtin
                       refine wpList_append_own_at _ rfl _ _ 22 rfl wb.heap.size 9 i0 (.string ⟨#[]⟩) 1 16 Tryd.underlying22 hi hz0 hz1 hz2 rfl (by decide) _ _ _ rfl (hr21b.alloc _) ⟨u1.heap.size, 0, none⟩ 1 1 [.string x] rfl rfl (cell_one_new _ _ _) (strs_one [x]) (by unfold maxLen; omega) (by omega) (by simp at hs1 ⊢; omega) ?_
                       intro y21 u2 hown21 hgrow21 hnil21 hat21))
                  have hq20 := (hown20.alloc (.cells #[.string x] 9)).kept hgrow21 hd20
                  have hqd := apart_symm (apart_new (apart_symm hd20) hat21 (fun q e => by have := (hown20.lt q e).2; simp; omega))
                  have hqB := (hB1.alloc hB1.size (.cells #[.string x] 9)).grown hgrow21 (by have := hB1.size; simp; omega) (fun q e => (hr21b.lt q e).1)
                  go_roundw
                  case rel =>
                    refine ⟨k + 1, by omega, by go_num, ?_, ?_, hqd, hqB⟩
                    · rw [HO.out]
                      simpa using hq20
                    · rw [HO2.out]
                      simpa using hown21
                  case measure => simp [intOf]; omega
            · have hx' : x = pv := by rw [hq1] at hx; exact hx.symm
              subst hx'
              clear hx
              as_aux_lemma =>
                go_wp2_with (first
                  | (at_builtin
                     refine wpList_append_own_at _ rfl _ _ 22 rfl wb.heap.size 9 i0 (.string ⟨#[]⟩) 1 16 Tryd.underlying22 hi hz0 hz1 hz2 rfl (by decide) _ _ _ rfl (hA.alloc _) ⟨wr.heap.size, 0, none⟩ 1 1 [.string hn] rfl rfl (cell_one_new _ _ _) (strs_one [hn]) (by unfold maxLen; omega) (by omega) (by simp; omega) ?_
                     intro y20 u1 hown20 hgrow20 hnil20 hat20
                     have hr21b := (hr21.alloc (.cells #[.string hn] 9)).kept hgrow20 (apart_symm hne)
                     have hB1 := (hB.alloc hsB (.cells #[.string hn] 9)).grown hgrow20 (by simp; omega) (fun q e => (hA.lt q e).1)
                     have hs1 := hgrow20.size
                     have hd20 := apart_new hne hat20 (fun q e => by have := (hr21.lt q e).2; simp; omega)
                     clear hA hr21)
                  | (at_builtin
                     refine wpList_append_own_at _ rfl _ _ 22 rfl wb.heap.size 9 i0 (.string ⟨#[]⟩) 1 16 Tryd.underlying22 hi hz0 hz1 hz2 rfl (by decide) _ _ _ rfl (hr21b.alloc _) ⟨u1.heap.size, 0, none⟩ 1 1 [.string x] rfl rfl (cell_one_new _ _ _) (strs_one [x]) (by unfold maxLen; omega) (by omega) (by simp at hs1 ⊢; omega) ?_
                     intro y21 u2 hown21 hgrow21 hnil21 hat21))
                have hq20 := (hown20.alloc (.cells #[.string x] 9)).kept hgrow21 hd20
                have hqd := apart_symm (apart_new (apart_symm hd20) hat21 (fun q e => by have := (hown20.lt q e).2; simp; omega))
                have hqB := (hB1.alloc hB1.size (.cells #[.string x] 9)).grown hgrow21 (by have := hB1.size; simp; omega) (fun q e => (hr21b.lt q e).1)
                go_roundw
                case rel =>
                  refine ⟨k + 1, by omega, by go_num, ?_, ?_, hqd, hqB⟩
                  · rw [HO.out]
                    simpa using hq20
                  · rw [HO2.out]
                    simpa using hown21
                case measure => simp [intOf]; omega
          · have hke : k = ns.length := by omega
            subst hke
            have HZ : Hid (wV ns vs pv tv cv ns.length = wV ns vs pv tv cv (ns.zip vs).length) := by
              show _ = _
              congr 1
              have := HL.out
              simp
              omega
            rw [List.take_length] at hA
            rw [HZ.out] at hr21
            obtain ⟨V0, HV0⟩ : ∃ l, Hid (wV ns vs pv tv cv (ns.zip vs).length = l) := ⟨_, rfl⟩
            rw [HV0.out] at hr21
            obtain ⟨kk, hkk⟩ : ∃ kk, kk = ns.length := ⟨_, rfl⟩
            rw [← hkk] at hA hr21
            have hkk' : kk ≤ ns.length := by omega
            clear hkk hlt HZ
            generalize wr = wz at *
            go_upto_region 40 with fail
            go_cut [24] (fun c wx => c = .bool (aP (ns.zip vs) hp) ∧ wx = wz)
            case first =>
              as_aux_lemma =>
                cases hp
                · go_wp2_with fail
                  go_meet
                  case rel => exact ⟨rfl, rfl⟩
                · have HC : Hid (((ns.filter fun x => x == nP).length == 0) = aP (ns.zip vs) true) := by
                    show _ = _
                    rw [count_has, ← has_zip ns vs HL.out]
                    rfl
                  have hcl : (ns.filter fun x => x == nP).length ≤ 1048576 := by have := List.length_filter_le (fun x => x == nP) ns; omega
                  have hC8 := count8 wb.heap.size _ ns nP wz (hns4.below hB) hr1
                  generalize (ns.filter fun x => x == nP).length = cn at *
                  go_wp2_with fail
                  refine hC8.mono ?_
                  clear hC8
                  rintro e wz ⟨rfl, rfl⟩
                  by_cases hcz : cn = 0
                  · subst hcz
                    go_wp2_with fail
                    go_meet
                    case rel => exact ⟨congrArg Value.bool HC.out, rfl⟩
                  · have hcb : ((cn : Int) == 0) = false := by simp; omega
                    have hcn : (cn == 0) = false := by simp; omega
                    rw [hcn] at HC
                    go_wp2_with fail
                    go_meet
                    case rel => exact ⟨congrArg Value.bool HC.out, rfl⟩
            case rest =>
              obtain ⟨rfl, rfl⟩ := hcut
              obtain ⟨bP, HbP⟩ : ∃ b, Hid (aP (ns.zip vs) hp = b) := ⟨_, rfl⟩
              rw [HbP.out]
              generalize wc = wz at *
              go_upto_region 41 with fail
              go_cut [25] (fun c wx => c = .bool (aT (ns.zip vs) ht) ∧ wx = wz)
              case first =>
                as_aux_lemma =>
                  cases ht
                  · go_wp2_with fail
                    go_meet
                    case rel => exact ⟨rfl, rfl⟩
                  · have HC : Hid (((ns.filter fun x => x == nT).length == 0) = aT (ns.zip vs) true) := by
                      show _ = _
                      rw [count_has, ← has_zip ns vs HL.out]
                      rfl
                    have hcl : (ns.filter fun x => x == nT).length ≤ 1048576 := by have := List.length_filter_le (fun x => x == nT) ns; omega
                    have hC8 := count8 wb.heap.size _ ns nT wz (hns4.below hB) hr1
                    generalize (ns.filter fun x => x == nT).length = cn at *
                    go_wp2_with fail
                    refine hC8.mono ?_
                    clear hC8
                    rintro e wz ⟨rfl, rfl⟩
                    by_cases hcz : cn = 0
                    · subst hcz
                      go_wp2_with fail
                      go_meet
                      case rel => exact ⟨congrArg Value.bool HC.out, rfl⟩
                    · have hcb : ((cn : Int) == 0) = false := by simp; omega
                      have hcn : (cn == 0) = false := by simp; omega
                      rw [hcn] at HC
                      go_wp2_with fail
                      go_meet
                      case rel => exact ⟨congrArg Value.bool HC.out, rfl⟩
              case rest =>
                obtain ⟨rfl, rfl⟩ := hcut
                obtain ⟨bT, HbT⟩ : ∃ b, Hid (aT (ns.zip vs) ht = b) := ⟨_, rfl⟩
                rw [HbT.out]
                generalize wc = wz at *
                go_upto_if 143 with fail
                go_cut [20, 21] (fun x y wx => ∃ n, n ≤ ns.length + 1 ∧ Two wb n x y (ns ++ (if bP then [nP] else [])) (V0 ++ (if bP then [pv] else [])) wx)
                case first =>
                  as_aux_lemma =>
                    cases bP
                    · go_wp2_with fail
                      go_meet
                      case rel => exact ⟨kk, by omega, by simpa using hA, by simpa using hr21, hne, hB⟩
                    · go_wp2_with (first
                        | (at_builtin
                           refine wpList_append_own_at _ rfl _ _ 22 rfl wb.heap.size 9 i0 (.string ⟨#[]⟩) 1 16 Tryd.underlying22 hi hz0 hz1 hz2 rfl (by decide) _ _ _ rfl (hA.alloc _) ⟨wz.heap.size, 0, none⟩ 1 1 [.string nP] rfl rfl (cell_one_new _ _ _) (strs_one [nP]) (by unfold maxLen; omega) (by omega) (by simp; omega) ?_
                           intro y20 u1 hown20 hgrow20 hnil20 hat20
                           have hr21b := (hr21.alloc (.cells #[.string nP] 9)).kept hgrow20 (apart_symm hne)
                           have hB1 := (hB.alloc hsB (.cells #[.string nP] 9)).grown hgrow20 (by simp; omega) (fun q e => (hA.lt q e).1)
                           have hs1 := hgrow20.size
                           have hd20 := apart_new hne hat20 (fun q e => by have := (hr21.lt q e).2; simp; omega)
                           clear hA hr21)
                        | (at_builtin
                           refine wpList_append_own_at _ rfl _ _ 22 rfl wb.heap.size 9 i0 (.string ⟨#[]⟩) 1 16 Tryd.underlying22 hi hz0 hz1 hz2 rfl (by decide) _ _ _ rfl (hr21b.alloc _) ⟨u1.heap.size, 0, none⟩ 1 1 [.string pv] rfl rfl (cell_one_new _ _ _) (strs_one [pv]) (by unfold maxLen; omega) (by omega) (by simp at hs1 ⊢; omega) ?_
                           intro y21 u2 hown21 hgrow21 hnil21 hat21))
                      have hq20 := (hown20.alloc (.cells #[.string pv] 9)).kept hgrow21 hd20
                      have hqd := apart_symm (apart_new (apart_symm hd20) hat21 (fun q e => by have := (hown20.lt q e).2; simp; omega))
                      have hqB := (hB1.alloc hB1.size (.cells #[.string pv] 9)).grown hgrow21 (by have := hB1.size; simp; omega) (fun q e => (hr21b.lt q e).1)
                      go_meet
                      case rel => exact ⟨kk + 1, by omega, by simpa using hq20, by simpa using hown21, hqd, hqB⟩
                case rest =>
                  obtain ⟨kk, hkk', hA, hr21, hne, hB⟩ := hcut
                  obtain ⟨N1, HN1⟩ : ∃ l, Hid (ns ++ (if bP then [nP] else []) = l) := ⟨_, rfl⟩
                  obtain ⟨V1, HV1⟩ : ∃ l, Hid (V0 ++ (if bP then [pv] else []) = l) := ⟨_, rfl⟩
                  rw [HN1.out] at hA
                  rw [HV1.out] at hr21
                  generalize wc = wy at *
                  have hsB := hB.size
                  go_upto_if 151 with fail
                  go_cut [20, 21] (fun x y wx => ∃ n, n ≤ ns.length + 2 ∧ Two wb n x y (N1 ++ (if bT then [nT] else [])) (V1 ++ (if bT then [tv] else [])) wx)
                  case first =>
                    as_aux_lemma =>
                      cases bT
                      · go_wp2_with fail
                        go_meet
                        case rel => exact ⟨kk, by omega, by simpa using hA, by simpa using hr21, hne, hB⟩
                      · go_wp2_with (first
                          | (at_builtin
                             refine wpList_append_own_at _ rfl _ _ 22 rfl wb.heap.size 9 i0 (.string ⟨#[]⟩) 1 16 Tryd.underlying22 hi hz0 hz1 hz2 rfl (by decide) _ _ _ rfl (hA.alloc _) ⟨wy.heap.size, 0, none⟩ 1 1 [.string nT] rfl rfl (cell_one_new _ _ _) (strs_one [nT]) (by unfold maxLen; omega) (by omega) (by simp; omega) ?_
                             intro y20 u1 hown20 hgrow20 hnil20 hat20
                             have hr21b := (hr21.alloc (.cells #[.string nT] 9)).kept hgrow20 (apart_symm hne)
                             have hB1 := (hB.alloc hsB (.cells #[.string nT] 9)).grown hgrow20 (by simp; omega) (fun q e => (hA.lt q e).1)
                             have hs1 := hgrow20.size
                             have hd20 := apart_new hne hat20 (fun q e => by have := (hr21.lt q e).2; simp; omega)
                             clear hA hr21)
                          | (at_builtin
                             refine wpList_append_own_at _ rfl _ _ 22 rfl wb.heap.size 9 i0 (.string ⟨#[]⟩) 1 16 Tryd.underlying22 hi hz0 hz1 hz2 rfl (by decide) _ _ _ rfl (hr21b.alloc _) ⟨u1.heap.size, 0, none⟩ 1 1 [.string tv] rfl rfl (cell_one_new _ _ _) (strs_one [tv]) (by unfold maxLen; omega) (by omega) (by simp at hs1 ⊢; omega) ?_
                             intro y21 u2 hown21 hgrow21 hnil21 hat21))
                        have hq20 := (hown20.alloc (.cells #[.string tv] 9)).kept hgrow21 hd20
                        have hqd := apart_symm (apart_new (apart_symm hd20) hat21 (fun q e => by have := (hown20.lt q e).2; simp; omega))
                        have hqB := (hB1.alloc hB1.size (.cells #[.string tv] 9)).grown hgrow21 (by have := hB1.size; simp; omega) (fun q e => (hr21b.lt q e).1)
                        go_meet
                        case rel => exact ⟨kk + 1, by omega, by simpa using hq20, by simpa using hown21, hqd, hqB⟩
                  case rest =>
                    obtain ⟨kk, hkk', hA, hr21, hne, hB⟩ := hcut
                    obtain ⟨N2, HN2⟩ : ∃ l, Hid (N1 ++ (if bT then [nT] else []) = l) := ⟨_, rfl⟩
                    obtain ⟨V2, HV2⟩ : ∃ l, Hid (V1 ++ (if bT then [tv] else []) = l) := ⟨_, rfl⟩
                    rw [HN2.out] at hA
                    rw [HV2.out] at hr21
                    generalize wc = wv at *
                    have hsB := hB.size
                    have HaC : Hid (aC (ns.zip vs) hp ht = ((bP || bT) && !has (ns.zip vs) nC)) := by
                      show _ = _
                      unfold aC
                      rw [HbP.out, HbT.out]
                    go_upto_region 48 with fail
                    go_cut [167] (fun c wx => c = .bool (aC (ns.zip vs) hp ht) ∧ wx = wv)
                    case first =>
                      as_aux_lemma =>
                        have HC : Hid (((ns.filter fun x => x == nC).length == 0) = !has (ns.zip vs) nC) := by
                          show _ = _
                          rw [count_has, ← has_zip ns vs HL.out]
                        have hcl : (ns.filter fun x => x == nC).length ≤ 1048576 := by have := List.length_filter_le (fun x => x == nC) ns; omega
                        have hC8 := count8 wb.heap.size _ ns nC wv (hns4.below hB) hr1
                        generalize (ns.filter fun x => x == nC).length = cn at *
                        cases bP
                        · cases bT
                          · go_wp2_with fail
                            go_meet
                            case rel => exact ⟨congrArg Value.bool HaC.out.symm, rfl⟩
                          · go_wp2_with fail
                            refine hC8.mono ?_
                            clear hC8
                            rintro e wv ⟨rfl, rfl⟩
                            by_cases hcz : cn = 0
                            · subst hcz
                              go_wp2_with fail
                              go_meet
                              case rel => exact ⟨congrArg Value.bool (by rw [HaC.out, ← HC.out]; rfl), rfl⟩
                            · have hcb : ((cn : Int) == 0) = false := by simp; omega
                              have hcn : (cn == 0) = false := by simp; omega
                              rw [hcn] at HC
                              go_wp2_with fail
                              go_meet
                              case rel => exact ⟨congrArg Value.bool (by rw [HaC.out, ← HC.out]; rfl), rfl⟩
                        · cases bT
                          · go_wp2_with fail
                            refine hC8.mono ?_
                            clear hC8
                            rintro e wv ⟨rfl, rfl⟩
                            by_cases hcz : cn = 0
                            · subst hcz
                              go_wp2_with fail
                              go_meet
                              case rel => exact ⟨congrArg Value.bool (by rw [HaC.out, ← HC.out]; rfl), rfl⟩
                            · have hcb : ((cn : Int) == 0) = false := by simp; omega
                              have hcn : (cn == 0) = false := by simp; omega
                              rw [hcn] at HC
                              go_wp2_with fail
                              go_meet
                              case rel => exact ⟨congrArg Value.bool (by rw [HaC.out, ← HC.out]; rfl), rfl⟩
                          · go_wp2_with fail
                            refine hC8.mono ?_
                            clear hC8
                            rintro e wv ⟨rfl, rfl⟩
                            by_cases hcz : cn = 0
                            · subst hcz
                              go_wp2_with fail
                              go_meet
                              case rel => exact ⟨congrArg Value.bool (by rw [HaC.out, ← HC.out]; rfl), rfl⟩
                            · have hcb : ((cn : Int) == 0) = false := by simp; omega
                              have hcn : (cn == 0) = false := by simp; omega
                              rw [hcn] at HC
                              go_wp2_with fail
                              go_meet
                              case rel => exact ⟨congrArg Value.bool (by rw [HaC.out, ← HC.out]; rfl), rfl⟩
                    case rest =>
                      obtain ⟨rfl, rfl⟩ := hcut
                      obtain ⟨bC, HbC⟩ : ∃ b, Hid (aC (ns.zip vs) hp ht = b) := ⟨_, rfl⟩
                      rw [HbC.out]
                      generalize wc = wv at *
                      go_upto_if 167 with fail
                      go_cut [20, 21] (fun x y wx => ∃ n, n ≤ ns.length + 3 ∧ Two wb n x y (N2 ++ (if bC then [nC] else [])) (V2 ++ (if bC then [cv] else [])) wx)
                      case first =>
                        as_aux_lemma =>
                          cases bC
                          · go_wp2_with fail
                            go_meet
                            case rel => exact ⟨kk, by omega, by simpa using hA, by simpa using hr21, hne, hB⟩
                          · go_wp2_with (first
                              | (at_builtin
                                 refine wpList_append_own_at _ rfl _ _ 22 rfl wb.heap.size 9 i0 (.string ⟨#[]⟩) 1 16 Tryd.underlying22 hi hz0 hz1 hz2 rfl (by decide) _ _ _ rfl (hA.alloc _) ⟨wv.heap.size, 0, none⟩ 1 1 [.string nC] rfl rfl (cell_one_new _ _ _) (strs_one [nC]) (by unfold maxLen; omega) (by omega) (by simp; omega) ?_
                                 intro y20 u1 hown20 hgrow20 hnil20 hat20
                                 have hr21b := (hr21.alloc (.cells #[.string nC] 9)).kept hgrow20 (apart_symm hne)
                                 have hB1 := (hB.alloc hsB (.cells #[.string nC] 9)).grown hgrow20 (by simp; omega) (fun q e => (hA.lt q e).1)
                                 have hs1 := hgrow20.size
                                 have hd20 := apart_new hne hat20 (fun q e => by have := (hr21.lt q e).2; simp; omega)
                                 clear hA hr21)
                              | (at_builtin
                                 refine wpList_append_own_at _ rfl _ _ 22 rfl wb.heap.size 9 i0 (.string ⟨#[]⟩) 1 16 Tryd.underlying22 hi hz0 hz1 hz2 rfl (by decide) _ _ _ rfl (hr21b.alloc _) ⟨u1.heap.size, 0, none⟩ 1 1 [.string cv] rfl rfl (cell_one_new _ _ _) (strs_one [cv]) (by unfold maxLen; omega) (by omega) (by simp at hs1 ⊢; omega) ?_
                                 intro y21 u2 hown21 hgrow21 hnil21 hat21))
                            have hq20 := (hown20.alloc (.cells #[.string cv] 9)).kept hgrow21 hd20
                            have hqd := apart_symm (apart_new (apart_symm hd20) hat21 (fun q e => by have := (hown20.lt q e).2; simp; omega))
                            have hqB := (hB1.alloc hB1.size (.cells #[.string cv] 9)).grown hgrow21 (by have := hB1.size; simp; omega) (fun q e => (hr21b.lt q e).1)
                            go_meet
                            case rel => exact ⟨kk + 1, by omega, by simpa using hq20, by simpa using hown21, hqd, hqB⟩
                      case rest =>
                        obtain ⟨kk, hkk', hA, hr21, hne, hB⟩ := hcut
                        have HF : Hid ((setL (ns.zip vs) hp ht pv tv cv).map (fun h => h.1) = N2 ++ (if bC then [nC] else [])) := by
                          show _ = _
                          rw [← HN2.out, ← HN1.out]
                          exact want_fst ns vs hp ht pv tv cv HL.out bP bT bC HbP.out HbT.out HbC.out
                        have HG : Hid ((setL (ns.zip vs) hp ht pv tv cv).map (fun h => h.2) = V2 ++ (if bC then [cv] else [])) := by
                          show _ = _
                          rw [← HV2.out, ← HV1.out, ← HV0.out]
                          exact want_snd ns vs hp ht pv tv cv bP bT bC HbP.out HbT.out HbC.out
                        rw [← HF.out] at hA
                        rw [← HG.out] at hr21
                        have hS20 := SRow.of_owns hA
                        have hS21 := SRow.of_owns hr21
                        have hns5 := (hns4.s.below hB).mono hB.size
                        have hvs5 := (hvs4.s.below hB).mono hB.size
                        have hsB := hB.size
                        have hz9 := hBw3.size
                        have htab5 : Tab wc := htabb.below hB (by omega)
                        have hBw5 : Below w.heap.size w wc := hBw3.trans (hB.mono hBw3.size)
                        have h05 : 0 < wc.heap.size := by omega
                        have hzl : (ns.zip vs).length ≤ 1048576 := by simp; omega
                        clear hA hr21 hne hB hns4 hvs4 htabb hBw3 HF HG HN1 HN2 HV0 HV1 HV2 HbP HbT HbC HaC h3 g3
                        generalize wc = wf at *
                        clear hi hz0 hz1 hz2 hj hy0 hy1 hy2
                        obtain ⟨L, HLL⟩ : ∃ l, Hid (setL (ns.zip vs) hp ht pv tv cv = l) := ⟨_, rfl⟩
                        rw [HLL.out] at hS20 hS21
                        have hln : L.length ≤ 1048579 := by
                          have := (setL_length (ns.zip vs) hp ht pv tv cv).2
                          rw [HLL.out] at this
                          omega
                        have HA : Hid (setL L hp ht pv tv cv = L) := by
                          show _ = _
                          rw [← HLL.out]
                          exact setL_again _ _ _ _ _ _ _ _ _
                        obtain ⟨a20, c20, e20, _⟩ := id hS20
                        obtain ⟨a21, c21, e21, _⟩ := id hS21
                        generalize (L.map fun h => h.1).length = n20 at e20
                        generalize (L.map fun h => h.2).length = n21 at e21
                        subst e20 e21
                        as_aux_lemma =>
                          go_wp2_with fail
                          refine (newRec9 wf.heap.size _ _ ns vs p' pn capp' hp ht tl wf (Nat.le_refl _) hns5 hvs5 HL.out (by omega)).mono ?_
                          rintro e w1 ⟨br, hv0, rfl, hR1, hB1⟩
                          have htab1 : Tab w1 := htab5.below hB1 h05
                          have hC1 := setLengths10 wf.heap.size br hv0 (ns.zip vs) hp ht p' pn capp' tl w1 hR1 htab1 h05 hB1.size (by omega) (by omega) ht0 ht1
                          rw [HPV.out, HTV.out, HCV.out, HLL.out] at hC1
                          go_wp2_with fail
                          refine hC1.mono ?_
                          clear hC1
                          rintro e w2 ⟨rfl, hv1, hR2, hK2⟩
                          have hB2 : Below wf.heap.size w1 w2 := hK2.below hR1.lo (fun b e => (hR1.row.lt b e).1) hB1.size
                          have hBf2 : Below wf.heap.size wf w2 := hB1.trans hB2
                          go_wp2_with fail
                          refine (names11 wf.heap.size br hv1 L hp ht _ tl w2 hR2 (by omega)).mono ?_
                          rintro e w3 ⟨n3, rfl, hS3, hB3⟩
                          have hR3 := hR2.below hB3
                          go_wp2_with fail
                          refine (values12 wf.heap.size br hv1 L hp ht _ tl w3 hR3 (by omega)).mono ?_
                          rintro e w4 ⟨n4, rfl, hS4, hB4⟩
                          have hR4 := hR3.below hB4
                          have hBf4 : Below wf.heap.size wf w4 := (hBf2.trans (hB3.mono hBf2.size)).trans (hB4.mono (Nat.le_trans hBf2.size hB3.size))
                          have htab4 : Tab w4 := htab5.below hBf4 h05
                          have hC2 := setLengths10 wf.heap.size br hv1 L hp ht p' pn capp' tl w4 hR4 htab4 h05 hBf4.size (by omega) (by omega) ht0 ht1
                          rw [HPV.out, HTV.out, HCV.out, HA.out] at hC2
                          go_wp2_with fail
                          refine hC2.mono ?_
                          clear hC2
                          rintro e w5 ⟨rfl, hv2, hR5, hK5⟩
                          have hB5 : Below wf.heap.size w4 w5 := hK5.below hR4.lo (fun b e => (hR4.row.lt b e).1) hBf4.size
                          have hBf5 : Below wf.heap.size wf w5 := hBf4.trans hB5
                          have hT3 : SRow w5.heap.size w5 (.slice (some ⟨w2.heap.size, 0, none⟩) n3 n3) (L.map fun h => h.1) := by
                            refine (hS3.below hB4).kept fun b off e hb => ?_
                            cases e
                            refine ⟨by have := hB4.size; have := hK5.size; omega, hK5.block _ (by have := hB4.size; omega) ?_ ?_⟩
                            · have := hR2.lt; omega
                            · intro e
                              have := (hR2.row.lt _ e).2
                              omega
                          have hT4 : SRow w5.heap.size w5 (.slice (some ⟨w3.heap.size, 0, none⟩) n4 n4) (L.map fun h => h.2) := by
                            refine hS4.kept fun b off e hb => ?_
                            cases e
                            refine ⟨by have := hK5.size; omega, hK5.block _ hb ?_ ?_⟩
                            · have := hR3.lt; omega
                            · intro e
                              have := (hR3.row.lt _ e).2
                              omega
                          clear hS3 hS4 hR1 hR2 hR3 hR4 hK2 hK5 hB2 hB3 hB4 hB5
                          go_wp2_with fail
                          refine (names11 wf.heap.size br hv2 L hp ht _ tl w5 hR5 (by omega)).mono ?_
                          rintro e w6 ⟨n6, rfl, hS6, hB6⟩
                          have hR6 := hR5.below hB6
                          go_wp2_with fail
                          refine (values12 wf.heap.size br hv2 L hp ht _ tl w6 hR6 (by omega)).mono ?_
                          rintro e w7 ⟨n7, rfl, hS7, hB7⟩
                          have hB57 : Below w5.heap.size w5 w7 := hB6.trans (hB7.mono hB6.size)
                          have hBf7 : Below wf.heap.size wf w7 := hBf5.trans (hB57.mono hBf5.size)
                          have k20 := (hS20.below hBf7).mono hBf7.size
                          have k21 := (hS21.below hBf7).mono hBf7.size
                          have k3 := (hT3.below hB57).mono hB57.size
                          have k4 := (hT4.below hB57).mono hB57.size
                          have k6 := (hS6.below hB7).mono hB7.size
                          have hBw7 : Below w.heap.size w w7 := hBw5.trans (hBf7.mono hBw5.size)
                          clear hS20 hS21 hT3 hT4 hS6 hB57 hBf7 hB6 hB7 hR5 hR6 hBf5 hBf4 hBf2 hB1
                          go_wp2_with fail
                          refine (same13 w7.heap.size w7.heap.size _ _ _ w7 k3 k20 (Nat.le_refl _) (Nat.le_refl _)).mono ?_
                          rintro e w8 ⟨rfl, hB8⟩
                          have k21 := (k21.below hB8).mono hB8.size
                          have k4 := (k4.below hB8).mono hB8.size
                          go_wp2_with fail
                          refine (same13 w8.heap.size w8.heap.size _ _ _ w8 k4 k21 (Nat.le_refl _) (Nat.le_refl _)).mono ?_
                          rintro e w9 ⟨rfl, hB9⟩
                          have hB89 := hB8.trans (hB9.mono hB8.size)
                          have k6 := (k6.below hB89).mono hB89.size
                          have k20 := (k20.below hB89).mono hB89.size
                          go_wp2_with fail
                          refine (same13 w9.heap.size w9.heap.size _ _ _ w9 k6 k20 (Nat.le_refl _) (Nat.le_refl _)).mono ?_
                          rintro e w10 ⟨rfl, hB10⟩
                          have hB810 := hB89.trans (hB10.mono hB89.size)
                          have k7 := (hS7.below hB810).mono hB810.size
                          have k21 := (k21.below (hB9.trans (hB10.mono hB9.size))).mono (Nat.le_trans hB9.size hB10.size)
                          go_wp2_with fail
                          refine (same13 w10.heap.size w10.heap.size _ _ _ w10 k7 k21 (Nat.le_refl _) (Nat.le_refl _)).mono ?_
                          rintro e w11 ⟨rfl, hB11⟩
                          go_wp2_with fail
                          go_ret
                          exact ⟨rfl, hBw7.trans ((hB810.mono hBw7.size).trans (hB11.mono (Nat.le_trans hBw7.size hB810.size)))⟩
end Go.Proofs.Qxb6614988aDoor
