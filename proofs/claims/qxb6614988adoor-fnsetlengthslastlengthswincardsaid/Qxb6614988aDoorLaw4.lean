import Derived.Test.Qxb6614988aDoorWant
import Derived.Test.Qxb6614988aDoorPlain2
import Derived.Test.Qxb6614988aDoorLens
namespace Go.Proofs.Qxb6614988aDoor
open Go.RowKit Go.WideShapes

theorem SRow.take {n0 : Nat} {W : World} {a : Option Addr} {n cap m : Nat} {ss : List ByteArray} (h : SRow n0 W (.slice a n cap) ss) (hm : m ≤ ss.length) : SRow n0 W (.slice a m cap) (ss.take m) := by
  obtain ⟨a', cap', e, h1, h2, h3⟩ := h
  cases e
  have hl : (ss.take m).length = m := by simp; omega
  refine ⟨a, cap, by rw [hl], by omega, h2, fun j hj => ?_⟩
  rw [hl] at hj
  obtain ⟨b, off, e, hb, hc⟩ := h3 j (by omega)
  exact ⟨b, off, e, hb, by rw [List.getElem?_take_of_lt hj]; exact hc⟩
/-- 'ns[:m]'. -/
theorem slice_head (b n m : Nat) (hm : m ≤ n) (W : World) : (Instr.slice 22 (.slice (some ⟨b, 0, none⟩) n n) none (some (.int .i64 m)) none).run Tryd.prog W = .ok (.slice (some ⟨b, 0, none⟩) m n) W := by
  rw [run_slice_h W 22 (some ⟨b, 0, none⟩) n n (by simp [Program.elem, Tryd.underlying22]) .i64 m (by omega) (by omega)]
  go_simp

theorem SRow.cells {n0 : Nat} {W : World} {a : Option Addr} {n cap : Nat} {ss : List ByteArray} (h : SRow n0 W (.slice a n cap) ss) : ∀ j, j < ss.length → ∃ b off, a = some ⟨b, off, none⟩ ∧ b < n0 ∧ W.cell? ⟨b, off + j, none⟩ = some (.string (ss[j]?.getD ByteArray.empty)) := by
  obtain ⟨_, _, e, _, _, h3⟩ := h
  cases e
  exact h3

set_option maxRecDepth 100000 in
set_option maxHeartbeats 8000000 in
theorem walk4 (v1 v2 : Value) (ns vs : List ByteArray) (pa qa : Option Addr) (pn pc qn qc : Nat) (hp ht : Bool) (tl ul : Int) (w : World) (htab : Tab w) (h0 : 0 < w.heap.size) (hns : StrRow w.heap.size w v1 ns) (hvs : StrRow w.heap.size w v2 vs) (hps : BRow w.heap.size w pa pn pc) (hqs : BRow w.heap.size w qa qn qc) (ht0 : -9223372036854775808 ≤ tl) (ht1 : tl ≤ 9223372036854775807) (hu0 : -9223372036854775808 ≤ ul) (hu1 : ul ≤ 9223372036854775807) :
    Calls Tryd.prog 4 #[v1, v2, .slice pa pn pc, .int .i64 tl, .slice qa qn qc, .int .i64 ul, .bool hp, .bool ht] w fun e w' => e = .returned (.bool true) ∧ Below w.heap.size w w' := by
  obtain ⟨a, cap, rfl, h1, h2, h3⟩ := id hns
  obtain ⟨a2, cap2, rfl, g1, g2, g3⟩ := id hvs
  have hpm : pn ≤ maxLen := by obtain ⟨_, _, q1, q2, _⟩ := hps; omega
  have hqm : qn ≤ maxLen := by obtain ⟨_, _, q1, q2, _⟩ := hqs; omega
  have hpm' := hpm
  have hqm' := hqm
  unfold maxLen at hpm' hqm'
  go_enter Tryd.func4, Tryd.ntmps4
  go_wp2_with fail
  refine (bytes14 w.heap.size w.heap.size _ _ ns vs pa qa pn pc qn qc hp ht tl ul w hns hvs hpm hqm).mono ?_
  rintro e w ⟨rfl, r, rfl, hr⟩
  cases r
  · go_wp2_with fail
    go_ret
    exact ⟨rfl, Below.refl _ _⟩
  obtain ⟨hr1, hr2⟩ := hr rfl
  by_cases hpl : 524288 < pn
  · go_wp2_with fail
    go_ret
    exact ⟨rfl, Below.refl _ _⟩
  by_cases hql : 524288 < qn
  · go_wp2_with fail
    go_ret
    exact ⟨rfl, Below.refl _ _⟩
  go_wp2_with fail
  refine (tooBig6 w.heap.size w.heap.size _ _ ns vs _ w hns hvs (by omega)).mono ?_
  rintro e w ⟨rfl, r, rfl, _⟩
  cases r
  case true =>
    go_wp2_with fail
    go_ret
    exact ⟨rfl, Below.refl _ _⟩
  by_cases hl : ns.length = vs.length
  case neg =>
    have hb : ((ns.length : Int) != (vs.length : Int)) = true := by rw [bne_iff_ne]; omega
    clear hl
    go_wp2_with fail
    go_ret
    exact ⟨rfl, Below.refl _ _⟩
  have hb : ((ns.length : Int) != (vs.length : Int)) = false := by simp; omega
  have HL : Hid (ns.length = vs.length) := hl
  clear hl
  obtain ⟨i0, hi, hz0, hz1, hz2⟩ := info_parts Tryd.info9
  obtain ⟨j0, hj, hy0, hy1, hy2⟩ := info_parts Tryd.info5
  have hneq := neqNil a ns.length cap
  have hneq2 := neqNil a2 vs.length cap2
  have hneq3 := neqNilB pa pn pc
  have hneq4 := neqNilB qa qn qc
  go_upto_if 70 with fail
  go_cut [0, 17] (fun s0 _ wq => ∃ a' cap', s0 = .slice a' ns.length cap' ∧ StrRow wq.heap.size wq (.slice a' ns.length cap') ns ∧ Below w.heap.size w wq)
  case first =>
    as_aux_lemma =>
      cases a with
      | none =>
        go_wp2_with fail
        go_meet
        case rel => exact ⟨_, _, rfl, hns, Below.refl _ _⟩
      | some ad =>
        have hsz := hns.sizes
        have hm1 : ns.length ≤ maxLen := by unfold maxLen; omega
        go_wp2_with (
          at_make
          refine wpList_make_full _ rfl _ _ 22 rfl w.heap.size 9 i0 (.string ⟨#[]⟩) 1 Tryd.underlying22 hi hz0 hz1 _ _ _ _ ns.length rfl rfl rfl rfl (by rw [hz2]; omega) (by unfold maxLen; omega) (Nat.le_refl _) ?_
          intro w1 hown hgrow
          obtain ⟨cur, hcl, hgb⟩ := made_block hown
          have hB4 : Below w.heap.size w w1 := (Below.refl _ _).grown hgrow (Nat.le_refl _) (fun k e => by cases e)
          obtain ⟨w2, hcopy, hg2, hB2⟩ := copy_strs hns hB4 rfl hcl hgb
          have HG2 : Hid (w2.heap[w.heap.size]? = some (.cells (ns.map Value.string).toArray 9 (0, 0))) := hg2
          have hB3 := hB4.trans hB2
          clear hown hgrow hgb hcl hg2 hB4 hB2)
        go_meet
        case rel => exact ⟨_, _, rfl, StrRow.of_block HG2.out hsz hm1, hB3⟩
  case rest =>
    obtain ⟨a', cap', rfl, hns1, hB1⟩ := hcut
    have hvs1 := (hvs.below hB1).mono hB1.size
    have hps1 := hps.below hB1
    have hqs1 := hqs.below hB1
    have hz1w := hB1.size
    clear hns hvs hps hqs h3 g3
    generalize wc = wa at *
    go_upto_if 79 with fail
    go_cut [1, 18] (fun s0 _ wq => ∃ a' cap', s0 = .slice a' vs.length cap' ∧ StrRow wq.heap.size wq (.slice a' vs.length cap') vs ∧ Below wa.heap.size wa wq)
    case first =>
      as_aux_lemma =>
        cases a2 with
        | none =>
          go_wp2_with fail
          go_meet
          case rel => exact ⟨_, _, rfl, hvs1, Below.refl _ _⟩
        | some ad =>
          have hsz := hvs1.sizes
          have hm1 : vs.length ≤ maxLen := by unfold maxLen; omega
          go_wp2_with (
            at_make
            refine wpList_make_full _ rfl _ _ 22 rfl wa.heap.size 9 i0 (.string ⟨#[]⟩) 1 Tryd.underlying22 hi hz0 hz1 _ _ _ _ vs.length rfl rfl rfl rfl (by rw [hz2]; omega) (by unfold maxLen; omega) (Nat.le_refl _) ?_
            intro w1 hown hgrow
            obtain ⟨cur, hcl, hgb⟩ := made_block hown
            have hB4 : Below wa.heap.size wa w1 := (Below.refl _ _).grown hgrow (Nat.le_refl _) (fun k e => by cases e)
            obtain ⟨w2, hcopy, hg2, hB2⟩ := copy_strs hvs1 hB4 rfl hcl hgb
            have HG2 : Hid (w2.heap[wa.heap.size]? = some (.cells (vs.map Value.string).toArray 9 (0, 0))) := hg2
            have hB3 := hB4.trans hB2
            clear hown hgrow hgb hcl hg2 hB4 hB2)
          go_meet
          case rel => exact ⟨_, _, rfl, StrRow.of_block HG2.out hsz hm1, hB3⟩
    case rest =>
      obtain ⟨b', capb', rfl, hvs2, hB2⟩ := hcut
      have hns2 := (hns1.below hB2).mono hB2.size
      have hBw : Below w.heap.size w wc := hB1.trans (hB2.mono hz1w)
      have hps2 := hps1.below (hB2.mono hz1w)
      have hqs2 := hqs1.below (hB2.mono hz1w)
      clear hns1 hvs1 hps1 hqs1 hB1 hB2 hneq hneq2
      generalize wc = wd at *
      have hzw := hBw.size
      go_upto_if 88 with fail
      go_cut [2, 19] (fun s0 _ wq => ∃ a' cap', s0 = .slice a' pn cap' ∧ Below wd.heap.size wd wq)
      case first =>
        as_aux_lemma =>
          cases pa with
          | none =>
            go_wp2_with fail
            go_meet
            case rel => exact ⟨_, _, rfl, Below.refl _ _⟩
          | some ad =>
            go_wp2_with (
              at_make
              refine wpList_make_full _ rfl _ _ 23 rfl wd.heap.size 5 j0 (.int .u8 0) 1 Tryd.underlying23 hj hy0 hy1 _ _ _ _ pn rfl rfl rfl rfl (by rw [hy2]; omega) (by unfold maxLen; omega) (Nat.le_refl _) ?_
              intro w1 hown hgrow
              obtain ⟨cur, hcl, hgb⟩ := made_block5 hown
              have hB4 : Below wd.heap.size wd w1 := (Below.refl _ _).grown hgrow (Nat.le_refl _) (fun k e => by cases e)
              obtain ⟨w2, hcopy, hB2⟩ := copy_bytes hps2 (hB4.mono hzw) hcl hgb
              have hB3 := hB4.trans hB2
              clear hown hgrow hgb hcl hB4 hB2)
            go_meet
            case rel => exact ⟨_, _, rfl, hB3⟩
      case rest =>
        obtain ⟨p', capp', rfl, hB3⟩ := hcut
        have hns3 := (hns2.below hB3).mono hB3.size
        have hvs3 := (hvs2.below hB3).mono hB3.size
        have hBw2 : Below w.heap.size w wc := hBw.trans (hB3.mono hzw)
        have hqs3 := hqs2.below (hB3.mono hzw)
        clear hns2 hvs2 hps2 hqs2 hBw hB3 hneq3 hzw hz1w
        generalize wc = we at *
        have hzw := hBw2.size
        go_upto_if 97 with fail
        go_cut [4, 20] (fun s0 _ wq => ∃ a' cap', s0 = .slice a' qn cap' ∧ Below we.heap.size we wq)
        case first =>
          as_aux_lemma =>
            cases qa with
            | none =>
              go_wp2_with fail
              go_meet
              case rel => exact ⟨_, _, rfl, Below.refl _ _⟩
            | some ad =>
              go_wp2_with (
                at_make
                refine wpList_make_full _ rfl _ _ 23 rfl we.heap.size 5 j0 (.int .u8 0) 1 Tryd.underlying23 hj hy0 hy1 _ _ _ _ qn rfl rfl rfl rfl (by rw [hy2]; omega) (by unfold maxLen; omega) (Nat.le_refl _) ?_
                intro w1 hown hgrow
                obtain ⟨cur, hcl, hgb⟩ := made_block5 hown
                have hB4 : Below we.heap.size we w1 := (Below.refl _ _).grown hgrow (Nat.le_refl _) (fun k e => by cases e)
                obtain ⟨w2, hcopy, hB2⟩ := copy_bytes hqs3 (hB4.mono hzw) hcl hgb
                have hB3 := hB4.trans hB2
                clear hown hgrow hgb hcl hB4 hB2)
              go_meet
              case rel => exact ⟨_, _, rfl, hB3⟩
        case rest =>
          obtain ⟨q', capq', rfl, hB3⟩ := hcut
          have hns4 := (hns3.below hB3).mono hB3.size
          have hvs4 := (hvs3.below hB3).mono hB3.size
          have hBw3 : Below w.heap.size w wc := hBw2.trans (hB3.mono hzw)
          have htabc : Tab wc := htab.below hBw3 h0
          clear hns3 hvs3 hqs3 hBw2 hB3 hneq4 hzw htab hi hz0 hz1 hz2 hj hy0 hy1 hy2
          generalize wc = wf at *
          have hns5 := hns4.s
          have hvs5 := hvs4.s
          have h05 : 0 < wf.heap.size := Nat.lt_of_lt_of_le h0 hBw3.size
          have hzl : (ns.zip vs).length ≤ 1048576 := by simp; omega
          as_aux_lemma =>
            obtain ⟨pv, HPV⟩ : ∃ s, Hid (sI (pn : Int) = s) := ⟨_, rfl⟩
            obtain ⟨tv, HTV⟩ : ∃ s, Hid (sI tl = s) := ⟨_, rfl⟩
            obtain ⟨cv, HCV⟩ : ∃ s, Hid (sI (wrap64 (pn + tl)) = s) := ⟨_, rfl⟩
            obtain ⟨qv, HQV⟩ : ∃ s, Hid (sI (qn : Int) = s) := ⟨_, rfl⟩
            obtain ⟨uv, HUV⟩ : ∃ s, Hid (sI ul = s) := ⟨_, rfl⟩
            obtain ⟨dv, HDV⟩ : ∃ s, Hid (sI (wrap64 (qn + ul)) = s) := ⟨_, rfl⟩
            obtain ⟨a9, c9, e9, _⟩ := id hns5
            cases e9
            obtain ⟨a10, c10, e10, _⟩ := id hvs5
            cases e10
            go_wp2_with fail
            refine (newRec9 wf.heap.size _ _ ns vs p' pn capp' hp ht tl wf (Nat.le_refl _) hns5 hvs5 HL.out (by omega)).mono ?_
            rintro e w1 ⟨br, hv0, rfl, hR1, hB1⟩
            have htab1 : Tab w1 := htabc.below hB1 h05
            have hC1 := setLengths10 wf.heap.size br hv0 (ns.zip vs) hp ht p' pn capp' tl w1 hR1 htab1 h05 hB1.size (by omega) (by omega) ht0 ht1
            rw [HPV.out, HTV.out, HCV.out] at hC1
            go_wp2_with fail
            refine hC1.mono ?_
            clear hC1
            rintro e w2 ⟨rfl, hv1, hR2, hK2⟩
            have hBf2 : Below wf.heap.size wf w2 := hB1.trans (hK2.below hR1.lo (fun b e => (hR1.row.lt b e).1) hB1.size)
            have HA : Hid (setL (setL (ns.zip vs) hp ht pv tv cv) hp ht qv uv dv = setL (ns.zip vs) hp ht qv uv dv) := setL_again _ _ _ _ _ _ _ _ _
            have hln := (setL_length (ns.zip vs) hp ht pv tv cv).2
            generalize setL (ns.zip vs) hp ht pv tv cv = L1 at *
            clear hR1 hK2 hB1 htab1
            go_wp2_with fail
            refine (names11 wf.heap.size br hv1 L1 hp ht _ tl w2 hR2 (by omega)).mono ?_
            rintro e w3 ⟨n3, rfl, hS3, hB3⟩
            have hR3 := hR2.below hB3
            go_wp2_with fail
            refine (values12 wf.heap.size br hv1 L1 hp ht _ tl w3 hR3 (by omega)).mono ?_
            rintro e w4 ⟨n4, rfl, hS4, hB4⟩
            have hBf4 : Below wf.heap.size wf w4 := (hBf2.trans (hB3.mono hBf2.size)).trans (hB4.mono (Nat.le_trans hBf2.size hB3.size))
            have hS3' := (hS3.below hB4).mono hB4.size
            clear hS3 hR2 hR3 hB3 hB4 hBf2
            as_aux_lemma =>
              go_wp2_with fail
              refine (newRec9 w4.heap.size _ _ (L1.map fun h => h.1) (L1.map fun h => h.2) q' qn capq' hp ht ul w4 (Nat.le_refl _) hS3' hS4 (by simp) (by simp; omega)).mono ?_
              rintro e w5 ⟨br2, hv2, rfl, hR5, hB5⟩
              rw [zip_fst_snd] at hR5
              have hBf5 : Below wf.heap.size wf w5 := hBf4.trans (hB5.mono hBf4.size)
              have hC2 := setLengths10 w4.heap.size br2 hv2 L1 hp ht q' qn capq' ul w5 hR5 (htabc.below hBf5 h05) (by have := hBf4.size; omega) hB5.size (by omega) (by omega) hu0 hu1
              rw [HQV.out, HUV.out, HDV.out, HA.out] at hC2
              go_wp2_with fail
              refine hC2.mono ?_
              clear hC2
              rintro e w6 ⟨rfl, hv3, hR6, hK6⟩
              have hBf6 : Below wf.heap.size wf w6 := hBf5.trans ((hK6.below hR5.lo (fun b e => (hR5.row.lt b e).1) hB5.size).mono hBf4.size)
              have hns6 := (hns5.below hBf6).mono hBf6.size
              have hvs6 := (hvs5.below hBf6).mono hBf6.size
              clear hR5 hK6 hB5 hBf5 hS3' hS4 hBf4
              as_aux_lemma =>
                go_wp2_with fail
                refine (newRec9 w6.heap.size _ _ ns vs q' qn capq' hp ht ul w6 (Nat.le_refl _) hns6 hvs6 HL.out (by omega)).mono ?_
                rintro e w7 ⟨br3, hv4, rfl, hR7, hB7⟩
                have hBf7 : Below wf.heap.size wf w7 := hBf6.trans (hB7.mono hBf6.size)
                have hC3 := setLengths10 w6.heap.size br3 hv4 (ns.zip vs) hp ht q' qn capq' ul w7 hR7 (htabc.below hBf7 h05) (by have := hBf6.size; omega) hB7.size (by omega) (by omega) hu0 hu1
                rw [HQV.out, HUV.out, HDV.out] at hC3
                go_wp2_with fail
                refine hC3.mono ?_
                clear hC3
                rintro e w8 ⟨rfl, hv5, hR8, hK8⟩
                have hB68 : Below w6.heap.size w6 w8 := hB7.trans (hK8.below hR7.lo (fun b e => (hR7.row.lt b e).1) hB7.size)
                have hR6' := hR6.below hB68
                have hBf8 : Below wf.heap.size wf w8 := hBf6.trans (hB68.mono hBf6.size)
                have HT : Hid (((setL (ns.zip vs) hp ht qv uv dv).map fun h => h.1).take ns.length = ns) := setL_take ns vs hp ht qv uv dv HL.out
                have HV : Hid (∀ k, k < (setL (ns.zip vs) hp ht qv uv dv).length → _) := fun k (hk : k < (setL (ns.zip vs) hp ht qv uv dv).length) => setL_vals (ns.zip vs) hp ht qv uv dv _ (mem_get hk)
                have HS : Hid _ := seen_all (ns.zip vs) hp ht qv uv dv
                have hln2 := setL_length (ns.zip vs) hp ht qv uv dv
                have hzl2 : (ns.zip vs).length = ns.length := by have := HL.out; simp; omega
                rw [hzl2] at hln2
                generalize setL (ns.zip vs) hp ht qv uv dv = L at *
                clear hR6 hR7 hK8 hB7 hB68 hns6 hvs6 hBf7 hBf6
                as_aux_lemma =>
                  go_wp2_with fail
                  refine (names11 _ br2 hv3 L hp ht _ ul w8 hR6' (by omega)).mono ?_
                  rintro e w9 ⟨n9, rfl, hS9, hB9⟩
                  go_wp2_with fail
                  refine (values12 _ br2 hv3 L hp ht _ ul w9 (hR6'.below hB9) (by omega)).mono ?_
                  rintro e w10 ⟨n10, rfl, hS10, hB10⟩
                  have hR10 := (hR8.below hB9).below hB10
                  go_wp2_with fail
                  refine (names11 _ br3 hv5 L hp ht _ ul w10 hR10 (by omega)).mono ?_
                  rintro e w11 ⟨n11, rfl, hS11, hB11⟩
                  go_wp2_with fail
                  refine (values12 _ br3 hv5 L hp ht _ ul w11 (hR10.below hB11) (by omega)).mono ?_
                  rintro e w12 ⟨n12, rfl, hS12, hB12⟩
                  have hB1012 : Below w10.heap.size w10 w12 := hB11.trans (hB12.mono hB11.size)
                  have hB912 : Below w9.heap.size w9 w12 := hB10.trans (hB1012.mono hB10.size)
                  have hB812 : Below w8.heap.size w8 w12 := hB9.trans (hB912.mono hB9.size)
                  have hBf12 : Below wf.heap.size wf w12 := hBf8.trans (hB812.mono hBf8.size)
                  have k9 := (hS9.below hB912).mono hB912.size
                  have k10 := (hS10.below hB1012).mono hB1012.size
                  have k11 := (hS11.below hB12).mono hB12.size
                  have hns12 := (hns5.below hBf12).mono hBf12.size
                  have hns12s := (hns4.below hBf12).mono hBf12.size
                  have hBw12 : Below w.heap.size w w12 := hBw3.trans (hBf12.mono hBw3.size)
                  have hn11 : n11 = L.length := by obtain ⟨_, _, e, _⟩ := k11; cases e; simp
                  have hn12 : n12 = L.length := by obtain ⟨_, _, e, _⟩ := hS12; cases e; simp
                  subst hn11 hn12
                  clear hS9 hS10 hS11 hR6' hR8 hR10 hB9 hB10 hB11 hB12 hB1012 hB912 hB812 hBf8 hns5 hvs5 hns4 hvs4 hBf12 hBw3 htabc
                  as_aux_lemma =>
                    go_wp2_with fail
                    refine (same13 w12.heap.size w12.heap.size _ _ _ w12 k9 k11 (Nat.le_refl _) (Nat.le_refl _)).mono ?_
                    rintro e w13 ⟨rfl, hB13⟩
                    go_wp2_with fail
                    refine (same13 w12.heap.size w12.heap.size _ _ _ w13 (k10.below hB13) (hS12.below hB13) hB13.size hB13.size).mono ?_
                    rintro e w14 ⟨rfl, hB14⟩
                    have hB124 := hB13.trans (hB14.mono hB13.size)
                    have m11 := (k11.below hB124).mono hB124.size
                    have m12 := (hS12.below hB124).mono hB124.size
                    have mns := (hns12.below hB124).mono hB124.size
                    have mnss := (hns12s.below hB124).mono hB124.size
                    have hBw14 : Below w.heap.size w w14 := hBw12.trans (hB124.mono hBw12.size)
                    clear k9 k10 k11 hS12 hns12 hns12s hB13 hB14 hB124 hBw12
                    as_aux_lemma =>
                      have hsl := slice_head w10.heap.size L.length ns.length hln2.1
                      have hlt0 : ¬ ((L.length : Int) < (ns.length : Int)) := by omega
                      have hlt1 : decide ((L.length : Int) < (ns.length : Int)) = false := decide_eq_false hlt0
                      have mt := m11.take (m := ns.length) (by simpa using hln2.1)
                      rw [HT.out] at mt
                      go_wp2_with fail
                      refine (same13 w14.heap.size w14.heap.size _ _ _ w14 mt mns (Nat.le_refl _) (Nat.le_refl _)).mono ?_
                      rintro e w15 ⟨rfl, hB15⟩
                      obtain ⟨hw0, hw1⟩ := wrap_range (qn + ul)
                      go_wp2_with fail
                      refine (itoa7 qn (by omega) (by omega) w15).mono ?_
                      rintro e w16 ⟨rfl, hB16⟩
                      rw [sI_def, HQV.out]
                      go_wp2_with fail
                      refine (itoa7 ul hu0 hu1 w16).mono ?_
                      rintro e w17 ⟨rfl, hB17⟩
                      rw [sI_def, HUV.out]
                      go_wp2_with fail
                      refine (itoa7 (wrap64 (qn + ul)) hw0 hw1 w17).mono ?_
                      rintro e wg ⟨rfl, hB18⟩
                      rw [sI_def, HDV.out]
                      have hB14g : Below w14.heap.size w14 wg := ((hB15.trans (hB16.mono hB15.size)).trans (hB17.mono (Nat.le_trans hB15.size hB16.size))).trans (hB18.mono (Nat.le_trans hB15.size (Nat.le_trans hB16.size hB17.size)))
                      have z11 := (m11.below hB14g).mono hB14g.size
                      have z12 := (m12.below hB14g).mono hB14g.size
                      have zns := (mnss.below hB14g).mono hB14g.size
                      have hBwg : Below w.heap.size w wg := hBw14.trans (hB14g.mono hBw14.size)
                      clear hw0 hw1 m11 m12 mns mnss mt hB15 hB16 hB17 hB18 hB14g hBw14 hsl hlt0 hlt1 HQV HUV HDV HPV HTV HCV HT
                      generalize (some (⟨w10.heap.size, 0, none⟩ : Addr)) = a11 at *
                      generalize (some (⟨w11.heap.size, 0, none⟩ : Addr)) = a12 at *
                      have q11 := z11.cells
                      have q12 := z12.cells
                      clear z11 z12
                      have hLm : L.length ≤ 1048579 := by omega
                      as_aux_lemma =>
                        go_wp2_with fail
                        go_loop [32, 33, 34, 35] (fun s1 s2 s3 i => ∃ k : Nat, k ≤ L.length ∧ i = .int .i64 k ∧ s1 = .bool (has (L.take k) nP) ∧ s2 = .bool (has (L.take k) nT) ∧ s3 = .bool (has (L.take k) nC)) (fun _ _ _ i => L.length - (intOf i).toNat)
                        case atStart => exact ⟨0, Nat.zero_le _, rfl, rfl, rfl, rfl⟩
                        case round =>
                          obtain ⟨k, hk, rfl, rfl, rfl, rfl⟩ := hrel
                          by_cases hlt : k < L.length
                          · as_aux_lemma =>
                              have hki : (k : Int) < (L.length : Int) := by omega
                              obtain ⟨b1, o1, rfl, hb1, hc1⟩ := q11 k (by simpa using hlt)
                              obtain ⟨b2, o2, rfl, hb2, hc2⟩ := q12 k (by simpa using hlt)
                              rw [map_get1 L k hlt] at hc1
                              rw [map_get2 L k hlt] at hc2
                              have HP := has_succ L nP k hlt
                              have HQ := has_succ L nT k hlt
                              have HR := has_succ L nC k hlt
                              have HV1 := HV.out k hlt
                              clear q11 q12 HV HS HA
                              generalize L[k]?.getD hd0 = h at *
                              obtain ⟨x, y⟩ := h
                              dsimp only at hc1 hc2 HP HQ HR HV1
                              rw [lP] at HP
                              rw [lT] at HQ
                              rw [lC] at HR
                              rw [lP, lT, lC] at HV1
                              obtain ⟨HV1, HV2, HV3⟩ := HV1
                              have hxy : ∀ z : ByteArray, (z.toList == z.toList) = true := fun z => by simp
                              generalize has (L.take k) nP = fP at *
                              generalize has (L.take k) nT = fT at *
                              generalize has (L.take k) nC = fC at *
                              cases hq1 : (x.toList == [80, 114, 111, 112, 45, 99, 111, 110, 116, 101, 110, 116, 45, 108, 101, 110, 103, 116, 104])
                              · cases hq2 : (x.toList == [84, 101, 120, 116, 45, 99, 111, 110, 116, 101, 110, 116, 45, 108, 101, 110, 103, 116, 104])
                                · cases hq3 : (x.toList == [67, 111, 110, 116, 101, 110, 116, 45, 108, 101, 110, 103, 116, 104])
                                  · rw [hq1, Bool.or_false] at HP
                                    rw [hq2, Bool.or_false] at HQ
                                    rw [hq3, Bool.or_false] at HR
                                    have HP' : Hid _ := HP
                                    have HQ' : Hid _ := HQ
                                    have HR' : Hid _ := HR
                                    clear HP HQ HR HV1 HV2 HV3 hxy
                                    as_aux_lemma =>
                                      go_wp2_with fail
                                      go_round
                                      case rel => exact ⟨k + 1, by omega, by go_num, by rw [HP'.out], by rw [HQ'.out], by rw [HR'.out]⟩
                                      case measure => simp [intOf]; omega
                                  · have hv := HV3 hq3
                                    have hyy := hxy y
                                    subst hv
                                    rw [hq1, Bool.or_false] at HP
                                    rw [hq2, Bool.or_false] at HQ
                                    rw [hq3, Bool.or_true] at HR
                                    have HP' : Hid _ := HP
                                    have HQ' : Hid _ := HQ
                                    have HR' : Hid _ := HR
                                    clear HP HQ HR HV1 HV2 HV3 hxy
                                    as_aux_lemma =>
                                      go_wp2_with fail
                                      go_round
                                      case rel => exact ⟨k + 1, by omega, by go_num, by rw [HP'.out], by rw [HQ'.out], by rw [HR'.out]⟩
                                      case measure => simp [intOf]; omega
                                · have hv := HV2 hq2
                                  have hyy := hxy y
                                  subst hv
                                  have hq3 : (x.toList == [67, 111, 110, 116, 101, 110, 116, 45, 108, 101, 110, 103, 116, 104]) = false := by rw [← lC, beqB_eq (a := x) (b := nT) (by rw [lT]; exact hq2)]; decide
                                  rw [hq1, Bool.or_false] at HP
                                  rw [hq2, Bool.or_true] at HQ
                                  rw [hq3, Bool.or_false] at HR
                                  have HP' : Hid _ := HP
                                  have HQ' : Hid _ := HQ
                                  have HR' : Hid _ := HR
                                  clear HP HQ HR HV1 HV2 HV3 hxy
                                  as_aux_lemma =>
                                    go_wp2_with fail
                                    go_round
                                    case rel => exact ⟨k + 1, by omega, by go_num, by rw [HP'.out], by rw [HQ'.out], by rw [HR'.out]⟩
                                    case measure => simp [intOf]; omega
                              · have hv := HV1 hq1
                                have hyy := hxy y
                                subst hv
                                have hq2 : (x.toList == [84, 101, 120, 116, 45, 99, 111, 110, 116, 101, 110, 116, 45, 108, 101, 110, 103, 116, 104]) = false := by rw [← lT, beqB_eq (a := x) (b := nP) (by rw [lP]; exact hq1)]; decide
                                have hq3 : (x.toList == [67, 111, 110, 116, 101, 110, 116, 45, 108, 101, 110, 103, 116, 104]) = false := by rw [← lC, beqB_eq (a := x) (b := nP) (by rw [lP]; exact hq1)]; decide
                                rw [hq1, Bool.or_true] at HP
                                rw [hq2, Bool.or_false] at HQ
                                rw [hq3, Bool.or_false] at HR
                                have HP' : Hid _ := HP
                                have HQ' : Hid _ := HQ
                                have HR' : Hid _ := HR
                                clear HP HQ HR HV1 HV2 HV3 hxy
                                as_aux_lemma =>
                                  go_wp2_with fail
                                  go_round
                                  case rel => exact ⟨k + 1, by omega, by go_num, by rw [HP'.out], by rw [HQ'.out], by rw [HR'.out]⟩
                                  case measure => simp [intOf]; omega
                          · have hke : k = L.length := by omega
                            subst hke
                            generalize hfP : has (L.take L.length) nP = fP
                            generalize hfT : has (L.take L.length) nT = fT
                            generalize hfC : has (L.take L.length) nC = fC
                            rw [List.take_length] at hfP hfT hfC
                            rw [hfP, hfT, hfC] at HS
                            clear hfP hfT hfC q11 q12 HV HA hlt hk
                            as_aux_lemma =>
                              go_upto_region 60 with fail
                              go_cut [221] (fun c wx => c = .bool false ∧ wx = wg)
                              case first =>
                                as_aux_lemma =>
                                  cases hp <;> cases fP <;> cases ht <;> cases fT
                                  all_goals
                                    first
                                      | (exfalso; have h := HS.out; simp at h; done)
                                      | (clear HS
                                         as_aux_lemma =>
                                           go_wp2_with fail
                                           go_meet
                                           case rel => exact ⟨rfl, rfl⟩)
                              case rest =>
                                obtain ⟨rfl, rfl⟩ := hcut
                                generalize wc = wg at *
                                as_aux_lemma =>
                                  go_upto_region 62 with fail
                                  go_cut [36] (fun c wx => c = .bool (aP (ns.zip vs) hp) ∧ wx = wg)
                                  case first =>
                                    as_aux_lemma =>
                                      clear HS
                                      cases hp
                                      · go_wp2_with fail
                                        go_meet
                                        case rel => exact ⟨rfl, rfl⟩
                                      · have HC : Hid (((ns.filter fun x => x == nP).length == 0) = aP (ns.zip vs) true) := by
                                          show _ = _
                                          rw [count_has, ← has_zip ns vs HL.out]
                                          rfl
                                        have hcl : (ns.filter fun x => x == nP).length ≤ 1048576 := by have := List.length_filter_le (fun x => x == nP) ns; omega
                                        have hC8 := count8 wg.heap.size _ ns nP wg zns hr1
                                        generalize (ns.filter fun x => x == nP).length = cn at *
                                        go_wp2_with fail
                                        refine hC8.mono ?_
                                        clear hC8
                                        rintro e wg ⟨rfl, rfl⟩
                                        by_cases hcz : cn = 0
                                        · subst hcz
                                          go_wp2_with fail
                                          go_meet
                                          case rel => exact ⟨congrArg Value.bool HC.out, rfl⟩
                                        · have hcb : ((cn : Int) == 0) = false := by simp; omega
                                          have hcn : (cn == 0) = false := by simp; omega
                                          rw [hcn] at HC
                                          go_wp2_with fail
                                          go_meet
                                          case rel => exact ⟨congrArg Value.bool HC.out, rfl⟩
                                  case rest =>
                                    obtain ⟨rfl, rfl⟩ := hcut
                                    obtain ⟨bP, HbP⟩ : ∃ b, Hid (aP (ns.zip vs) hp = b) := ⟨_, rfl⟩
                                    rw [HbP.out]
                                    rw [HbP.out] at HS
                                    clear HbP
                                    generalize wc = wg at *
                                    as_aux_lemma =>
                                      go_upto_region 63 with fail
                                      go_cut [37] (fun c wx => c = .bool (aT (ns.zip vs) ht) ∧ wx = wg)
                                      case first =>
                                        as_aux_lemma =>
                                          clear HS
                                          cases ht
                                          · go_wp2_with fail
                                            go_meet
                                            case rel => exact ⟨rfl, rfl⟩
                                          · have HC : Hid (((ns.filter fun x => x == nT).length == 0) = aT (ns.zip vs) true) := by
                                              show _ = _
                                              rw [count_has, ← has_zip ns vs HL.out]
                                              rfl
                                            have hcl : (ns.filter fun x => x == nT).length ≤ 1048576 := by have := List.length_filter_le (fun x => x == nT) ns; omega
                                            have hC8 := count8 wg.heap.size _ ns nT wg zns hr1
                                            generalize (ns.filter fun x => x == nT).length = cn at *
                                            go_wp2_with fail
                                            refine hC8.mono ?_
                                            clear hC8
                                            rintro e wg ⟨rfl, rfl⟩
                                            by_cases hcz : cn = 0
                                            · subst hcz
                                              go_wp2_with fail
                                              go_meet
                                              case rel => exact ⟨congrArg Value.bool HC.out, rfl⟩
                                            · have hcb : ((cn : Int) == 0) = false := by simp; omega
                                              have hcn : (cn == 0) = false := by simp; omega
                                              rw [hcn] at HC
                                              go_wp2_with fail
                                              go_meet
                                              case rel => exact ⟨congrArg Value.bool HC.out, rfl⟩
                                      case rest =>
                                        obtain ⟨rfl, rfl⟩ := hcut
                                        obtain ⟨bT, HbT⟩ : ∃ b, Hid (aT (ns.zip vs) ht = b) := ⟨_, rfl⟩
                                        rw [HbT.out]
                                        rw [HbT.out] at HS
                                        clear HbT
                                        generalize wc = wg at *
                                        as_aux_lemma =>
                                          go_upto_region 64 with fail
                                          go_cut [241] (fun c wx => c = .bool false ∧ wx = wg)
                                          case first =>
                                            as_aux_lemma =>
                                              have HS3 : Hid (((bP || bT) && !fC) = false) := HS.out.2.2
                                              clear HS
                                              cases bP <;> cases bT <;> cases fC
                                              all_goals
                                                first
                                                  | (exfalso; have h := HS3.out; simp at h; done)
                                                  | (clear HS3
                                                     as_aux_lemma =>
                                                       go_wp2_with fail
                                                       go_meet
                                                       case rel => exact ⟨rfl, rfl⟩)
                                          case rest =>
                                            obtain ⟨rfl, rfl⟩ := hcut
                                            go_wp2_with fail
                                            go_ret
                                            exact ⟨rfl, hBwg⟩
end Go.Proofs.Qxb6614988aDoor
