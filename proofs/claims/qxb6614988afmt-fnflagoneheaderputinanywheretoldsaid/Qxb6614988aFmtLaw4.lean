import Derived.Test.Qxb6614988aFmtRec
import Derived.Laws.CopyOwn
import Derived.Deep.DeepCutAuto
import Derived.Maps.AppendAt
import Derived.Deep.QuietTactic
import Derived.BigQuiet
namespace Go.Proofs.Qxb6614988aFmt
open Go.RowKit Go.Extern.Stop Go.Stop Go.Extern Go.WideShapes

theorem Tryf.info9 : (Tryf.prog.info? 9).map (fun i => (i.zero, i.size, i.bytes)) = some (some (.string ⟨#[]⟩), 1, 16) := by kernel_rfl
theorem Tryf.size9 : (Tryf.prog.info? 9).map (·.size) = some 1 := by kernel_rfl

theorem StrRow.sizes {n0 : Nat} {W : World} {v : Value} {ss : List ByteArray} (h : StrRow n0 W v ss) : ∀ s ∈ ss, s.size ≤ maxLen := by
  obtain ⟨a, cap, rfl, h1, h2, h3⟩ := h
  intro s hs
  obtain ⟨j, hj, rfl⟩ := List.getElem_of_mem hs
  obtain ⟨_, _, _, _, h7, _⟩ := h3 j hj
  simpa [hj] using h7
/-- A new block of strings, as a row. -/
theorem StrRow.of_block {W : World} {g : Nat} {xs : List ByteArray} (hb : W.heap[g]? = some (.cells (xs.map Value.string).toArray 9 (0, 0))) (hs : ∀ s ∈ xs, s.size ≤ maxLen) (hm : xs.length ≤ maxLen) : StrRow W.heap.size W (.slice (some ⟨g, 0, none⟩) xs.length xs.length) xs := by
  refine ⟨_, _, rfl, Nat.le_refl _, hm, fun j hj => ⟨g, 0, rfl, (Array.getElem?_eq_some_iff.1 hb).1, hs _ (by simp [hj]), ?_⟩⟩
  simp [World.cell?, hb, hj]
/-- What a copy of the whole row needs to know of its source. -/
theorem StrRow.src {n0 : Nat} {A W : World} {a : Option Addr} {len cap : Nat} {ss : List ByteArray} (h : StrRow n0 A (.slice a len cap) ss) (hB : Below n0 A W) (dp : Option Addr) (hpos : 0 < (ss.map Value.string).length) :
    dp = dp ∧ ∃ ad, a = some ad ∧ ∀ j v, (ss.map Value.string)[j]? = some v → W.cell? (ad.add j) = some v := by
  obtain ⟨a', cap', e, h1, h2, h3⟩ := h
  cases e
  have h0 : 0 < ss.length := by simpa using hpos
  obtain ⟨b, off, rfl, _⟩ := h3 0 h0
  refine ⟨rfl, _, rfl, fun j v hj => ?_⟩
  rw [List.getElem?_map] at hj
  obtain ⟨s, hs, rfl⟩ := Option.map_eq_some_iff.1 hj
  have hjl : j < ss.length := (List.getElem?_eq_some_iff.1 hs).1
  obtain ⟨b', off', e, hb, _, hc⟩ := h3 j hjl
  cases e
  rw [hs] at hc
  rw [add_plain]
  exact (hB.cell (p := ⟨b, off + j, none⟩) hb).trans hc
/-- The row that make has laid, as a block. -/
theorem made_block {W : World} {g n : Nat} {xs : List Value} {base : Nat} (h : W.ownsRow base 9 1 (.slice (some ⟨g, 0, none⟩) n n) n xs) : ∃ cur : List Value, cur.length = n ∧ W.heap[g]? = some (.cells cur.toArray 9 (0, 0)) := by
  obtain ⟨_, h | ⟨g', cap, cur, e1, _, e3, _, _, e6, _⟩⟩ := h
  · cases h.1
  · cases e1
    exact ⟨cur.toList, by simpa using e6, by simpa using e3⟩
theorem splice_whole {xs cur : List Value} (h : cur.length = xs.length) : splice cur 0 xs = xs := by
  simp [splice, h]
theorem strs_one (xs : List ByteArray) : ∀ v ∈ xs.map Value.string, v.oneCell' = true := by
  intro v hv
  obtain ⟨s, _, rfl⟩ := List.mem_map.1 hv
  rfl

/-- A whole copy: 'copy(zzc, names)', zzc just made. -/
theorem copy_strs {n0 : Nat} {A W : World} {g n cap : Nat} {a : Option Addr} {ss : List ByteArray} {cur : List Value} (hss : StrRow n0 A (.slice a n cap) ss) (hB : Below n0 A W) (hn : ss.length = n) (hc : cur.length = n) (hg : W.heap[g]? = some (.cells cur.toArray 9 (0, 0))) :
    ∃ W2, (∀ ty, (Builtin.copy_ #[22, 22] ty #[.slice (some ⟨g, 0, none⟩) n n, .slice a n cap]).run Tryf.prog W = .ok (goInt n) W2) ∧ W2.heap[g]? = some (.cells (ss.map Value.string).toArray 9 (0, 0)) ∧ Below g W W2 := by
  by_cases h0 : n = 0
  · subst h0
    have e1 : cur = [] := List.eq_nil_of_length_eq_zero hc
    have e2 : ss = [] := List.eq_nil_of_length_eq_zero hn
    subst e1 e2
    exact ⟨W, fun ty => run_copy_none W 22 22 ty 9 _ _ _ _ _ _ Tryf.underlying22 Tryf.size9 (by simp), hg, Below.refl _ _⟩
  · obtain ⟨_, ad, rfl, hsrc⟩ := hss.src hB none (by simp; omega)
    have hl : (ss.map Value.string).length = n := by simpa using hn
    refine ⟨_, fun ty => ?_, setRow_heap W g _ _ 9 _ hg, below_setRow (Below.refl g W) (Nat.le_refl _) _⟩
    have := run_copy_row (P := Tryf.prog) W 22 22 ty 9 g 0 n n ad n cap cur.toArray 9 (ss.map Value.string) Tryf.underlying22 Tryf.size9 hg (by rw [hl]; simp) hsrc (by simp; omega) (strs_one ss)
    rw [hl] at this
    rw [this]
    congr 2
    simp
    omega

/-! ### the headers of that name -/
def own9 (ns : List ByteArray) (p : ByteArray) (k : Nat) : List ByteArray := (ns.take k).filter fun x => x == p
def own10 (ns vs : List ByteArray) (p : ByteArray) (k : Nat) : List ByteArray := own ((ns.zip vs).take k) p
theorem own9_succ (ns : List ByteArray) (p : ByteArray) (k : Nat) (h : k < ns.length) : Hid (own9 ns p (k + 1) = own9 ns p k ++ (if (ns[k]?.getD ByteArray.empty) == p then [ns[k]?.getD ByteArray.empty] else [])) := by
  show _ = _
  unfold own9
  rw [List.take_succ_eq_append_getElem h, List.filter_append, List.getElem?_eq_getElem h]
  simp only [Option.getD_some, List.filter_cons, List.filter_nil]
theorem own10_succ (ns vs : List ByteArray) (p : ByteArray) (k : Nat) (h : k < ns.length) (hl : ns.length = vs.length) : Hid (own10 ns vs p (k + 1) = own10 ns vs p k ++ (if (ns[k]?.getD ByteArray.empty) == p then [vs[k]?.getD ByteArray.empty] else [])) := by
  show _ = _
  unfold own10
  rw [own_take _ p k (by simp; omega) hd0, (zip_get ns vs hl k h).1, (zip_get ns vs hl k h).2]
theorem own9_le (ns : List ByteArray) (p : ByteArray) (k : Nat) : (own9 ns p k).length ≤ k := by
  unfold own9
  exact Nat.le_trans (List.length_filter_le _ _) (by simp; omega)
theorem own10_le (ns vs : List ByteArray) (p : ByteArray) (k : Nat) : (own10 ns vs p k).length ≤ k := by
  unfold own10 own
  rw [List.length_map]
  exact Nat.le_trans (List.length_filter_le _ _) (by simp; omega)

/-- Two slices that lie apart. -/
def Apart (u v : Value) : Prop := u.ownBlock = none ∨ u.ownBlock ≠ v.ownBlock
theorem apart_symm {u v : Value} (h : u.ownBlock = none ∨ u.ownBlock ≠ v.ownBlock) : v.ownBlock = none ∨ v.ownBlock ≠ u.ownBlock := by
  by_cases e : v.ownBlock = none
  · exact .inl e
  · refine .inr fun e2 => ?_
    rcases h with h | h
    · exact e (e2.trans h)
    · exact h e2.symm
theorem apart_new {u u' v : Value} {n : Nat} (h : u.ownBlock = none ∨ u.ownBlock ≠ v.ownBlock) (hat : u'.ownBlock = u.ownBlock ∨ u'.ownBlock = some n) (hlt : ∀ j, v.ownBlock = some j → j < n) : u'.ownBlock = none ∨ u'.ownBlock ≠ v.ownBlock := by
  rcases hat with e | e
  · rw [e]; exact h
  · refine .inr fun e2 => ?_
    have := hlt n (e2.symm.trans e)
    omega

theorem StrRow.of_owns {base : Nat} {W : World} {v : Value} {xs : List ByteArray} (h : W.ownsRow base 9 1 v xs.length (xs.map Value.string)) (hs : ∀ s ∈ xs, s.size ≤ maxLen) : StrRow W.heap.size W v xs := by
  rcases h.2 with ⟨rfl, h0⟩ | ⟨g, cap, cur, rfl, _, hb, h1, h2, h3, h4⟩
  · have : xs = [] := List.length_eq_zero_iff.1 h0
    subst this
    exact ⟨none, 0, rfl, Nat.le_refl _, Nat.zero_le _, fun j hj => absurd hj (by simp)⟩
  · refine ⟨_, cap, rfl, h1, h2, fun j hj => ⟨g, 0, rfl, (Array.getElem?_eq_some_iff.1 hb).1, hs _ (by simp [hj]), ?_⟩⟩
    have e : cur.toList[j]? = some (.string xs[j]) := by
      have := congrArg (fun l => l[j]?) h4
      simp only [Nat.mul_one] at this
      rw [List.getElem?_take_of_lt hj, List.getElem?_map, List.getElem?_eq_getElem hj] at this
      simpa using this
    simp [World.cell?, hb, hj]
    simpa using e

/-- The record of the headers of that name alone has the same values. -/
theorem own_own (p : ByteArray) : ∀ (ns vs : List ByteArray), ns.length = vs.length → (ns.filter fun x => x == p).length = (own (ns.zip vs) p).length ∧ own ((ns.filter fun x => x == p).zip (own (ns.zip vs) p)) p = own (ns.zip vs) p
  | [], [], _ => ⟨rfl, rfl⟩
  | x :: ns, y :: vs, h => by
    obtain ⟨h1, h2⟩ := own_own p ns vs (by simpa using h)
    cases hx : (x == p)
    · have e : own ((x :: ns).zip (y :: vs)) p = own (ns.zip vs) p := by simp [own, hx]
      rw [e]
      simp only [List.filter_cons, hx]
      exact ⟨h1, h2⟩
    · have e : own ((x :: ns).zip (y :: vs)) p = y :: own (ns.zip vs) p := by simp [own, hx]
      rw [e]
      simp only [List.filter_cons, hx, if_true, List.zip_cons_cons, List.length_cons]
      refine ⟨by rw [h1], ?_⟩
      have e2 : ∀ l, own ((x, y) :: l) p = y :: own l p := fun l => by simp [own, hx]
      rw [e2, h2]
theorem own9_full (ns : List ByteArray) (p : ByteArray) : own9 ns p ns.length = ns.filter fun x => x == p := by simp [own9]
theorem own10_full (ns vs : List ByteArray) (p : ByteArray) (hl : ns.length = vs.length) : own10 ns vs p ns.length = own (ns.zip vs) p := by
  unfold own10
  rw [List.take_of_length_le (by simp; omega)]
theorem own_mem {hs : List Hdr} {p s : ByteArray} (h : s ∈ own hs p) : ∃ x, (x, s) ∈ hs := by
  obtain ⟨⟨x, y⟩, h1, rfl⟩ := List.mem_map.1 h
  exact ⟨x, (List.mem_filter.1 h1).1⟩

theorem ErrAt.mono {n0 n1 : Nat} {w : World} {a : Addr} {s : ByteArray} (h : ErrAt n0 w a s) (hn : n0 ≤ n1) : ErrAt n1 w a s :=
  ⟨Nat.lt_of_lt_of_le h.g0 hn, h.var, Nat.lt_of_lt_of_le h.lt hn, h.text⟩

theorem ErrIs.yes {b : Bool} {er : Value} (h : ErrIs b er) (hb : b = true) : IsErr er := by
  rcases h with ⟨_, h⟩ | ⟨e, _⟩
  · exact h
  · rw [hb] at e
    cases e
theorem ErrIs.no {b : Bool} {er : Value} (h : ErrIs b er) (hb : b = false) : er = .nilIface := by
  rcases h with ⟨e, _⟩ | ⟨_, h⟩
  · rw [hb] at e
    cases e
  · exact h

theorem neqNil (x : Option Addr) (n c : Nat) (w : World) : (binOp .neq 22 (.slice x n c) (.slice none 0 0)).run Tryf.prog w = .ok (.bool x.isSome) w := by
  cases x <;> kernel_rfl

set_option maxRecDepth 100000 in
set_option maxHeartbeats 4000000 in
theorem walk4 (F : Interp) (ae : Addr) (se : ByteArray) (v1 v2 : Value) (ns vs : List ByteArray) (p : ByteArray) (w : World) (hF : F.answers w.tape) (hE : ErrAt w.heap.size w ae se) (hns : StrRow w.heap.size w v1 ns) (hvs : StrRow w.heap.size w v2 vs) (hp : p.size ≤ maxLen) :
    Calls Tryf.prog 4 #[v1, v2, .string p] w fun e w' => e = .returned (.bool true) ∧ Below w.heap.size w w' := by
  obtain ⟨a, cap, rfl, h1, h2, h3⟩ := id hns
  obtain ⟨a2, cap2, rfl, g1, g2, g3⟩ := id hvs
  have hp' := hp
  unfold maxLen at hp'
  go_enter Tryf.func4, Tryf.ntmps4
  go_wp2_with fail
  refine (bytes10 w.heap.size w.heap.size _ _ ns vs p w hns hvs hp).mono ?_
  rintro e w ⟨rfl, r, rfl, hr⟩
  cases r
  · go_wp2_with fail
    go_ret
    exact ⟨rfl, Below.refl _ _⟩
  obtain ⟨hr1, hr2⟩ := hr rfl
  by_cases hpl : 1048576 < p.size
  · go_wp2_with fail
    go_ret
    exact ⟨rfl, Below.refl _ _⟩
  go_wp2_with fail
  refine (tooBig6 w.heap.size w.heap.size _ _ ns vs _ w hns hvs (by omega)).mono ?_
  rintro e w ⟨rfl, r, rfl, _⟩
  cases r
  case true =>
    go_wp2_with fail
    go_ret
    exact ⟨rfl, Below.refl _ _⟩
  by_cases hl : ns.length = vs.length
  case neg =>
    have hb : ((ns.length : Int) != (vs.length : Int)) = true := by rw [bne_iff_ne]; omega
    clear hl
    go_wp2_with fail
    go_ret
    exact ⟨rfl, Below.refl _ _⟩
  have hb : ((ns.length : Int) != (vs.length : Int)) = false := by simp; omega
  have HL : Hid (ns.length = vs.length) := hl
  clear hl
  obtain ⟨i0, hi, hz0, hz1, hz2⟩ := info_parts Tryf.info9
  have hneq := neqNil a ns.length cap
  have hneq2 := neqNil a2 vs.length cap2
  go_upto_if 36 with fail
  go_cut [0, 7] (fun s0 _ wc => ∃ a' cap', s0 = .slice a' ns.length cap' ∧ StrRow wc.heap.size wc (.slice a' ns.length cap') ns ∧ Below w.heap.size w wc)
  case first =>
    cases a with
    | none =>
      go_wp2_with fail
      go_meet
      case rel => exact ⟨_, _, rfl, hns, Below.refl _ _⟩
    | some ad =>
      have hsz := hns.sizes
      have hm1 : ns.length ≤ maxLen := by unfold maxLen; omega
      go_wp2_with (
        at_make
        refine wpList_make_full _ rfl _ _ 22 rfl w.heap.size 9 i0 (.string ⟨#[]⟩) 1 Tryf.underlying22 hi hz0 hz1 _ _ _ _ ns.length rfl rfl rfl rfl (by rw [hz2]; omega) (by unfold maxLen; omega) (Nat.le_refl _) ?_
        intro w1 hown hgrow
        obtain ⟨cur, hcl, hgb⟩ := made_block hown
        have hB1 : Below w.heap.size w w1 := (Below.refl _ _).grown hgrow (Nat.le_refl _) (fun k e => by cases e)
        obtain ⟨w2, hcopy, hg2, hB2⟩ := copy_strs hns hB1 rfl hcl hgb
        have HG2 : Hid (w2.heap[w.heap.size]? = some (.cells (ns.map Value.string).toArray 9 (0, 0))) := hg2
        have hB3 := hB1.trans hB2
        clear hown hgrow hgb hcl hg2 hB1 hB2)
      go_meet
      case rel =>
        exact ⟨_, _, rfl, StrRow.of_block HG2.out hsz hm1, hB3⟩
  case rest =>
    obtain ⟨a', cap', rfl, hns1, hB1⟩ := hcut
    have hvs1 := hvs.below hB1
    have hz1w := hB1.size
    have hsz1 := hns.sizes
    have hsz2 := hvs.sizes
    clear hns h3 g3
    generalize wc = wa at *
    go_upto_if 45 with fail
    go_cut [1, 8] (fun s1 _ wd => ∃ a' cap', s1 = .slice a' vs.length cap' ∧ StrRow wd.heap.size wd (.slice a' vs.length cap') vs ∧ Below wa.heap.size wa wd)
    case first =>
      cases a2 with
      | none =>
        go_wp2_with fail
        go_meet
        case rel => exact ⟨_, _, rfl, hvs1.mono hz1w, Below.refl _ _⟩
      | some ad =>
        have hsz := hvs.sizes
        have hm1 : vs.length ≤ maxLen := by unfold maxLen; omega
        go_wp2_with (
          at_make
          refine wpList_make_full _ rfl _ _ 22 rfl wa.heap.size 9 i0 (.string ⟨#[]⟩) 1 Tryf.underlying22 hi hz0 hz1 _ _ _ _ vs.length rfl rfl rfl rfl (by rw [hz2]; omega) (by unfold maxLen; omega) (Nat.le_refl _) ?_
          intro w1 hown hgrow
          obtain ⟨cur, hcl, hgb⟩ := made_block hown
          have hB4 : Below wa.heap.size wa w1 := (Below.refl _ _).grown hgrow (Nat.le_refl _) (fun k e => by cases e)
          obtain ⟨w2, hcopy, hg2, hB2⟩ := copy_strs hvs1 (hB4.mono hz1w) rfl hcl hgb
          have HG2 : Hid (w2.heap[wa.heap.size]? = some (.cells (vs.map Value.string).toArray 9 (0, 0))) := hg2
          have hB3 := hB4.trans hB2
          clear hown hgrow hgb hcl hg2 hB4 hB2)
        go_meet
        case rel => exact ⟨_, _, rfl, StrRow.of_block HG2.out hsz hm1, hB3⟩
    case rest =>
      clear hvs hvs1 hneq hneq2
      generalize wc = wb at *
      obtain ⟨b', capb', rfl, hvs2, hB2⟩ := hcut
      have hns2 := (hns1.below hB2).mono hB2.size
      have hBw : Below w.heap.size w wb := hB1.trans (hB2.mono hz1w)
      clear hns1 hB1 hB2 hz1w
      obtain ⟨_, _, e, h1, h2, h3⟩ := id hns2
      cases e
      obtain ⟨_, _, e, g1, g2, g3⟩ := id hvs2
      cases e
      unfold maxLen at h2 g2
      go_wp2_with fail
      go_loopw [9, 10, 11] (fun x9 x10 i wr => ∃ k : Nat, k ≤ ns.length ∧ i = .int .i64 k ∧ wr.ownsRow wb.heap.size 9 1 x9 (own9 ns p k).length ((own9 ns p k).map Value.string) ∧ wr.ownsRow wb.heap.size 9 1 x10 (own10 ns vs p k).length ((own10 ns vs p k).map Value.string) ∧ (x9.ownBlock = none ∨ x9.ownBlock ≠ x10.ownBlock) ∧ Below wb.heap.size wb wr) (fun _ _ i _ => ns.length - (intOf i).toNat)
      case atStart => exact ⟨0, Nat.zero_le _, rfl, World.ownsRow_nil _ _ _ _, World.ownsRow_nil _ _ _ _, .inl rfl, Below.refl _ _⟩
      case round =>
        obtain ⟨k, hk, rfl, hr9, hr10, hne, hB⟩ := hrel
        by_cases hlt : k < ns.length
        · obtain ⟨b1, o1, rfl, hb1, _, hc1⟩ := h3 k hlt
          obtain ⟨b2, o2, rfl, hb2, _, hc2⟩ := g3 k (by have := HL.out; omega)
          have hc1' : wr.cell? ⟨b1, o1 + k, none⟩ = some (.string (ns[k]?.getD ByteArray.empty)) := (hB.cell (p := ⟨b1, o1 + k, none⟩) hb1).trans hc1
          have hc2' : wr.cell? ⟨b2, o2 + k, none⟩ = some (.string (vs[k]?.getD ByteArray.empty)) := (hB.cell (p := ⟨b2, o2 + k, none⟩) hb2).trans hc2
          have HO := own9_succ ns p k hlt
          have HO2 := own10_succ ns vs p k hlt HL.out
          have hle9 := own9_le ns p k
          have hle10 := own10_le ns vs p k
          have HC2 : Hid (∀ V, Below wb.heap.size wb V → V.cell? ⟨b2, o2 + k, none⟩ = some (.string (vs[k]?.getD ByteArray.empty))) := fun V hV => (hV.cell (p := ⟨b2, o2 + k, none⟩) hb2).trans hc2
          clear hc1 hc2
          generalize ns[k]?.getD ByteArray.empty = hn at *
          generalize vs[k]?.getD ByteArray.empty = hv at *
          cases hq : (hn.toList == p.toList)
          · have hq' : (hn == p) = false := (beq_toListBytes hn p).trans hq
            rw [hq'] at HO HO2
            clear hq'
            go_wp2_with fail
            go_roundw
            case rel => exact ⟨k + 1, by omega, by go_num, by rw [HO.out]; simpa using hr9, by rw [HO2.out]; simpa using hr10, hne, hB⟩
            case measure => simp [intOf]; omega
          · have hq' : (hn == p) = true := (beq_toListBytes hn p).trans hq
            rw [hq'] at HO HO2
            clear hq'
            have hA := hr9
            have hsB := hB.size
            have hkv : k < vs.length := by have := HL.out; omega
            generalize own9 ns p k = l9 at *
            generalize own10 ns vs p k = l10 at *
            clear hr9
            go_wp2_with (first
              | (at_builtin
                 refine wpList_append_own_at _ rfl _ _ 22 rfl wb.heap.size 9 i0 (.string ⟨#[]⟩) 1 16 Tryf.underlying22 hi hz0 hz1 hz2 rfl (by decide) _ _ _ rfl (hA.alloc _) ⟨wr.heap.size, 0, none⟩ 1 1 [.string hn] rfl rfl (cell_one_new _ _ _) (strs_one [hn]) (by unfold maxLen; omega) (by omega) (by simp; omega) ?_
                 intro y9 w1 hown9 hgrow9 hnil9 hat9
                 have hr10b := (hr10.alloc (.cells #[.string hn] 9)).kept hgrow9 (apart_symm hne)
                 have hB1 := (hB.alloc hsB (.cells #[.string hn] 9)).grown hgrow9 (by simp; omega) (fun j e => (hA.lt j e).1)
                 have hs1 := hgrow9.size
                 have hd9 := apart_new hne hat9 (fun j e => by have := (hr10.lt j e).2; simp; omega)
                 have hc3 := HC2.out w1 hB1
                 clear hA hr10)
              | (at_builtin
                 refine wpList_append_own_at _ rfl _ _ 22 rfl wb.heap.size 9 i0 (.string ⟨#[]⟩) 1 16 Tryf.underlying22 hi hz0 hz1 hz2 rfl (by decide) _ _ _ rfl (hr10b.alloc _) ⟨w1.heap.size, 0, none⟩ 1 1 [.string hv] rfl rfl (cell_one_new _ _ _) (strs_one [hv]) (by unfold maxLen; omega) (by omega) (by simp at hs1 ⊢; omega) ?_
                 intro y10 w2 hown10 hgrow10 hnil10 hat10))
            go_roundw
            case rel =>
              refine ⟨k + 1, by omega, by go_num, ?_, ?_, ?_, ?_⟩
              · rw [HO.out]
                simpa using (hown9.alloc (.cells #[.string hv] 9)).kept hgrow10 hd9
              · rw [HO2.out]
                simpa using hown10
              · exact apart_symm (apart_new (apart_symm hd9) hat10 (fun j e => by have := (hown9.lt j e).2; simp; omega))
              · exact (hB1.alloc hB1.size (.cells #[.string hv] 9)).grown hgrow10 (by have := hB1.size; simp; omega) (fun j e => (hr10b.lt j e).1)
            case measure => simp [intOf]; omega
        · have hke : k = ns.length := by omega
          subst hke
          obtain ⟨hlen, hoo⟩ := own_own p ns vs HL.out
          rw [own9_full] at hr9
          rw [own10_full ns vs p HL.out] at hr10
          have hR9 := StrRow.of_owns hr9 (fun s hs => hsz1 s (List.mem_filter.1 hs).1)
          have hR10 := StrRow.of_owns hr10 (fun s hs => by obtain ⟨x, hx⟩ := own_mem hs; exact hsz2 s (List.of_mem_zip hx).2)
          have hns3 := hns2.below hB
          have hvs3 := hvs2.below hB
          have hz := hB.size
          have hBw3 : Below w.heap.size w wr := hBw.trans (hB.mono hBw.size)
          have HO : Hid (own ((ns.filter fun x => x == p).zip (own (ns.zip vs) p)) p = own (ns.zip vs) p) := hoo
          have HN : Hid ((ns.filter fun x => x == p).length = (own (ns.zip vs) p).length) := hlen
          have hle9 : (ns.filter fun x => x == p).length ≤ 1048577 := by have := List.length_filter_le (fun x => x == p) ns; omega
          clear hr9 hr10 hne hB hns2 hvs2 hBw hsz1 hsz2 hoo h3 g3 hlen
          obtain ⟨a9, c9, rfl, _⟩ := id hR9
          obtain ⟨a10, c10, rfl, _⟩ := id hR10
          go_wp2_with fail
          refine (newRec9 wb.heap.size _ _ ns vs wr hz hns3 hvs3 HL.out (by omega)).mono ?_
          rintro e w1 ⟨br, rfl, hB1, hRec⟩
          have hBw4 : Below w.heap.size w w1 := hBw3.trans (hB1.mono hBw3.size)
          have hF1 : F.answers w1.tape := hBw4.tape ▸ hF
          have hE1 : ErrAt w1.heap.size w1 ae se := (hE.below hBw4).mono hBw4.size
          replace hR9 := (hR9.below hB1).mono hB1.size
          replace hR10 := (hR10.below hB1).mono hB1.size
          clear hns3 hvs3 hBw3 hz hB1
          generalize wr = wa at *
          go_wp2_with fail
          refine (zzflag8 F w1.heap.size br ae se p _ w1 hF1 (Nat.le_refl _) hE1 hRec).mono ?_
          rintro e w2 ⟨hB2, er, her, rfl⟩
          generalize ns.filter (fun x => x == p) = l9 at *
          generalize own (ns.zip vs) p = l10 at *
          have hBw5 : Below w.heap.size w w2 := hBw4.trans (hB2.mono hBw4.size)
          have hF2 : F.answers w2.tape := hBw5.tape ▸ hF
          have hE2 : ErrAt w2.heap.size w2 ae se := (hE.below hBw5).mono hBw5.size
          replace hR9 := (hR9.below hB2).mono hB2.size
          replace hR10 := (hR10.below hB2).mono hB2.size
          clear hBw4 hB2 hRec
          obtain ⟨bq, HB⟩ : ∃ b, Hid (flagB l10 = b) := ⟨_, rfl⟩
          rw [HB.out]
          go_wp2_with fail
          refine (newRec9 w2.heap.size _ _ l9 l10 w2 (Nat.le_refl _) hR9 hR10 HN.out hle9).mono ?_
          rintro e w3 ⟨br2, rfl, hB3, hRec⟩
          have hBw6 : Below w.heap.size w w3 := hBw5.trans (hB3.mono hBw5.size)
          have hF3 : F.answers w3.tape := hBw6.tape ▸ hF
          have hE3 : ErrAt w3.heap.size w3 ae se := (hE.below hBw6).mono hBw6.size
          replace hR10 := (hR10.below hB3).mono hB3.size
          clear hBw5 hB3 hE2 hF2 hR9
          go_wp2_with fail
          refine (zzflag8 F w3.heap.size br2 ae se p _ w3 hF3 (Nat.le_refl _) hE3 hRec).mono ?_
          rintro e w4 ⟨hB4, er2, her2, rfl⟩
          rw [HO.out] at her2 ⊢
          rw [HB.out]
          have hBw7 : Below w.heap.size w w4 := hBw6.trans (hB4.mono hBw6.size)
          replace hR10 := (hR10.below hB4).mono hB4.size
          clear hBw6 hB4 hE3 hF3 hRec hE1 hF1
          match l10, her, her2, HB, hR10 with
          | [], her, her2, HB, hR10 =>
            have hb := HB.out.symm
            obtain rfl := her.no rfl
            obtain rfl := her2.no rfl
            subst hb
            go_wp2
            go_quiet (fail)
            go_wp2
            go_ret
            exact ⟨rfl, hBw7.trans ⟨rfl, rfl, rfl, Nat.le_refl _, fun _ _ => rfl⟩⟩
          | x :: y :: r, her, her2, HB, hR10 =>
            have hb := HB.out.symm
            obtain ⟨pe, rfl⟩ := her.yes rfl
            obtain ⟨pe2, rfl⟩ := her2.yes rfl
            subst hb
            go_wp2
            go_quiet (fail)
            go_wp2
            go_ret
            exact ⟨rfl, hBw7.trans ⟨rfl, rfl, rfl, Nat.le_refl _, fun _ _ => rfl⟩⟩
          | [v], her, her2, HB, hR10 =>
            obtain ⟨_, _, e, _, _, hcell⟩ := hR10
            cases e
            obtain ⟨b, off, rfl, _, _, hc⟩ := hcell 0 (by simp)
            have hc' : w4.cell? ⟨b, off, none⟩ = some (.string v) := hc
            have hb := HB.out.symm
            cases hf : isFalse v
            · cases ht : isTrue v
              · obtain ⟨pe, rfl⟩ := her.yes (by show (!isTrue v && !isFalse v) = true; rw [ht, hf]; rfl)
                obtain ⟨pe2, rfl⟩ := her2.yes (by show (!isTrue v && !isFalse v) = true; rw [ht, hf]; rfl)
                have hbq : bq = false := hb.trans ht
                unfold isTrue at ht
                unfold isFalse at hf
                subst hbq
                clear hb her her2 hcell hc
                go_wp2
                go_quiet (fail)
                go_wp2
                go_ret
                exact ⟨rfl, hBw7.trans ⟨rfl, rfl, rfl, Nat.le_refl _, fun _ _ => rfl⟩⟩
              · obtain rfl := her.no (by show (!isTrue v && !isFalse v) = false; rw [ht]; rfl)
                obtain rfl := her2.no (by show (!isTrue v && !isFalse v) = false; rw [ht]; rfl)
                have hbq : bq = true := hb.trans ht
                unfold isTrue at ht
                subst hbq
                clear hb her her2 hcell hc hf
                go_wp2
                go_quiet (fail)
                go_wp2
                go_ret
                exact ⟨rfl, hBw7.trans ⟨rfl, rfl, rfl, Nat.le_refl _, fun _ _ => rfl⟩⟩
            · have ht := true_not_false hf
              obtain rfl := her.no (by show (!isTrue v && !isFalse v) = false; rw [hf]; simp)
              obtain rfl := her2.no (by show (!isTrue v && !isFalse v) = false; rw [hf]; simp)
              have hbq : bq = false := hb.trans ht
              unfold isTrue at ht
              unfold isFalse at hf
              subst hbq
              clear hb her her2 hcell hc
              go_wp2
              go_quiet (fail)
              go_wp2
              go_ret
              exact ⟨rfl, hBw7.trans ⟨rfl, rfl, rfl, Nat.le_refl _, fun _ _ => rfl⟩⟩
end Go.Proofs.Qxb6614988aFmt
