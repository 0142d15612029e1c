import Derived.Test.Qxb6614988aDoorRows
import Derived.WalkKit
import Derived.ProofKit
import Derived.Below
import Derived.Laws.CopyOwn
import Derived.Deep.DeepCutAuto
import Derived.Maps.AppendAt
import Derived.Deep.QuietTactic
import Derived.BigQuiet
import Derived.BigRegion
import Derived.RangeFuncRecord
namespace Go.Proofs.Qxb6614988aDoor
open Go.RowKit Go.WideShapes

/-- A slice value of strings, each in a block below n0. -/
def StrRow (n0 : Nat) (W : World) (v : Value) (ss : List ByteArray) : Prop :=
  ∃ a cap, v = .slice a ss.length cap ∧ ss.length ≤ cap ∧ cap ≤ maxLen ∧
    ∀ j, j < ss.length → ∃ b off, a = some ⟨b, off, none⟩ ∧ b < n0 ∧ (ss[j]?.getD ByteArray.empty).size ≤ maxLen ∧ W.cell? ⟨b, off + j, none⟩ = some (.string (ss[j]?.getD ByteArray.empty))
theorem StrRow.below {n0 : Nat} {A B : World} (h : Below n0 A B) {v : Value} {ss : List ByteArray} (hs : StrRow n0 A v ss) : StrRow n0 B v ss := by
  obtain ⟨a, cap, rfl, h1, h2, h3⟩ := hs
  refine ⟨a, cap, rfl, h1, h2, fun j hj => ?_⟩
  obtain ⟨b, off, rfl, hb, hs, hc⟩ := h3 j hj
  exact ⟨b, off, rfl, hb, hs, (h.cell (p := ⟨b, off + j, none⟩) hb).trans hc⟩
theorem StrRow.mono {n0 n1 : Nat} {W : World} {v : Value} {ss : List ByteArray} (h : n0 ≤ n1) (hs : StrRow n0 W v ss) : StrRow n1 W v ss := by
  obtain ⟨a, cap, rfl, h1, h2, h3⟩ := hs
  refine ⟨a, cap, rfl, h1, h2, fun j hj => ?_⟩
  obtain ⟨b, off, rfl, hb, hs, hc⟩ := h3 j hj
  exact ⟨b, off, rfl, by omega, hs, hc⟩

/-- Some bool is handed back; where it is true, q. (Kept behind a name: the walk would take it apart.) -/
def SomeBool (e : Ending) (q : Prop) : Prop := ∃ r : Bool, e = .returned (.bool r) ∧ (r = true → q)
theorem SomeBool.no {q : Prop} {v : Value} (h : v = .bool false) : SomeBool (.returned v) q := ⟨false, by rw [h], by simp⟩
theorem SomeBool.yes {q : Prop} {v : Value} (h : v = .bool true) (hq : q) : SomeBool (.returned v) q := ⟨true, by rw [h], fun _ => hq⟩

set_option maxRecDepth 100000 in
set_option maxHeartbeats 2000000 in
theorem bytes5 (n0 n1 : Nat) (v1 v2 : Value) (ns vs : List ByteArray) (pa : Option Addr) (pn pc : Nat) (hp ht : Bool) (tl : Int) (w : World) (hns : StrRow n0 w v1 ns) (hvs : StrRow n1 w v2 vs) (hpn : pn ≤ maxLen) :
    Calls Tryd.prog 5 #[v1, v2, .slice pa pn pc, .bool hp, .int .i64 tl, .bool ht] w fun e w' => w' = w ∧ SomeBool e (ns.length ≤ 1048576 ∧ vs.length ≤ 1048576) := by
  obtain ⟨a, cap, rfl, h1, h2, h3⟩ := hns
  obtain ⟨a2, cap2, rfl, g1, g2, g3⟩ := hvs
  unfold maxLen at *
  by_cases hlen : 1048576 < ns.length
  · go_enter Tryd.func5, Tryd.ntmps5
    go_wp2
    go_ret
    exact ⟨rfl, .no rfl⟩
  go_enter Tryd.func5, Tryd.ntmps5
  go_wp2
  go_loop [13, 14] (fun t i => ∃ (k : Nat) (n : Int), k ≤ ns.length ∧ i = .int .i64 k ∧ t = .int .i64 n ∧ 0 ≤ n ∧ n ≤ 1048576) (fun _ i => ns.length - (intOf i).toNat)
  case atStart => exact ⟨0, _, Nat.zero_le _, rfl, rfl, by omega, by omega⟩
  case round =>
    obtain ⟨k, n, hk, rfl, rfl, hn0, hn1⟩ := hrel
    by_cases hlt : k < ns.length
    · obtain ⟨b, off, rfl, hb, hs, hc⟩ := h3 k hlt
      generalize ns[k]?.getD ByteArray.empty = s at *
      go_wp2
      · go_ret
        exact ⟨rfl, .no rfl⟩
      · go_ret
        exact ⟨rfl, .no rfl⟩
      · go_round
        case rel => exact ⟨k + 1, _, by omega, by go_num, rfl, by omega, by omega⟩
        case measure => simp [intOf]; omega
    · clear h3
      go_wp2
      · go_ret
        exact ⟨rfl, .no rfl⟩
      · go_ret
        exact ⟨rfl, .no rfl⟩
      go_loop [13, 15] (fun t i => ∃ (k : Nat) (n : Int), k ≤ vs.length ∧ i = .int .i64 k ∧ t = .int .i64 n ∧ 0 ≤ n ∧ n ≤ 1048576) (fun _ i => vs.length - (intOf i).toNat)
      case atStart => exact ⟨0, _, Nat.zero_le _, rfl, rfl, by omega, by omega⟩
      case round =>
        obtain ⟨k, n, hk, rfl, rfl, hn0, hn1⟩ := hrel
        by_cases hlt : k < vs.length
        · obtain ⟨b, off, rfl, hb, hs, hc⟩ := g3 k hlt
          generalize vs[k]?.getD ByteArray.empty = s at *
          go_wp2
          · go_ret
            exact ⟨rfl, .no rfl⟩
          · go_ret
            exact ⟨rfl, .no rfl⟩
          · go_round
            case rel => exact ⟨k + 1, _, by omega, by go_num, rfl, by omega, by omega⟩
            case measure => simp [intOf]; omega
        · clear g3
          go_wp2
          all_goals
            go_ret
            exact ⟨rfl, by first | exact .no rfl | exact .yes rfl ⟨by omega, by omega⟩⟩

set_option maxRecDepth 100000 in
set_option maxHeartbeats 2000000 in
theorem bytes14 (n0 n1 : Nat) (v1 v2 : Value) (ns vs : List ByteArray) (pa qa : Option Addr) (pn pc qn qc : Nat) (hp ht : Bool) (tl ul : Int) (w : World) (hns : StrRow n0 w v1 ns) (hvs : StrRow n1 w v2 vs) (hpn : pn ≤ maxLen) (hqn : qn ≤ maxLen) :
    Calls Tryd.prog 14 #[v1, v2, .slice pa pn pc, .int .i64 tl, .slice qa qn qc, .int .i64 ul, .bool hp, .bool ht] w fun e w' => w' = w ∧ SomeBool e (ns.length ≤ 1048576 ∧ vs.length ≤ 1048576) := by
  obtain ⟨a, cap, rfl, h1, h2, h3⟩ := hns
  obtain ⟨a2, cap2, rfl, g1, g2, g3⟩ := hvs
  unfold maxLen at *
  by_cases hlen : 1048576 < ns.length
  · go_enter Tryd.func14, Tryd.ntmps14
    go_wp2
    go_ret
    exact ⟨rfl, .no rfl⟩
  go_enter Tryd.func14, Tryd.ntmps14
  go_wp2
  go_loop [17, 18] (fun t i => ∃ (k : Nat) (n : Int), k ≤ ns.length ∧ i = .int .i64 k ∧ t = .int .i64 n ∧ 0 ≤ n ∧ n ≤ 1048576) (fun _ i => ns.length - (intOf i).toNat)
  case atStart => exact ⟨0, _, Nat.zero_le _, rfl, rfl, by omega, by omega⟩
  case round =>
    obtain ⟨k, n, hk, rfl, rfl, hn0, hn1⟩ := hrel
    by_cases hlt : k < ns.length
    · obtain ⟨b, off, rfl, hb, hs, hc⟩ := h3 k hlt
      generalize ns[k]?.getD ByteArray.empty = s at *
      go_wp2
      · go_ret
        exact ⟨rfl, .no rfl⟩
      · go_ret
        exact ⟨rfl, .no rfl⟩
      · go_round
        case rel => exact ⟨k + 1, _, by omega, by go_num, rfl, by omega, by omega⟩
        case measure => simp [intOf]; omega
    · clear h3
      go_wp2
      · go_ret
        exact ⟨rfl, .no rfl⟩
      · go_ret
        exact ⟨rfl, .no rfl⟩
      go_loop [17, 19] (fun t i => ∃ (k : Nat) (n : Int), k ≤ vs.length ∧ i = .int .i64 k ∧ t = .int .i64 n ∧ 0 ≤ n ∧ n ≤ 1048576) (fun _ i => vs.length - (intOf i).toNat)
      case atStart => exact ⟨0, _, Nat.zero_le _, rfl, rfl, by omega, by omega⟩
      case round =>
        obtain ⟨k, n, hk, rfl, rfl, hn0, hn1⟩ := hrel
        by_cases hlt : k < vs.length
        · obtain ⟨b, off, rfl, hb, hs, hc⟩ := g3 k hlt
          generalize vs[k]?.getD ByteArray.empty = s at *
          go_wp2
          · go_ret
            exact ⟨rfl, .no rfl⟩
          · go_ret
            exact ⟨rfl, .no rfl⟩
          · go_round
            case rel => exact ⟨k + 1, _, by omega, by go_num, rfl, by omega, by omega⟩
            case measure => simp [intOf]; omega
        · clear g3
          go_wp2
          all_goals
            go_ret
            exact ⟨rfl, by first | exact .no rfl | exact .yes rfl ⟨by omega, by omega⟩⟩

set_option maxRecDepth 100000 in
set_option maxHeartbeats 2000000 in
theorem tooBig6 (n0 n1 : Nat) (v1 v2 : Value) (ns vs : List ByteArray) (c : Int) (w : World) (hns : StrRow n0 w v1 ns) (hvs : StrRow n1 w v2 vs) (hc0 : 0 ≤ c) :
    Calls Tryd.prog 6 #[v1, v2, .int .i64 c] w fun e w' => w' = w ∧ SomeBool e True := by
  obtain ⟨a, cap, rfl, h1, h2, h3⟩ := hns
  obtain ⟨a2, cap2, rfl, g1, g2, g3⟩ := hvs
  unfold maxLen at *
  by_cases hlen : 1048576 < c
  · go_enter Tryd.func6, Tryd.ntmps6
    go_wp2
    go_ret
    exact ⟨rfl, .yes rfl trivial⟩
  go_enter Tryd.func6, Tryd.ntmps6
  go_wp2
  go_loop [7, 8] (fun t i => ∃ (k : Nat) (n : Int), k ≤ ns.length ∧ i = .int .i64 k ∧ t = .int .i64 n ∧ 0 ≤ n ∧ n ≤ 1048576) (fun _ i => ns.length - (intOf i).toNat)
  case atStart => exact ⟨0, _, Nat.zero_le _, rfl, rfl, by omega, by omega⟩
  case round =>
    obtain ⟨k, n, hk, rfl, rfl, hn0, hn1⟩ := hrel
    by_cases hlt : k < ns.length
    · obtain ⟨b, off, rfl, hb, hs, hc⟩ := h3 k hlt
      generalize ns[k]?.getD ByteArray.empty = s at *
      go_wp2
      · go_ret
        exact ⟨rfl, .yes rfl trivial⟩
      · go_ret
        exact ⟨rfl, .yes rfl trivial⟩
      · go_round
        case rel => exact ⟨k + 1, _, by omega, by go_num, rfl, by omega, by omega⟩
        case measure => simp [intOf]; omega
    · clear h3
      go_wp2
      go_loop [7, 9] (fun t i => ∃ (k : Nat) (n : Int), k ≤ vs.length ∧ i = .int .i64 k ∧ t = .int .i64 n ∧ 0 ≤ n ∧ n ≤ 1048576) (fun _ i => vs.length - (intOf i).toNat)
      case atStart => exact ⟨0, _, Nat.zero_le _, rfl, rfl, by omega, by omega⟩
      case round =>
        obtain ⟨k, n, hk, rfl, rfl, hn0, hn1⟩ := hrel
        by_cases hlt : k < vs.length
        · obtain ⟨b, off, rfl, hb, hs, hc⟩ := g3 k hlt
          generalize vs[k]?.getD ByteArray.empty = s at *
          go_wp2
          · go_ret
            exact ⟨rfl, .yes rfl trivial⟩
          · go_ret
            exact ⟨rfl, .yes rfl trivial⟩
          · go_round
            case rel => exact ⟨k + 1, _, by omega, by go_num, rfl, by omega, by omega⟩
            case measure => simp [intOf]; omega
        · clear g3
          go_wp2
          all_goals
            go_ret
            exact ⟨rfl, .no rfl⟩
theorem Tryd.info9 : (Tryd.prog.info? 9).map (fun i => (i.zero, i.size, i.bytes)) = some (some (.string ⟨#[]⟩), 1, 16) := by kernel_rfl
theorem Tryd.size9 : (Tryd.prog.info? 9).map (·.size) = some 1 := by kernel_rfl

theorem StrRow.sizes {n0 : Nat} {W : World} {v : Value} {ss : List ByteArray} (h : StrRow n0 W v ss) : ∀ s ∈ ss, s.size ≤ maxLen := by
  obtain ⟨a, cap, rfl, h1, h2, h3⟩ := h
  intro s hs
  obtain ⟨j, hj, rfl⟩ := List.getElem_of_mem hs
  obtain ⟨_, _, _, _, h7, _⟩ := h3 j hj
  simpa [hj] using h7
/-- A new block of strings, as a row. -/
theorem StrRow.of_block {W : World} {g : Nat} {xs : List ByteArray} (hb : W.heap[g]? = some (.cells (xs.map Value.string).toArray 9 (0, 0))) (hs : ∀ s ∈ xs, s.size ≤ maxLen) (hm : xs.length ≤ maxLen) : StrRow W.heap.size W (.slice (some ⟨g, 0, none⟩) xs.length xs.length) xs := by
  refine ⟨_, _, rfl, Nat.le_refl _, hm, fun j hj => ⟨g, 0, rfl, (Array.getElem?_eq_some_iff.1 hb).1, hs _ (by simp [hj]), ?_⟩⟩
  simp [World.cell?, hb, hj]
/-- What a copy of the whole row needs to know of its source. -/
theorem StrRow.src {n0 : Nat} {A W : World} {a : Option Addr} {len cap : Nat} {ss : List ByteArray} (h : StrRow n0 A (.slice a len cap) ss) (hB : Below n0 A W) (dp : Option Addr) (hpos : 0 < (ss.map Value.string).length) :
    dp = dp ∧ ∃ ad, a = some ad ∧ ∀ j v, (ss.map Value.string)[j]? = some v → W.cell? (ad.add j) = some v := by
  obtain ⟨a', cap', e, h1, h2, h3⟩ := h
  cases e
  have h0 : 0 < ss.length := by simpa using hpos
  obtain ⟨b, off, rfl, _⟩ := h3 0 h0
  refine ⟨rfl, _, rfl, fun j v hj => ?_⟩
  rw [List.getElem?_map] at hj
  obtain ⟨s, hs, rfl⟩ := Option.map_eq_some_iff.1 hj
  have hjl : j < ss.length := (List.getElem?_eq_some_iff.1 hs).1
  obtain ⟨b', off', e, hb, _, hc⟩ := h3 j hjl
  cases e
  rw [hs] at hc
  rw [add_plain]
  exact (hB.cell (p := ⟨b, off + j, none⟩) hb).trans hc
/-- The row that make has laid, as a block. -/
theorem made_block {W : World} {g n : Nat} {xs : List Value} {base : Nat} (h : W.ownsRow base 9 1 (.slice (some ⟨g, 0, none⟩) n n) n xs) : ∃ cur : List Value, cur.length = n ∧ W.heap[g]? = some (.cells cur.toArray 9 (0, 0)) := by
  obtain ⟨_, h | ⟨g', cap, cur, e1, _, e3, _, _, e6, _⟩⟩ := h
  · cases h.1
  · cases e1
    exact ⟨cur.toList, by simpa using e6, by simpa using e3⟩
theorem splice_whole {xs cur : List Value} (h : cur.length = xs.length) : splice cur 0 xs = xs := by
  simp [splice, h]
theorem strs_one (xs : List ByteArray) : ∀ v ∈ xs.map Value.string, v.oneCell' = true := by
  intro v hv
  obtain ⟨s, _, rfl⟩ := List.mem_map.1 hv
  rfl

/-- A whole copy: 'copy(zzc, names)', zzc just made. -/
theorem copy_strs {n0 : Nat} {A W : World} {g n cap : Nat} {a : Option Addr} {ss : List ByteArray} {cur : List Value} (hss : StrRow n0 A (.slice a n cap) ss) (hB : Below n0 A W) (hn : ss.length = n) (hc : cur.length = n) (hg : W.heap[g]? = some (.cells cur.toArray 9 (0, 0))) :
    ∃ W2, (∀ ty, (Builtin.copy_ #[22, 22] ty #[.slice (some ⟨g, 0, none⟩) n n, .slice a n cap]).run Tryd.prog W = .ok (goInt n) W2) ∧ W2.heap[g]? = some (.cells (ss.map Value.string).toArray 9 (0, 0)) ∧ Below g W W2 := by
  by_cases h0 : n = 0
  · subst h0
    have e1 : cur = [] := List.eq_nil_of_length_eq_zero hc
    have e2 : ss = [] := List.eq_nil_of_length_eq_zero hn
    subst e1 e2
    exact ⟨W, fun ty => run_copy_none W 22 22 ty 9 _ _ _ _ _ _ Tryd.underlying22 Tryd.size9 (by simp), hg, Below.refl _ _⟩
  · obtain ⟨_, ad, rfl, hsrc⟩ := hss.src hB none (by simp; omega)
    have hl : (ss.map Value.string).length = n := by simpa using hn
    refine ⟨_, fun ty => ?_, setRow_heap W g _ _ 9 _ hg, below_setRow (Below.refl g W) (Nat.le_refl _) _⟩
    have := run_copy_row (P := Tryd.prog) W 22 22 ty 9 g 0 n n ad n cap cur.toArray 9 (ss.map Value.string) Tryd.underlying22 Tryd.size9 hg (by rw [hl]; simp) hsrc (by simp; omega) (strs_one ss)
    rw [hl] at this
    rw [this]
    congr 2
    simp
    omega

/-! ### the headers of that name -/
def own9 (ns : List ByteArray) (p : ByteArray) (k : Nat) : List ByteArray := (ns.take k).filter fun x => x == p
theorem own9_succ (ns : List ByteArray) (p : ByteArray) (k : Nat) (h : k < ns.length) : Hid (own9 ns p (k + 1) = own9 ns p k ++ (if (ns[k]?.getD ByteArray.empty) == p then [ns[k]?.getD ByteArray.empty] else [])) := by
  show _ = _
  unfold own9
  rw [List.take_succ_eq_append_getElem h, List.filter_append, List.getElem?_eq_getElem h]
  simp only [Option.getD_some, List.filter_cons, List.filter_nil]
theorem own9_le (ns : List ByteArray) (p : ByteArray) (k : Nat) : (own9 ns p k).length ≤ k := by
  unfold own9
  exact Nat.le_trans (List.length_filter_le _ _) (by simp; omega)
/-- Two slices that lie apart. -/
def Apart (u v : Value) : Prop := u.ownBlock = none ∨ u.ownBlock ≠ v.ownBlock
theorem apart_symm {u v : Value} (h : u.ownBlock = none ∨ u.ownBlock ≠ v.ownBlock) : v.ownBlock = none ∨ v.ownBlock ≠ u.ownBlock := by
  by_cases e : v.ownBlock = none
  · exact .inl e
  · refine .inr fun e2 => ?_
    rcases h with h | h
    · exact e (e2.trans h)
    · exact h e2.symm
theorem apart_new {u u' v : Value} {n : Nat} (h : u.ownBlock = none ∨ u.ownBlock ≠ v.ownBlock) (hat : u'.ownBlock = u.ownBlock ∨ u'.ownBlock = some n) (hlt : ∀ j, v.ownBlock = some j → j < n) : u'.ownBlock = none ∨ u'.ownBlock ≠ v.ownBlock := by
  rcases hat with e | e
  · rw [e]; exact h
  · refine .inr fun e2 => ?_
    have := hlt n (e2.symm.trans e)
    omega

theorem StrRow.of_owns {base : Nat} {W : World} {v : Value} {xs : List ByteArray} (h : W.ownsRow base 9 1 v xs.length (xs.map Value.string)) (hs : ∀ s ∈ xs, s.size ≤ maxLen) : StrRow W.heap.size W v xs := by
  rcases h.2 with ⟨rfl, h0⟩ | ⟨g, cap, cur, rfl, _, hb, h1, h2, h3, h4⟩
  · have : xs = [] := List.length_eq_zero_iff.1 h0
    subst this
    exact ⟨none, 0, rfl, Nat.le_refl _, Nat.zero_le _, fun j hj => absurd hj (by simp)⟩
  · refine ⟨_, cap, rfl, h1, h2, fun j hj => ⟨g, 0, rfl, (Array.getElem?_eq_some_iff.1 hb).1, hs _ (by simp [hj]), ?_⟩⟩
    have e : cur.toList[j]? = some (.string xs[j]) := by
      have := congrArg (fun l => l[j]?) h4
      simp only [Nat.mul_one] at this
      rw [List.getElem?_take_of_lt hj, List.getElem?_map, List.getElem?_eq_getElem hj] at this
      simpa using this
    simp [World.cell?, hb, hj]
    simpa using e

theorem own9_full (ns : List ByteArray) (p : ByteArray) : own9 ns p ns.length = ns.filter fun x => x == p := by simp [own9]
theorem neqNil (x : Option Addr) (n c : Nat) (w : World) : (binOp .neq 22 (.slice x n c) (.slice none 0 0)).run Tryd.prog w = .ok (.bool x.isSome) w := by
  cases x <;> kernel_rfl

set_option maxRecDepth 100000 in
set_option maxHeartbeats 2000000 in
theorem count8 (n0 : Nat) (v1 : Value) (ns : List ByteArray) (p : ByteArray) (w : World) (hns : StrRow n0 w v1 ns) (hN : ns.length ≤ 1048576) :
    Calls Tryd.prog 8 #[v1, .string p] w fun e w' => w' = w ∧ e = .returned (.int .i64 ((ns.filter fun x => x == p).length : Nat)) := by
  obtain ⟨a, cap, rfl, h1, h2, h3⟩ := hns
  go_enter Tryd.func8, Tryd.ntmps8
  go_wp2
  go_loop [5, 6] (fun t i => ∃ k : Nat, k ≤ ns.length ∧ i = .int .i64 k ∧ t = .int .i64 ((own9 ns p k).length : Nat)) (fun _ i => ns.length - (intOf i).toNat)
  case atStart => exact ⟨0, Nat.zero_le _, rfl, rfl⟩
  case round =>
    obtain ⟨k, hk, rfl, rfl⟩ := hrel
    have hle := own9_le ns p k
    by_cases hlt : k < ns.length
    · obtain ⟨b, off, rfl, hb, hs, hc⟩ := h3 k hlt
      have HO := own9_succ ns p k hlt
      clear hs h3
      generalize ns[k]?.getD ByteArray.empty = hn at *
      have HL := congrArg List.length HO.out
      rw [List.length_append] at HL
      have HL' : Hid ((own9 ns p (k + 1)).length = (own9 ns p k).length + (if (hn == p) = true then [hn] else []).length) := HL
      clear HL HO
      generalize (own9 ns p k).length = n at *
      cases hq : (hn.toList == p.toList)
      · have hq' : (hn == p) = false := (beq_toListBytes hn p).trans hq
        rw [hq'] at HL'
        clear hq'
        go_wp2
        go_round
        case rel => exact ⟨k + 1, by omega, by go_num, by rw [HL'.out]; simp⟩
        case measure => simp [intOf]; omega
      · have hq' : (hn == p) = true := (beq_toListBytes hn p).trans hq
        rw [hq'] at HL'
        clear hq'
        go_wp2
        go_round
        case rel => exact ⟨k + 1, by omega, by go_num, by rw [HL'.out]; simp⟩
        case measure => simp [intOf]; omega
    · have hke : k = ns.length := by omega
      subst hke
      rw [own9_full]
      clear h3
      go_wp2
      go_ret
      exact ⟨rfl, rfl⟩

end Go.Proofs.Qxb6614988aDoor
