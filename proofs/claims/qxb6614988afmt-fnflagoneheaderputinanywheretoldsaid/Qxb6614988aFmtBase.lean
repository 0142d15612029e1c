import Derived.Test.Qxb6614988aFmtRows
import Derived.WalkKit
import Derived.ProofKit
import Derived.Below
namespace Go.Proofs.Qxb6614988aFmt
open Go.RowKit

/-- A slice value of strings, each in a block below n0. -/
def StrRow (n0 : Nat) (W : World) (v : Value) (ss : List ByteArray) : Prop :=
  ∃ a cap, v = .slice a ss.length cap ∧ ss.length ≤ cap ∧ cap ≤ maxLen ∧
    ∀ j, j < ss.length → ∃ b off, a = some ⟨b, off, none⟩ ∧ b < n0 ∧ (ss[j]?.getD ByteArray.empty).size ≤ maxLen ∧ W.cell? ⟨b, off + j, none⟩ = some (.string (ss[j]?.getD ByteArray.empty))
theorem StrRow.below {n0 : Nat} {A B : World} (h : Below n0 A B) {v : Value} {ss : List ByteArray} (hs : StrRow n0 A v ss) : StrRow n0 B v ss := by
  obtain ⟨a, cap, rfl, h1, h2, h3⟩ := hs
  refine ⟨a, cap, rfl, h1, h2, fun j hj => ?_⟩
  obtain ⟨b, off, rfl, hb, hs, hc⟩ := h3 j hj
  exact ⟨b, off, rfl, hb, hs, (h.cell (p := ⟨b, off + j, none⟩) hb).trans hc⟩
theorem StrRow.mono {n0 n1 : Nat} {W : World} {v : Value} {ss : List ByteArray} (h : n0 ≤ n1) (hs : StrRow n0 W v ss) : StrRow n1 W v ss := by
  obtain ⟨a, cap, rfl, h1, h2, h3⟩ := hs
  refine ⟨a, cap, rfl, h1, h2, fun j hj => ?_⟩
  obtain ⟨b, off, rfl, hb, hs, hc⟩ := h3 j hj
  exact ⟨b, off, rfl, by omega, hs, hc⟩

/-- Some bool is handed back; where it is true, q. (Kept behind a name: the walk would take it apart.) -/
def SomeBool (e : Ending) (q : Prop) : Prop := ∃ r : Bool, e = .returned (.bool r) ∧ (r = true → q)
theorem SomeBool.no {q : Prop} {v : Value} (h : v = .bool false) : SomeBool (.returned v) q := ⟨false, by rw [h], by simp⟩
theorem SomeBool.yes {q : Prop} {v : Value} (h : v = .bool true) (hq : q) : SomeBool (.returned v) q := ⟨true, by rw [h], fun _ => hq⟩

set_option maxRecDepth 100000 in
set_option maxHeartbeats 2000000 in
theorem bytes10 (n0 n1 : Nat) (v1 v2 : Value) (ns vs : List ByteArray) (p : ByteArray) (w : World) (hns : StrRow n0 w v1 ns) (hvs : StrRow n1 w v2 vs) (hp : p.size ≤ maxLen) :
    Calls Tryf.prog 10 #[v1, v2, .string p] w fun e w' => w' = w ∧ SomeBool e (ns.length ≤ 1048576 ∧ vs.length ≤ 1048576) := by
  obtain ⟨a, cap, rfl, h1, h2, h3⟩ := hns
  obtain ⟨a2, cap2, rfl, g1, g2, g3⟩ := hvs
  unfold maxLen at *
  by_cases hlen : 1048576 < ns.length
  · go_enter Tryf.func10, Tryf.ntmps10
    go_wp2
    go_ret
    exact ⟨rfl, .no rfl⟩
  go_enter Tryf.func10, Tryf.ntmps10
  go_wp2
  go_loop [7, 8] (fun t i => ∃ (k : Nat) (n : Int), k ≤ ns.length ∧ i = .int .i64 k ∧ t = .int .i64 n ∧ 0 ≤ n ∧ n ≤ 1048576) (fun _ i => ns.length - (intOf i).toNat)
  case atStart => exact ⟨0, _, Nat.zero_le _, rfl, rfl, by omega, by omega⟩
  case round =>
    obtain ⟨k, n, hk, rfl, rfl, hn0, hn1⟩ := hrel
    by_cases hlt : k < ns.length
    · obtain ⟨b, off, rfl, hb, hs, hc⟩ := h3 k hlt
      generalize ns[k]?.getD ByteArray.empty = s at *
      go_wp2
      · go_ret
        exact ⟨rfl, .no rfl⟩
      · go_ret
        exact ⟨rfl, .no rfl⟩
      · go_round
        case rel => exact ⟨k + 1, _, by omega, by go_num, rfl, by omega, by omega⟩
        case measure => simp [intOf]; omega
    · clear h3
      go_wp2
      · go_ret
        exact ⟨rfl, .no rfl⟩
      · go_ret
        exact ⟨rfl, .no rfl⟩
      go_loop [7, 9] (fun t i => ∃ (k : Nat) (n : Int), k ≤ vs.length ∧ i = .int .i64 k ∧ t = .int .i64 n ∧ 0 ≤ n ∧ n ≤ 1048576) (fun _ i => vs.length - (intOf i).toNat)
      case atStart => exact ⟨0, _, Nat.zero_le _, rfl, rfl, by omega, by omega⟩
      case round =>
        obtain ⟨k, n, hk, rfl, rfl, hn0, hn1⟩ := hrel
        by_cases hlt : k < vs.length
        · obtain ⟨b, off, rfl, hb, hs, hc⟩ := g3 k hlt
          generalize vs[k]?.getD ByteArray.empty = s at *
          go_wp2
          · go_ret
            exact ⟨rfl, .no rfl⟩
          · go_ret
            exact ⟨rfl, .no rfl⟩
          · go_round
            case rel => exact ⟨k + 1, _, by omega, by go_num, rfl, by omega, by omega⟩
            case measure => simp [intOf]; omega
        · clear g3
          go_wp2
          all_goals
            go_ret
            exact ⟨rfl, by first | exact .no rfl | exact .yes rfl ⟨by omega, by omega⟩⟩

set_option maxRecDepth 100000 in
set_option maxHeartbeats 2000000 in
theorem bytes5 (n0 n1 : Nat) (v1 v2 : Value) (ns vs : List ByteArray) (p q : ByteArray) (c : Int) (w : World) (hns : StrRow n0 w v1 ns) (hvs : StrRow n1 w v2 vs) (hp : p.size ≤ maxLen) (hq : q.size ≤ maxLen) :
    Calls Tryf.prog 5 #[v1, v2, .string p, .string q, .int .i64 c] w fun e w' => w' = w ∧ SomeBool e (ns.length ≤ 1048576 ∧ vs.length ≤ 1048576) := by
  obtain ⟨a, cap, rfl, h1, h2, h3⟩ := hns
  obtain ⟨a2, cap2, rfl, g1, g2, g3⟩ := hvs
  unfold maxLen at *
  by_cases hlen : 1048576 < ns.length
  · go_enter Tryf.func5, Tryf.ntmps5
    go_wp2
    go_ret
    exact ⟨rfl, .no rfl⟩
  go_enter Tryf.func5, Tryf.ntmps5
  go_wp2
  go_loop [11, 12] (fun t i => ∃ (k : Nat) (n : Int), k ≤ ns.length ∧ i = .int .i64 k ∧ t = .int .i64 n ∧ 0 ≤ n ∧ n ≤ 1048576) (fun _ i => ns.length - (intOf i).toNat)
  case atStart => exact ⟨0, _, Nat.zero_le _, rfl, rfl, by omega, by omega⟩
  case round =>
    obtain ⟨k, n, hk, rfl, rfl, hn0, hn1⟩ := hrel
    by_cases hlt : k < ns.length
    · obtain ⟨b, off, rfl, hb, hs, hc⟩ := h3 k hlt
      generalize ns[k]?.getD ByteArray.empty = s at *
      go_wp2
      · go_ret
        exact ⟨rfl, .no rfl⟩
      · go_ret
        exact ⟨rfl, .no rfl⟩
      · go_round
        case rel => exact ⟨k + 1, _, by omega, by go_num, rfl, by omega, by omega⟩
        case measure => simp [intOf]; omega
    · clear h3
      go_wp2
      · go_ret
        exact ⟨rfl, .no rfl⟩
      · go_ret
        exact ⟨rfl, .no rfl⟩
      go_loop [11, 13] (fun t i => ∃ (k : Nat) (n : Int), k ≤ vs.length ∧ i = .int .i64 k ∧ t = .int .i64 n ∧ 0 ≤ n ∧ n ≤ 1048576) (fun _ i => vs.length - (intOf i).toNat)
      case atStart => exact ⟨0, _, Nat.zero_le _, rfl, rfl, by omega, by omega⟩
      case round =>
        obtain ⟨k, n, hk, rfl, rfl, hn0, hn1⟩ := hrel
        by_cases hlt : k < vs.length
        · obtain ⟨b, off, rfl, hb, hs, hc⟩ := g3 k hlt
          generalize vs[k]?.getD ByteArray.empty = s at *
          go_wp2
          · go_ret
            exact ⟨rfl, .no rfl⟩
          · go_ret
            exact ⟨rfl, .no rfl⟩
          · go_round
            case rel => exact ⟨k + 1, _, by omega, by go_num, rfl, by omega, by omega⟩
            case measure => simp [intOf]; omega
        · clear g3
          go_wp2
          all_goals
            go_ret
            exact ⟨rfl, by first | exact .no rfl | exact .yes rfl ⟨by omega, by omega⟩⟩

set_option maxRecDepth 100000 in
set_option maxHeartbeats 2000000 in
theorem tooBig6 (n0 n1 : Nat) (v1 v2 : Value) (ns vs : List ByteArray) (c : Int) (w : World) (hns : StrRow n0 w v1 ns) (hvs : StrRow n1 w v2 vs) (hc0 : 0 ≤ c) :
    Calls Tryf.prog 6 #[v1, v2, .int .i64 c] w fun e w' => w' = w ∧ SomeBool e True := by
  obtain ⟨a, cap, rfl, h1, h2, h3⟩ := hns
  obtain ⟨a2, cap2, rfl, g1, g2, g3⟩ := hvs
  unfold maxLen at *
  by_cases hlen : 1048576 < c
  · go_enter Tryf.func6, Tryf.ntmps6
    go_wp2
    go_ret
    exact ⟨rfl, .yes rfl trivial⟩
  go_enter Tryf.func6, Tryf.ntmps6
  go_wp2
  go_loop [7, 8] (fun t i => ∃ (k : Nat) (n : Int), k ≤ ns.length ∧ i = .int .i64 k ∧ t = .int .i64 n ∧ 0 ≤ n ∧ n ≤ 1048576) (fun _ i => ns.length - (intOf i).toNat)
  case atStart => exact ⟨0, _, Nat.zero_le _, rfl, rfl, by omega, by omega⟩
  case round =>
    obtain ⟨k, n, hk, rfl, rfl, hn0, hn1⟩ := hrel
    by_cases hlt : k < ns.length
    · obtain ⟨b, off, rfl, hb, hs, hc⟩ := h3 k hlt
      generalize ns[k]?.getD ByteArray.empty = s at *
      go_wp2
      · go_ret
        exact ⟨rfl, .yes rfl trivial⟩
      · go_ret
        exact ⟨rfl, .yes rfl trivial⟩
      · go_round
        case rel => exact ⟨k + 1, _, by omega, by go_num, rfl, by omega, by omega⟩
        case measure => simp [intOf]; omega
    · clear h3
      go_wp2
      go_loop [7, 9] (fun t i => ∃ (k : Nat) (n : Int), k ≤ vs.length ∧ i = .int .i64 k ∧ t = .int .i64 n ∧ 0 ≤ n ∧ n ≤ 1048576) (fun _ i => vs.length - (intOf i).toNat)
      case atStart => exact ⟨0, _, Nat.zero_le _, rfl, rfl, by omega, by omega⟩
      case round =>
        obtain ⟨k, n, hk, rfl, rfl, hn0, hn1⟩ := hrel
        by_cases hlt : k < vs.length
        · obtain ⟨b, off, rfl, hb, hs, hc⟩ := g3 k hlt
          generalize vs[k]?.getD ByteArray.empty = s at *
          go_wp2
          · go_ret
            exact ⟨rfl, .yes rfl trivial⟩
          · go_ret
            exact ⟨rfl, .yes rfl trivial⟩
          · go_round
            case rel => exact ⟨k + 1, _, by omega, by go_num, rfl, by omega, by omega⟩
            case measure => simp [intOf]; omega
        · clear g3
          go_wp2
          all_goals
            go_ret
            exact ⟨rfl, .no rfl⟩
end Go.Proofs.Qxb6614988aFmt
