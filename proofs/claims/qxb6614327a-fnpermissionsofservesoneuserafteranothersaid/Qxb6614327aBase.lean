import Derived.Test.Qxb6614327aRows
import Derived.WalkKit
import Derived.ProofKit
import Derived.Below
namespace Go.Proofs.Qxb6614327a
open Go.RowKit

/-- A slice value of strings, each in a block below n0. -/
def StrRow (n0 : Nat) (W : World) (v : Value) (ss : List ByteArray) : Prop :=
  ∃ a cap, v = .slice a ss.length cap ∧ ss.length ≤ cap ∧ cap ≤ maxLen ∧
    ∀ j, j < ss.length → ∃ b off, a = some ⟨b, off, none⟩ ∧ b < n0 ∧ (ss[j]?.getD ByteArray.empty).size ≤ maxLen ∧ W.cell? ⟨b, off + j, none⟩ = some (.string (ss[j]?.getD ByteArray.empty))

def Grid (n0 : Nat) (W : World) (v : Value) (gs : List (List ByteArray)) : Prop :=
  ∃ a cap, v = .slice a gs.length cap ∧ gs.length ≤ cap ∧ cap ≤ maxLen ∧
    ∀ j, j < gs.length → ∃ b off u, a = some ⟨b, off, none⟩ ∧ b < n0 ∧ W.cell? ⟨b, off + j, none⟩ = some u ∧ StrRow n0 W u (gs[j]?.getD [])

theorem StrRow.below {n0 : Nat} {A B : World} (h : Below n0 A B) {v : Value} {ss : List ByteArray} (hs : StrRow n0 A v ss) : StrRow n0 B v ss := by
  obtain ⟨a, cap, rfl, h1, h2, h3⟩ := hs
  refine ⟨a, cap, rfl, h1, h2, fun j hj => ?_⟩
  obtain ⟨b, off, rfl, hb, hs, hc⟩ := h3 j hj
  exact ⟨b, off, rfl, hb, hs, (h.cell (p := ⟨b, off + j, none⟩) hb).trans hc⟩

theorem Grid.below {n0 : Nat} {A B : World} (h : Below n0 A B) {v : Value} {gs : List (List ByteArray)} (hs : Grid n0 A v gs) : Grid n0 B v gs := by
  obtain ⟨a, cap, rfl, h1, h2, h3⟩ := hs
  refine ⟨a, cap, rfl, h1, h2, fun j hj => ?_⟩
  obtain ⟨b, off, u, rfl, hb, hc, hr⟩ := h3 j hj
  exact ⟨b, off, u, rfl, hb, (h.cell (p := ⟨b, off + j, none⟩) hb).trans hc, hr.below h⟩

/-- Some bool is handed back; where it is true, q. (Kept behind a name: the walk would take it apart.) -/
def SomeBool (e : Ending) (q : Prop) : Prop := ∃ r : Bool, e = .returned (.bool r) ∧ (r = true → q)
theorem SomeBool.no {q : Prop} {v : Value} (h : v = .bool false) : SomeBool (.returned v) q := ⟨false, by rw [h], by simp⟩
theorem SomeBool.yes {q : Prop} {v : Value} (h : v = .bool true) (hq : q) : SomeBool (.returned v) q := ⟨true, by rw [h], fun _ => hq⟩

set_option maxRecDepth 100000 in
set_option maxHeartbeats 1000000 in
/-- zzBytes of law 4: some bool; nothing is written; true only of a short outer slice. -/
theorem bytes15 (n0 : Nat) (v : Value) (gs : List (List ByteArray)) (p : ByteArray) (c : Int) (w : World) (hg : Grid n0 w v gs) (hp : p.size ≤ maxLen) :
    Calls Try.prog 15 #[v, .string p, .int .i64 c] w fun e w' => w' = w ∧ SomeBool e (gs.length ≤ 1048576) := by
  obtain ⟨a, cap, rfl, h1, h2, h3⟩ := hg
  unfold maxLen at h2 hp
  by_cases hlen : 1048576 < gs.length
  · go_enter Try.func15, Try.ntmps15
    go_wp2
    go_ret
    exact ⟨rfl, .no rfl⟩
  go_enter Try.func15, Try.ntmps15
  go_wp2
  go_loop [7, 8] (fun t i => ∃ (k : Nat) (n : Int), k ≤ gs.length ∧ i = .int .i64 k ∧ t = .int .i64 n ∧ 0 ≤ n ∧ n ≤ 1048576) (fun _ i => gs.length - (intOf i).toNat)
  case atStart => exact ⟨0, _, Nat.zero_le _, rfl, rfl, by omega, by omega⟩
  case round =>
    obtain ⟨k, n, hk, rfl, rfl, hn0, hn1⟩ := hrel
    by_cases hlt : k < gs.length
    · obtain ⟨b, off, u, rfl, hb, hc, a2, cap2, rfl, h4, h5, h6⟩ := h3 k hlt
      unfold maxLen at h5
      generalize hss : gs[k]?.getD [] = ss at *
      go_wp2
      · go_ret
        exact ⟨rfl, .no rfl⟩
      · go_ret
        exact ⟨rfl, .no rfl⟩
      go_loop [7, 9] (fun t i => ∃ (k : Nat) (n : Int), k ≤ ss.length ∧ i = .int .i64 k ∧ t = .int .i64 n ∧ 0 ≤ n ∧ n ≤ 1048576) (fun _ i => ss.length - (intOf i).toNat)
      case atStart => exact ⟨0, _, Nat.zero_le _, rfl, rfl, by omega, by omega⟩
      case round =>
        obtain ⟨k2, n2, hk2, rfl, rfl, hn20, hn21⟩ := hrel
        by_cases hlt2 : k2 < ss.length
        · obtain ⟨b2, off2, rfl, hb2, hs2, hc2⟩ := h6 k2 hlt2
          unfold maxLen at hs2
          generalize ss[k2]?.getD ByteArray.empty = s at *
          go_wp2
          · go_ret
            exact ⟨rfl, .no rfl⟩
          · go_ret
            exact ⟨rfl, .no rfl⟩
          · go_round
            case rel => exact ⟨k2 + 1, _, by omega, by go_num, rfl, by omega, by omega⟩
            case measure => simp [intOf]; omega
        · go_wp2
          go_round
          case rel => exact ⟨k + 1, _, by omega, by go_num, rfl, by omega, by omega⟩
          case measure => simp [intOf]; omega
    · go_wp2
      all_goals
        go_ret
        exact ⟨rfl, by first | exact .no rfl | exact .yes rfl (by omega)⟩

set_option maxRecDepth 100000 in
set_option maxHeartbeats 1000000 in
theorem bytes7 (n0 : Nat) (v : Value) (gs : List (List ByteArray)) (p : ByteArray) (w : World) (hg : Grid n0 w v gs) (hp : p.size ≤ maxLen) :
    Calls Try.prog 7 #[v, .string p] w fun e w' => w' = w ∧ SomeBool e (gs.length ≤ 1048576) := by
  obtain ⟨a, cap, rfl, h1, h2, h3⟩ := hg
  unfold maxLen at h2 hp
  by_cases hlen : 1048576 < gs.length
  · go_enter Try.func7, Try.ntmps7
    go_wp2
    go_ret
    exact ⟨rfl, .no rfl⟩
  go_enter Try.func7, Try.ntmps7
  go_wp2
  go_loop [5, 6] (fun t i => ∃ (k : Nat) (n : Int), k ≤ gs.length ∧ i = .int .i64 k ∧ t = .int .i64 n ∧ 0 ≤ n ∧ n ≤ 1048576) (fun _ i => gs.length - (intOf i).toNat)
  case atStart => exact ⟨0, _, Nat.zero_le _, rfl, rfl, by omega, by omega⟩
  case round =>
    obtain ⟨k, n, hk, rfl, rfl, hn0, hn1⟩ := hrel
    by_cases hlt : k < gs.length
    · obtain ⟨b, off, u, rfl, hb, hc, a2, cap2, rfl, h4, h5, h6⟩ := h3 k hlt
      unfold maxLen at h5
      generalize hss : gs[k]?.getD [] = ss at *
      go_wp2
      · go_ret
        exact ⟨rfl, .no rfl⟩
      · go_ret
        exact ⟨rfl, .no rfl⟩
      go_loop [5, 7] (fun t i => ∃ (k : Nat) (n : Int), k ≤ ss.length ∧ i = .int .i64 k ∧ t = .int .i64 n ∧ 0 ≤ n ∧ n ≤ 1048576) (fun _ i => ss.length - (intOf i).toNat)
      case atStart => exact ⟨0, _, Nat.zero_le _, rfl, rfl, by omega, by omega⟩
      case round =>
        obtain ⟨k2, n2, hk2, rfl, rfl, hn20, hn21⟩ := hrel
        by_cases hlt2 : k2 < ss.length
        · obtain ⟨b2, off2, rfl, hb2, hs2, hc2⟩ := h6 k2 hlt2
          unfold maxLen at hs2
          generalize ss[k2]?.getD ByteArray.empty = s at *
          go_wp2
          · go_ret
            exact ⟨rfl, .no rfl⟩
          · go_ret
            exact ⟨rfl, .no rfl⟩
          · go_round
            case rel => exact ⟨k2 + 1, _, by omega, by go_num, rfl, by omega, by omega⟩
            case measure => simp [intOf]; omega
        · go_wp2
          go_round
          case rel => exact ⟨k + 1, _, by omega, by go_num, rfl, by omega, by omega⟩
          case measure => simp [intOf]; omega
    · go_wp2
      all_goals
        go_ret
        exact ⟨rfl, by first | exact .no rfl | exact .yes rfl (by omega)⟩

/-- Some int is handed back; where it is at most 1<<20, q. -/
def SomeInt (e : Ending) (q : Prop) : Prop := ∃ n : Int, e = .returned (.int .i64 n) ∧ 0 ≤ n ∧ (n ≤ 1048576 → q)
theorem SomeInt.big {q : Prop} {v : Value} {n : Int} (h : v = .int .i64 n) (hn : 1048576 < n) : SomeInt (.returned v) q := ⟨n, by rw [h], by omega, fun h => by omega⟩
theorem SomeInt.mk {q : Prop} {v : Value} {n : Int} (h : v = .int .i64 n) (hn : 0 ≤ n) (hq : q) : SomeInt (.returned v) q := ⟨n, by rw [h], hn, fun _ => hq⟩

/-- How many strings the rows hold. -/
def count (gs : List (List ByteArray)) : Nat := (gs.map List.length).sum
theorem count_take (gs : List (List ByteArray)) (k : Nat) (h : k < gs.length) : count (gs.take (k + 1)) = count (gs.take k) + (gs[k]?.getD []).length := by
  unfold count
  rw [List.take_succ_eq_append_getElem h, List.map_append, List.sum_append]
  simp only [List.map_cons, List.map_nil, List.sum_cons, List.sum_nil, Nat.add_zero]
  rw [List.getElem?_eq_getElem h]
  rfl

set_option maxRecDepth 100000 in
set_option maxHeartbeats 1000000 in
/-- listsBytes: some int; at most 1<<20 only where the rows are few and hold few strings. -/
theorem lists8 (n0 : Nat) (v : Value) (gs : List (List ByteArray)) (st : Int) (w : World) (hg : Grid n0 w v gs) (hst : 0 ≤ st) :
    Calls Try.prog 8 #[v, .int .i64 st] w fun e w' => w' = w ∧ SomeInt e (gs.length ≤ 65536 ∧ count gs ≤ 65536) := by
  obtain ⟨a, cap, rfl, h1, h2, h3⟩ := hg
  unfold maxLen at h2
  by_cases hs0 : 1048576 < st
  · go_enter Try.func8, Try.ntmps8
    go_wp2
    go_ret
    exact ⟨rfl, .big rfl (by omega)⟩
  by_cases hlen : 65536 < gs.length
  · go_enter Try.func8, Try.ntmps8
    go_wp2
    go_ret
    exact ⟨rfl, .big rfl (by omega)⟩
  go_enter Try.func8, Try.ntmps8
  go_wp2
  · go_ret
    exact ⟨rfl, .big rfl (by omega)⟩
  go_loop [5, 6] (fun t i => ∃ (k : Nat) (n : Int), k ≤ gs.length ∧ i = .int .i64 k ∧ t = .int .i64 n ∧ 16 * (count (gs.take k) : Int) ≤ n ∧ n ≤ 1048576) (fun _ i => gs.length - (intOf i).toNat)
  case atStart => exact ⟨0, _, Nat.zero_le _, rfl, rfl, by simp [count]; omega, by omega⟩
  case round =>
    obtain ⟨k, n, hk, rfl, rfl, hn0, hn1⟩ := hrel
    by_cases hlt : k < gs.length
    · obtain ⟨b, off, u, rfl, hb, hc, a2, cap2, rfl, h4, h5, h6⟩ := h3 k hlt
      have HC : Hid (count (gs.take (k + 1)) = count (gs.take k) + (gs[k]?.getD []).length) := count_take gs k hlt
      unfold maxLen at h5
      generalize hss : gs[k]?.getD [] = ss at *
      go_wp2
      · go_ret
        exact ⟨rfl, .big rfl (by omega)⟩
      · go_ret
        exact ⟨rfl, .big rfl (by omega)⟩
      go_loop [5, 7] (fun t i => ∃ (k2 : Nat) (n : Int), k2 ≤ ss.length ∧ i = .int .i64 k2 ∧ t = .int .i64 n ∧ 16 * (count (gs.take k) : Int) + 16 * ss.length ≤ n ∧ n ≤ 1048576) (fun _ i => ss.length - (intOf i).toNat)
      case atStart => exact ⟨0, _, Nat.zero_le _, rfl, rfl, by omega, by omega⟩
      case round =>
        obtain ⟨k2, n2, hk2, rfl, rfl, hn20, hn21⟩ := hrel
        by_cases hlt2 : k2 < ss.length
        · obtain ⟨b2, off2, rfl, hb2, hs2, hc2⟩ := h6 k2 hlt2
          unfold maxLen at hs2
          generalize ss[k2]?.getD ByteArray.empty = s at *
          go_wp2
          · go_ret
            exact ⟨rfl, .big rfl (by omega)⟩
          · go_ret
            exact ⟨rfl, .big rfl (by omega)⟩
          · go_round
            case rel => exact ⟨k2 + 1, _, by omega, by go_num, rfl, by omega, by omega⟩
            case measure => simp [intOf]; omega
        · go_wp2
          go_round
          case rel => exact ⟨k + 1, _, by omega, by go_num, rfl, by rw [HC.out]; omega, by omega⟩
          case measure => simp [intOf]; omega
    · have hkl : k = gs.length := by omega
      have hct : Hid (count (gs.take k) = count gs) := by rw [hkl, List.take_length]; rfl
      clear hkl
      go_wp2
      go_ret
      have := hct.out
      exact ⟨rfl, .mk rfl (by omega) ⟨by omega, by omega⟩⟩

/-- Does a row hold s? -/
def occ (gs : List (List ByteArray)) (s : ByteArray) : Bool := gs.any fun r => r.any fun x => x == s
theorem occ_true {gs : List (List ByteArray)} {s : ByteArray} {k j : Nat} (hk : k < gs.length) (hj : j < (gs[k]?.getD []).length) (h : (((gs[k]?.getD [])[j]?.getD ByteArray.empty) == s) = true) : occ gs s = true := by
  unfold occ
  simp only [List.any_eq_true]
  have e1 : gs[k]?.getD [] = gs[k] := by simp [hk]
  rw [e1] at hj h
  refine ⟨gs[k], List.getElem_mem hk, gs[k][j], List.getElem_mem hj, ?_⟩
  simpa [hj] using h
theorem occ_take {gs : List (List ByteArray)} {s : ByteArray} {k : Nat} (hk : k < gs.length) (h : occ (gs.take k) s = false) (h2 : ((gs[k]?.getD []).any fun x => x == s) = false) : occ (gs.take (k + 1)) s = false := by
  unfold occ at *
  rw [List.take_succ_eq_append_getElem hk, List.any_append, h]
  simpa [hk] using h2
theorem any_take {ss : List ByteArray} {s : ByteArray} {k : Nat} (hk : k < ss.length) (h : ((ss.take k).any fun x => x == s) = false) (h2 : (ss[k]?.getD ByteArray.empty == s) = false) : ((ss.take (k + 1)).any fun x => x == s) = false := by
  rw [List.take_succ_eq_append_getElem hk, List.any_append, h]
  simpa [hk] using h2

theorem ret_bool {a b : Bool} (h : a = b) : Ending.returned (.bool a) = .returned (.bool b) := by rw [h]
set_option maxRecDepth 100000 in
set_option maxHeartbeats 1000000 in
/-- occurs. -/
theorem occurs14 (n0 : Nat) (v : Value) (gs : List (List ByteArray)) (p : ByteArray) (w : World) (hg : Grid n0 w v gs) :
    Calls Try.prog 14 #[v, .string p] w fun e w' => w' = w ∧ e = .returned (.bool (occ gs p)) := by
  obtain ⟨a, cap, rfl, h1, h2, h3⟩ := hg
  unfold maxLen at h2
  go_enter Try.func14, Try.ntmps14
  go_wp2
  go_loop [5] (fun i => ∃ (k : Nat), k ≤ gs.length ∧ i = .int .i64 k ∧ Hid (occ (gs.take k) p = false)) (fun i => gs.length - (intOf i).toNat)
  case atStart => exact ⟨0, Nat.zero_le _, rfl, by simp [occ, Hid]⟩
  case round =>
    obtain ⟨k, hk, rfl, HO⟩ := hrel
    by_cases hlt : k < gs.length
    · obtain ⟨b, off, u, rfl, hb, hc, a2, cap2, rfl, h4, h5, h6⟩ := h3 k hlt
      have HT : Hid (∀ j, j < (gs[k]?.getD []).length → (((gs[k]?.getD [])[j]?.getD ByteArray.empty) == p) = true → occ gs p = true) := fun j hj h => occ_true hlt hj h
      have HN : Hid (((gs[k]?.getD []).any fun x => x == p) = false → occ (gs.take (k + 1)) p = false) := fun h => occ_take hlt HO.out h
      unfold maxLen at h5
      generalize hss : gs[k]?.getD [] = ss at *
      go_wp2
      go_loop [6] (fun i => ∃ (k2 : Nat), k2 ≤ ss.length ∧ i = .int .i64 k2 ∧ Hid (((ss.take k2).any fun x => x == p) = false)) (fun i => ss.length - (intOf i).toNat)
      case atStart => exact ⟨0, Nat.zero_le _, rfl, by simp [Hid]⟩
      case round =>
        obtain ⟨k2, hk2, rfl, HA⟩ := hrel
        by_cases hlt2 : k2 < ss.length
        · obtain ⟨b2, off2, rfl, hb2, hs2, hc2⟩ := h6 k2 hlt2
          have HT2 : Hid ((ss[k2]?.getD ByteArray.empty == p) = true → occ gs p = true) := HT.out k2 hlt2
          have HF2 : Hid ((ss[k2]?.getD ByteArray.empty == p) = false → ((ss.take (k2 + 1)).any fun x => x == p) = false) := fun h => any_take hlt2 HA.out h
          generalize ss[k2]?.getD ByteArray.empty = s at *
          cases hq : (s.toList == p.toList)
          · go_wp2
            go_round
            case rel => exact ⟨k2 + 1, by omega, by go_num, HF2.out ((beq_toListBytes s p).trans hq)⟩
            case measure => simp [intOf]; omega
          · go_wp2
            go_ret
            exact ⟨rfl, ret_bool (HT2.out ((beq_toListBytes s p).trans hq)).symm⟩
        · have hN : Hid ((ss.any fun x => x == p) = false) := by
            have := HA.out
            rwa [List.take_of_length_le (by omega)] at this
          go_wp2
          go_round
          case rel => exact ⟨k + 1, by omega, by go_num, HN.out hN.out⟩
          case measure => simp [intOf]; omega
    · have hN : Hid (occ gs p = false) := by
        have := HO.out
        rwa [List.take_of_length_le (by omega)] at this
      go_wp2
      go_ret
      exact ⟨rfl, ret_bool hN.out.symm⟩
end Go.Proofs.Qxb6614327a
