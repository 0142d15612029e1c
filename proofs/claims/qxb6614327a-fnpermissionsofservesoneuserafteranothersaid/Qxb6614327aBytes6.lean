import Derived.Test.Qxb6614327aBase
namespace Go.Proofs.Qxb6614327a
open Go.RowKit

set_option maxRecDepth 100000 in
set_option maxHeartbeats 4000000 in
/-- zzBytes of law 6. -/
theorem bytes20 (n0 n1 n2 : Nat) (v v1 v2 : Value) (gs hs : List (List ByteArray)) (ks : List ByteArray) (w : World) (hg : Grid n0 w v gs) (hh : Grid n1 w v1 hs) (hk : StrRow n2 w v2 ks) :
    Calls Try.prog 20 #[v, v1, v2] w fun e w' => w' = w ∧ SomeBool e (gs.length ≤ 1048576 ∧ hs.length ≤ 1048576) := by
  obtain ⟨a, cap, rfl, h1, h2, h3⟩ := hg
  obtain ⟨b, capb, rfl, g1, g2, g3⟩ := hh
  obtain ⟨ak, capk, rfl, k1, k2, k3⟩ := hk
  unfold maxLen at h2 g2 k2
  by_cases hlen : 1048576 < gs.length
  · go_enter Try.func20, Try.ntmps20
    go_wp2
    go_ret
    exact ⟨rfl, .no rfl⟩
  go_enter Try.func20, Try.ntmps20
  go_wp2
  go_loop [7, 8] (fun t i => ∃ (k : Nat) (n : Int), k ≤ gs.length ∧ i = .int .i64 k ∧ t = .int .i64 n ∧ 0 ≤ n ∧ n ≤ 1048576) (fun _ i => gs.length - (intOf i).toNat)
  case atStart => exact ⟨0, _, Nat.zero_le _, rfl, rfl, by omega, by omega⟩
  case round =>
    obtain ⟨k, n, hk, rfl, rfl, hn0, hn1⟩ := hrel
    by_cases hlt : k < gs.length
    · obtain ⟨b, off, u, rfl, hb, hc, a2, cap2, rfl, h4, h5, h6⟩ := h3 k hlt
      unfold maxLen at h5
      generalize hss : gs[k]?.getD [] = ss at *
      go_wp2
      · go_ret
        exact ⟨rfl, .no rfl⟩
      · go_ret
        exact ⟨rfl, .no rfl⟩
      go_loop [7, 9] (fun t i => ∃ (k : Nat) (n : Int), k ≤ ss.length ∧ i = .int .i64 k ∧ t = .int .i64 n ∧ 0 ≤ n ∧ n ≤ 1048576) (fun _ i => ss.length - (intOf i).toNat)
      case atStart => exact ⟨0, _, Nat.zero_le _, rfl, rfl, by omega, by omega⟩
      case round =>
        obtain ⟨k2, n2, hk2, rfl, rfl, hn20, hn21⟩ := hrel
        by_cases hlt2 : k2 < ss.length
        · obtain ⟨b2, off2, rfl, hb2, hs2, hc2⟩ := h6 k2 hlt2
          unfold maxLen at hs2
          generalize ss[k2]?.getD ByteArray.empty = s at *
          go_wp2
          · go_ret
            exact ⟨rfl, .no rfl⟩
          · go_ret
            exact ⟨rfl, .no rfl⟩
          · go_round
            case rel => exact ⟨k2 + 1, _, by omega, by go_num, rfl, by omega, by omega⟩
            case measure => simp [intOf]; omega
        · go_wp2
          go_round
          case rel => exact ⟨k + 1, _, by omega, by go_num, rfl, by omega, by omega⟩
          case measure => simp [intOf]; omega
    · clear h3
      go_wp2
      · go_ret
        exact ⟨rfl, .no rfl⟩
      · go_ret
        exact ⟨rfl, .no rfl⟩
      go_loop [7, 10] (fun t i => ∃ (k : Nat) (n : Int), k ≤ hs.length ∧ i = .int .i64 k ∧ t = .int .i64 n ∧ 0 ≤ n ∧ n ≤ 1048576) (fun _ i => hs.length - (intOf i).toNat)
      case atStart => exact ⟨0, _, Nat.zero_le _, rfl, rfl, by omega, by omega⟩
      case round =>
        obtain ⟨k, n, hk, rfl, rfl, hn0, hn1⟩ := hrel
        by_cases hlt : k < hs.length
        · obtain ⟨b, off, u, rfl, hb, hc, a2, cap2, rfl, h4, h5, h6⟩ := g3 k hlt
          unfold maxLen at h5
          generalize hss : hs[k]?.getD [] = ss at *
          go_wp2
          · go_ret
            exact ⟨rfl, .no rfl⟩
          · go_ret
            exact ⟨rfl, .no rfl⟩
          go_loop [7, 11] (fun t i => ∃ (k : Nat) (n : Int), k ≤ ss.length ∧ i = .int .i64 k ∧ t = .int .i64 n ∧ 0 ≤ n ∧ n ≤ 1048576) (fun _ i => ss.length - (intOf i).toNat)
          case atStart => exact ⟨0, _, Nat.zero_le _, rfl, rfl, by omega, by omega⟩
          case round =>
            obtain ⟨k2, n2, hk2, rfl, rfl, hn20, hn21⟩ := hrel
            by_cases hlt2 : k2 < ss.length
            · obtain ⟨b2, off2, rfl, hb2, hs2, hc2⟩ := h6 k2 hlt2
              unfold maxLen at hs2
              generalize ss[k2]?.getD ByteArray.empty = s at *
              go_wp2
              · go_ret
                exact ⟨rfl, .no rfl⟩
              · go_ret
                exact ⟨rfl, .no rfl⟩
              · go_round
                case rel => exact ⟨k2 + 1, _, by omega, by go_num, rfl, by omega, by omega⟩
                case measure => simp [intOf]; omega
            · go_wp2
              go_round
              case rel => exact ⟨k + 1, _, by omega, by go_num, rfl, by omega, by omega⟩
              case measure => simp [intOf]; omega
        · clear g3
          go_wp2
          · go_ret
            exact ⟨rfl, .no rfl⟩
          · go_ret
            exact ⟨rfl, .no rfl⟩
          go_loop [7, 12] (fun t i => ∃ (k : Nat) (n : Int), k ≤ ks.length ∧ i = .int .i64 k ∧ t = .int .i64 n ∧ 0 ≤ n ∧ n ≤ 1048576) (fun _ i => ks.length - (intOf i).toNat)
          case atStart => exact ⟨0, _, Nat.zero_le _, rfl, rfl, by omega, by omega⟩
          case round =>
            obtain ⟨k2, n2, hk2, rfl, rfl, hn20, hn21⟩ := hrel
            by_cases hlt2 : k2 < ks.length
            · obtain ⟨b2, off2, rfl, hb2, hs2, hc2⟩ := k3 k2 hlt2
              unfold maxLen at hs2
              generalize ks[k2]?.getD ByteArray.empty = s at *
              go_wp2
              · go_ret
                exact ⟨rfl, .no rfl⟩
              · go_ret
                exact ⟨rfl, .no rfl⟩
              · go_round
                case rel => exact ⟨k2 + 1, _, by omega, by go_num, rfl, by omega, by omega⟩
                case measure => simp [intOf]; omega
            · go_wp2
              go_ret
              exact ⟨rfl, .yes rfl ⟨by omega, by omega⟩⟩
end Go.Proofs.Qxb6614327a
