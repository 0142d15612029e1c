import Derived.Test.Qxb6614988aDoorBase
import Derived.Test.Qxb6614988aDoorForm
import Derived.Lib.ItoaLen
import Derived.Lib.ItoaMem
import Derived.Laws.Bits64
namespace Go.Proofs.Qxb6614988aDoor
open Go.RowKit

/-- So many digits are written; m is what is left. -/
def Dig (n m : Nat) (t : List UInt8) : Prop := (m = 0 ∧ t = Lib.decDigits n) ∨ (0 < m ∧ Lib.decDigits n = Lib.decDigits m ++ t)
theorem Dig.step {n m : Nat} {t : List UInt8} (h : Dig n m t) (hm : 0 < m) : Dig n (m / 10) (UInt8.ofNat (48 + m % 10) :: t) := by
  rcases h with ⟨h, _⟩ | ⟨_, h⟩
  · omega
  · by_cases h10 : m < 10
    · refine .inl ⟨by omega, ?_⟩
      rw [h, Lib.decDigits_one h10, Nat.mod_eq_of_lt h10]
      rfl
    · refine .inr ⟨by omega, ?_⟩
      rw [h]
      conv => lhs; rw [Lib.decDigits, dif_neg h10]
      rw [List.append_assoc]
      rfl
theorem Dig.len {n m : Nat} {t : List UInt8} (h : Dig n m t) (hm : 0 < m) : t.length + 1 ≤ Lib.nDigits n := by
  rcases h with ⟨h, _⟩ | ⟨_, h⟩
  · omega
  · have := congrArg List.length h
    rw [Lib.decDigits_length, List.length_append, Lib.decDigits_length] at this
    have := Lib.nDigits_pos m
    omega
theorem nDigits_le19 (u : Nat) (h : u < 10000000000000000000) : Lib.nDigits u ≤ 19 := by
  refine Nat.le_of_not_lt fun h19 => ?_
  have h20 : Lib.nDigits u - 1 + 1 = Lib.nDigits u := by omega
  have hge : ∀ k v, k + 1 = Lib.nDigits v → 1 ≤ k → 10 ^ k ≤ v := by
    intro k
    induction k with
    | zero => intro v _ h; omega
    | succ k ih =>
      intro v hv _
      have hb : ¬ v < 10 := fun hb => by rw [Lib.nDigits_small hb] at hv; omega
      rw [Lib.nDigits_big hb] at hv
      by_cases hk : 1 ≤ k
      · have := ih (v / 10) (by omega) hk
        rw [Nat.pow_succ]
        omega
      · have : k = 0 := by omega
        subst this
        omega
  have h1 := hge (Lib.nDigits u - 1) u h20 (by omega)
  have h2 : 10 ^ 19 ≤ 10 ^ (Lib.nDigits u - 1) := Nat.pow_le_pow_right (by omega) (by omega)
  have h3 : (10 : Nat) ^ 19 = 10000000000000000000 := by rfl
  omega

/-- The last places of the buffer hold the digits. -/
def Tail (b j : Nat) (t : List UInt8) (W : World) : Prop :=
  b < W.heap.size ∧ (∀ q, q < 20 → ∃ u, W.cell? ⟨b, q, none⟩ = some u ∧ W.frozen? ⟨b, q, none⟩ = false) ∧
  ∀ q (h : q < t.length), W.cell? ⟨b, j + q, none⟩ = some (.int .u8 (t[q].toNat : Int))
theorem Tail.step {b j : Nat} {t : List UInt8} {W : World} (h : Tail b (j + 1) t W) (hj : j < 20) (d : UInt8) : Tail b j (d :: t) (W.setCell ⟨b, j, none⟩ (.int .u8 (d.toNat : Int))) := by
  obtain ⟨h1, h2, h3⟩ := h
  obtain ⟨u0, hu0, _⟩ := h2 j hj
  refine ⟨by simp [World.setCell]; exact h1, fun q hq => ?_, fun q hq => ?_⟩
  · obtain ⟨u, hu, hf⟩ := h2 q hq
    by_cases e : q = j
    · subst e
      exact ⟨_, World.cell?_setCell_same' _ _ _ (by rw [hu]; rfl), by rw [World.frozen?_setCell]; exact hf⟩
    · exact ⟨u, (World.cell?_setCell_other _ _ _ _ (by intro e2; injection e2; omega)).trans hu, by rw [World.frozen?_setCell]; exact hf⟩
  · cases q with
    | zero => exact World.cell?_setCell_same' _ _ _ (by show (W.cell? ⟨b, j + 0, none⟩).isSome = true; rw [Nat.add_zero, hu0]; rfl)
    | succ q =>
      have hq' : q < t.length := by simpa using hq
      have := h3 q hq'
      rw [show j + (q + 1) = j + 1 + q by omega]
      exact (World.cell?_setCell_other _ _ _ _ (by intro e2; injection e2; omega)).trans this

theorem xor_max (b : Nat) (hb : b < 18446744073709551616) : 18446744073709551615 ^^^ b = 18446744073709551615 - b := by
  have h := congrArg BitVec.toNat (BitVec.allOnes_xor (x := BitVec.ofNat 64 b))
  rw [BitVec.toNat_xor, BitVec.toNat_not, BitVec.toNat_allOnes, BitVec.toNat_ofNat] at h
  rw [Nat.mod_eq_of_lt (by omega)] at h
  simpa using h
theorem neg_u64 (n : Nat) (h0 : 0 < n) (h1 : n ≤ 9223372036854775808) : IntKind.u64.wrap (bits .xor .u64 IntKind.u64.max (IntKind.u64.wrap (-(n : Int))) + 1) = (n : Int) := by
  have e1 : IntKind.u64.wrap (-(n : Int)) = ((18446744073709551616 - n : Nat) : Int) := by rw [IntKind.wrap_u64]; omega
  have e2 : IntKind.u64.max = ((18446744073709551615 : Nat) : Int) := rfl
  rw [e1, e2, bits_xor_u64_nat _ _ (by omega) (by omega), xor_max _ (by omega), IntKind.wrap_u64]
  omega

theorem dig_val (m : Nat) : (48 + (m : Int) % 10) = ((UInt8.ofNat (48 + m % 10)).toNat : Int) := by
  have : m % 10 < 10 := Nat.mod_lt _ (by omega)
  rw [UInt8.toNat_ofNat']
  omega

theorem Tail.first (w : World) (T : TypeId) : Tail w.heap.size 20 [] (w.alloc (.cells #[.int .u8 0, .int .u8 0, .int .u8 0, .int .u8 0, .int .u8 0, .int .u8 0, .int .u8 0, .int .u8 0, .int .u8 0, .int .u8 0, .int .u8 0, .int .u8 0, .int .u8 0, .int .u8 0, .int .u8 0, .int .u8 0, .int .u8 0, .int .u8 0, .int .u8 0, .int .u8 0] T)) := by
  refine ⟨by simp, fun q hq => ⟨.int .u8 0, ?_, World.frozen?_alloc_new _ _ _ _⟩, fun q hq => absurd hq (by simp)⟩
  rw [World.cell?_alloc_new]
  have e : (#[.int .u8 0, .int .u8 0, .int .u8 0, .int .u8 0, .int .u8 0, .int .u8 0, .int .u8 0, .int .u8 0, .int .u8 0, .int .u8 0, .int .u8 0, .int .u8 0, .int .u8 0, .int .u8 0, .int .u8 0, .int .u8 0, .int .u8 0, .int .u8 0, .int .u8 0, .int .u8 0] : Array Value) = Array.replicate 20 (.int .u8 0) := rfl
  rw [e, Array.getElem?_replicate, if_pos hq]

theorem buf_slice (b j : Nat) (hj : j < 20) (W : World) : (Instr.sliceAt 33 (.pointer (some ⟨b, 0, none⟩)) (some (.int .i64 j)) none none).run Tryd.prog W = .ok (.slice (some ⟨b, j, none⟩) (20 - j) (20 - j)) W := by
  have hal : Tryd.prog.arrayLen 33 = 20 := by simp [Program.arrayLen, Tryd.underlying33]
  rw [run_sliceAt_array_l W 33 ⟨b, 0, none⟩ (by simp [Program.arrayLen, Program.elem, Tryd.underlying33]) .i64 j (by omega) (by rw [hal]; omega)]
  rw [hal]
  have hne : ¬ 20 = j := by omega
  go_simp

/-- 'string(buf[j:])'. -/
theorem Tail.text {b j : Nat} {t : List UInt8} {W : World} (h : Tail b j t W) (hl : t.length + j = 20) : (convert 23 9 (.slice (some ⟨b, j, none⟩) (20 - j) (20 - j))).run Tryd.prog W = .ok (.string ⟨t.toArray⟩) W := by
  have := run_convert_bytes_back (P := Tryd.prog) W 23 9 5 ⟨b, j, none⟩ (20 - j) t Tryd.underlying23 Tryd.underlying5 Tryd.underlying9 (fun q hq => by
    rw [Lib.add_plain]
    exact h.2.2 q hq)
  rw [show t.length = 20 - j by omega] at this
  exact this

set_option maxRecDepth 100000 in
set_option maxHeartbeats 2000000 in
theorem itoa7 (x : Int) (h0 : -9223372036854775808 ≤ x) (h1 : x ≤ 9223372036854775807) (w : World) :
    Calls Tryd.prog 7 #[.int .i64 x] w fun e w' => e = .returned (.string ⟨(Lib.itoa x).toArray⟩) ∧ Below w.heap.size w w' := by
  by_cases hx : x = 0
  · subst hx
    go_enter Tryd.func7, Tryd.ntmps7
    go_wp2
    go_ret
    exact ⟨by simp [Lib.itoa, Lib.decDigits], Below.refl _ _⟩
  have hxb : (x == 0) = false := by simpa using hx
  by_cases hneg : x < 0
  · obtain ⟨n, rfl⟩ : ∃ n : Nat, x = -(n : Int) := ⟨x.natAbs, by omega⟩
    have hn0 : 0 < n := by omega
    have hwr := neg_u64 n hn0 (by omega)
    have hnb : n < 18446744073709551616 := by omega
    have hN := nDigits_le19 n (by omega)
    have HN : Hid (Lib.nDigits n ≤ 19) := hN
    clear hN
    go_enter Tryd.func7, Tryd.ntmps7
    go_wp2
    go_loopw [4, 5] (fun i u wr => ∃ (j m : Nat) (t : List UInt8), t.length + j = 20 ∧ i = .int .i64 j ∧ u = .int .u64 m ∧ m < 18446744073709551616 ∧ Dig n m t ∧ Tail w.heap.size j t wr ∧ Below w.heap.size w wr) (fun _ u _ => (intOf u).toNat)
    case atStart => exact ⟨20, n, [], by simp, rfl, by first | rfl | (rw [hwr]), hnb, .inr ⟨hn0, by simp⟩, Tail.first w 33, (Below.refl _ _).alloc (Nat.le_refl _) _⟩
    case round =>
      obtain ⟨j, m, t, hjt, rfl, rfl, hmb, hD, hT, hB⟩ := hrel
      by_cases hm : 0 < m
      · have hlen := hD.len hm
        have hj : 0 < j := by have := HN.out; omega
        obtain ⟨j, rfl⟩ : ∃ i, j = i + 1 := ⟨j - 1, by omega⟩
        obtain ⟨u0, hu0, hf0⟩ := hT.2.1 j (by omega)
        have HD : Hid (Dig n m t) := hD
        have HT : Hid (Tail w.heap.size (j + 1) t wr) := hT
        have hji : (j : Int) < 20 := by omega
        have hji2 : (((j + 1 : Nat) : Int) - 1) = (j : Int) := by omega
        clear hD hT hlen hj
        go_wp2
        go_roundw
        case rel =>
          exact ⟨j, m / 10, UInt8.ofNat (48 + m % 10) :: t, by simp; omega, rfl, by simp, by omega, HD.out.step hm, by rw [dig_val m]; exact HT.out.step (by omega) _, hB.setCell (p := ⟨w.heap.size, j, none⟩) (Nat.le_refl _) _⟩
        case measure =>
          simp [intOf]
          omega
      · have hm0 : m = 0 := by omega
        subst hm0
        have ht : t = Lib.decDigits n := by
          rcases hD with ⟨_, h⟩ | ⟨h, _⟩
          · exact h
          · omega
        have hj : 0 < j := by
          have := HN.out
          rw [← Lib.decDigits_length, ← ht] at this
          omega
        obtain ⟨j, rfl⟩ : ∃ i, j = i + 1 := ⟨j - 1, by omega⟩
        have hT2 := hT.step (by omega) 45
        have hcv : (convert 23 9 (.slice (some ⟨w.heap.size, j, none⟩) (20 - j) (20 - j))).run Tryd.prog (wr.setCell ⟨w.heap.size, j, none⟩ (.int .u8 45)) = .ok (.string ⟨(45 :: t).toArray⟩) (wr.setCell ⟨w.heap.size, j, none⟩ (.int .u8 45)) := hT2.text (by simp; omega)
        obtain ⟨st, HS⟩ : ∃ s : ByteArray, Hid ((⟨(45 :: t).toArray⟩ : ByteArray) = s) := ⟨_, rfl⟩
        rw [HS.out] at hcv
        have hsl := buf_slice w.heap.size j (by omega)
        obtain ⟨u0, hu0, hf0⟩ := hT.2.1 j (by omega)
        have hji : (j : Int) < 20 := by omega
        have hji2 : (((j + 1 : Nat) : Int) - 1) = (j : Int) := by omega
        have hB2 := hB.setCell (p := ⟨w.heap.size, j, none⟩) (Nat.le_refl _) (.int .u8 45)
        have HT : Hid (t = Lib.decDigits n) := ht
        clear hT hT2 ht hD
        go_wp2
        go_ret
        refine ⟨?_, hB2⟩
        rw [Lib.itoa_neg n hn0, ← HT.out, HS.out]
        rfl
  · obtain ⟨n, rfl⟩ : ∃ n : Nat, x = (n : Int) := ⟨x.toNat, by omega⟩
    have hn0 : 0 < n := by omega
    have hwr : IntKind.u64.wrap (n : Int) = (n : Int) := by rw [IntKind.wrap_u64]; omega
    have hnb : n < 18446744073709551616 := by omega
    have hN := Lib.nDigits_le20 n hnb
    have HN : Hid (Lib.nDigits n ≤ 20) := hN
    clear hN
    go_enter Tryd.func7, Tryd.ntmps7
    go_wp2
    go_loopw [4, 5] (fun i u wr => ∃ (j m : Nat) (t : List UInt8), t.length + j = 20 ∧ i = .int .i64 j ∧ u = .int .u64 m ∧ m < 18446744073709551616 ∧ Dig n m t ∧ Tail w.heap.size j t wr ∧ Below w.heap.size w wr) (fun _ u _ => (intOf u).toNat)
    case atStart => exact ⟨20, n, [], by simp, rfl, by first | rfl | (rw [hwr]), hnb, .inr ⟨hn0, by simp⟩, Tail.first w 33, (Below.refl _ _).alloc (Nat.le_refl _) _⟩
    case round =>
      obtain ⟨j, m, t, hjt, rfl, rfl, hmb, hD, hT, hB⟩ := hrel
      by_cases hm : 0 < m
      · have hlen := hD.len hm
        have hj : 0 < j := by have := HN.out; omega
        obtain ⟨j, rfl⟩ : ∃ i, j = i + 1 := ⟨j - 1, by omega⟩
        obtain ⟨u0, hu0, hf0⟩ := hT.2.1 j (by omega)
        have HD : Hid (Dig n m t) := hD
        have HT : Hid (Tail w.heap.size (j + 1) t wr) := hT
        have hji : (j : Int) < 20 := by omega
        have hji2 : (((j + 1 : Nat) : Int) - 1) = (j : Int) := by omega
        clear hD hT hlen hj
        go_wp2
        go_roundw
        case rel =>
          exact ⟨j, m / 10, UInt8.ofNat (48 + m % 10) :: t, by simp; omega, rfl, by simp, by omega, HD.out.step hm, by rw [dig_val m]; exact HT.out.step (by omega) _, hB.setCell (p := ⟨w.heap.size, j, none⟩) (Nat.le_refl _) _⟩
        case measure =>
          simp [intOf]
          omega
      · have hm0 : m = 0 := by omega
        subst hm0
        have ht : t = Lib.decDigits n := by
          rcases hD with ⟨_, h⟩ | ⟨h, _⟩
          · exact h
          · omega
        have hjl : j < 20 := by
          have := Lib.nDigits_pos n
          rw [← Lib.decDigits_length, ← ht] at this
          omega
        have hcv := hT.text (by omega)
        have hsl := buf_slice w.heap.size j hjl
        have HT : Hid (t = Lib.decDigits n) := ht
        clear hT ht hD
        go_wp2
        go_ret
        refine ⟨?_, hB⟩
        rw [Lib.itoa_nonneg n, HT.out]
        rfl
end Go.Proofs.Qxb6614988aDoor
