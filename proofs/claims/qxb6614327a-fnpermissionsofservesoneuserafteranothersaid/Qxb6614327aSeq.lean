import Derived.Test.Qxb6614327aSets
import Derived.RangeFuncNested
import Derived.RangeFuncBound
import Derived.RangeFuncCalls
import Derived.RangeFuncLeaves
import Derived.Shelf.Abstract
import Derived.Shelf.RegionOpen
import Derived.OwnWalkIn
import Derived.TacticsInMore
import Derived.LoopNIn
import Derived.LoopIn
import Derived.Maps.OwnIn
namespace Go.Proofs.Qxb6614327a
open Go.RowKit Go.Shelf Go.Maps

attribute [local go_sem] Oper.semAt_some

/-- What has come when k rounds are over. -/
def upto {α : Type} (f : Nat → α) (k : Nat) : List α := (List.range k).map f
theorem upto_succ {α : Type} (f : Nat → α) (k : Nat) : upto f (k + 1) = upto f k ++ [f k] := by simp [upto, List.range_succ]
theorem upto_length {α : Type} (f : Nat → α) (k : Nat) : (upto f k).length = k := by simp [upto]
theorem upto_prefix {α : Type} (f : Nat → α) {k m : Nat} (h : k ≤ m) : upto f k <+: upto f m := by
  unfold upto
  obtain ⟨d, rfl⟩ := Nat.exists_eq_add_of_le h
  rw [List.range_add, List.map_append]
  exact List.prefix_append _ _

set_option maxRecDepth 100000 in
set_option maxHeartbeats 2000000 in
/-- slices.Values's closure over a slice of role pointers. -/
theorem values1_in {α : Type} (f : α → Nat) (g : Nat → α) (F : Fence) (n : Nat) (h25 : F.fn 25) (hro : F.round = none) (hn : 1 ≤ n) (l Bs n₀ b off len cap : Nat) (hreach : len ≤ maxLen) (hb : b < n₀) (J Jx : List α → World → Prop)
    (hY : ∀ pre x W, J pre W → pre.length < len → YieldAt F (n - 1) Try.prog l #[.pointer (some ⟨f x, 0, none⟩)] W fun e W' =>
      (e = .returned (.bool true) ∧ J (pre ++ [x]) W' ∧ Below n₀ W W') ∨ (e = .returned (.bool false) ∧ Jx (pre ++ [x]) W'))
    (W : World) (hBs : W.cell? ⟨Bs, 0, none⟩ = some (.slice (some ⟨b, off, none⟩) len cap)) (hc : ∀ j, j < len → W.cell? ⟨b, off + j, none⟩ = some (.pointer (some ⟨f (g j), 0, none⟩))) (h0 : J [] W) :
    CallsIn F n Try.prog 25 #[.func (.yield l) #[] #[], .pointer (some ⟨Bs, 0, none⟩)] W fun e W' => (∃ v, e = .returned v) ∧
      ((∃ ys, ys = upto g len ∧ J ys W') ∨ (∃ pre, (∃ k, k ≤ len ∧ pre = upto g k) ∧ Jx pre W')) := by
  unfold maxLen at hreach
  refine callsIn_of_wp Try.func25 rfl h25 ?_ hro
  simp only [Try.ntmps25, List.size_toArray, List.length_cons, List.length_nil, Nat.reduceAdd, Nat.reduceSub, Array.replicate_succ, Array.replicate_zero, List.push_toArray, List.append_toArray, List.nil_append, List.cons_append]
  gi_wp2
  gi_loopw [7] (fun i wr => ∃ k : Nat, k ≤ len ∧ i = .int .i64 k ∧ J (upto g k) wr ∧ Below n₀ W wr)
    (fun i _ => len - (intOf i).toNat)
  case atStart => exact ⟨0, Nat.zero_le _, rfl, h0, Below.refl _ _⟩
  case round =>
    obtain ⟨k, hk, rfl, hJs, hnx⟩ := hrel
    have hcx : k < len → wr.cell? ⟨b, off + k, none⟩ = some (.pointer (some ⟨f (g k), 0, none⟩)) := fun h => (hnx.cell (p := ⟨b, off + k, none⟩) hb).trans (hc k h)
    by_cases hlt : k < len
    · obtain ⟨fn, tmps, assign, body, hy, hR⟩ := hY _ (g k) wr hJs (by rw [upto_length]; exact hlt)
      have hcx' := hcx hlt
      gi_wp2
      refine hR.mono ?_
      rintro e W3 (⟨rfl, hJ3, hk3⟩ | ⟨rfl, hJx3⟩)
      · gi_wp2
        go_roundw
        case rel => exact ⟨k + 1, by omega, by simp, by rw [upto_succ]; exact hJ3, hnx.trans hk3⟩
        case measure => simp [intOf]; omega
      · gi_wp2
        refine bodyPost_ret (results_none rfl _ _ _) rfl ?_
        exact ⟨⟨_, rfl⟩, .inr ⟨_, ⟨k + 1, by omega, (upto_succ _ _).symm⟩, hJx3⟩⟩
    · obtain rfl : k = len := by omega
      gi_wp2
      go_end0
      exact ⟨⟨_, rfl⟩, .inl ⟨_, rfl, hJs⟩⟩

set_option maxRecDepth 100000 in
set_option maxHeartbeats 1000000 in
/-- .. over no elements. -/
theorem values1_nil_in {α : Type} (F : Fence) (n : Nat) (h25 : F.fn 25) (hro : F.round = none) (l Bs : Nat) (a : Option Addr) (cap : Nat) (J : List α → World → Prop) (W : World) (hBs : W.cell? ⟨Bs, 0, none⟩ = some (.slice a 0 cap)) (h0 : J [] W) :
    CallsIn F n Try.prog 25 #[.func (.yield l) #[] #[], .pointer (some ⟨Bs, 0, none⟩)] W fun e W' => (∃ v, e = .returned v) ∧ J [] W' := by
  refine callsIn_of_wp Try.func25 rfl h25 ?_ hro
  simp only [Try.ntmps25, List.size_toArray, List.length_cons, List.length_nil, Nat.reduceAdd, Nat.reduceSub, Array.replicate_succ, Array.replicate_zero, List.push_toArray, List.append_toArray, List.nil_append, List.cons_append]
  gi_wp2
  gi_loopw [7] (fun i wr => i = .int .i64 0 ∧ J [] wr) (fun _ _ => 0)
  case atStart => exact ⟨rfl, h0⟩
  case round =>
    obtain ⟨rfl, hJs⟩ := hrel
    gi_wp2
    go_end0
    exact ⟨⟨_, rfl⟩, hJs⟩

set_option maxHeartbeats 1000000 in
/-- slices.Values(s). -/
theorem values_in (F : Fence) (n : Nat) (h22 : F.fn 22) (hro : F.round = none) (a : Option Addr) (len cap : Nat) (w : World) :
    CallsIn F n Try.prog 22 #[.slice a len cap] w fun e w' => e = .returned (.func (.func 25) #[] #[.pointer (some ⟨w.heap.size, 0, none⟩)]) ∧ w' = w.alloc (.cells #[.slice a len cap] 25) := by
  refine callsIn_of_wp Try.func22 rfl h22 ?_ hro
  simp only [Try.ntmps22, List.size_toArray, List.length_cons, List.length_nil, Nat.reduceAdd, Nat.reduceSub, Array.replicate_succ, Array.replicate_zero, List.push_toArray, List.append_toArray, List.nil_append, List.cons_append]
  gi_wp2
  go_ret
  exact ⟨rfl, rfl⟩

/-- The slice value sv holds pointers to the roles zs, in a block below n₀. -/
def Ptrs {α : Type} (f : α → Nat) (n₀ : Nat) (W : World) (sv : Value) (zs : List α) : Prop :=
  ∃ a cap, sv = .slice a zs.length cap ∧ zs.length ≤ maxLen ∧ ∀ j z, zs[j]? = some z → ∃ b off, a = some ⟨b, off, none⟩ ∧ b < n₀ ∧ W.cell? ⟨b, off + j, none⟩ = some (.pointer (some ⟨f z, 0, none⟩))
theorem Ptrs.below {α : Type} {f : α → Nat} {n₀ : Nat} {A B : World} (h : Below n₀ A B) {sv : Value} {zs : List α} (hp : Ptrs f n₀ A sv zs) : Ptrs f n₀ B sv zs := by
  obtain ⟨a, cap, rfl, h1, h2⟩ := hp
  refine ⟨a, cap, rfl, h1, fun j z hj => ?_⟩
  obtain ⟨b, off, rfl, hb, hc⟩ := h2 j z hj
  exact ⟨b, off, rfl, hb, (h.cell (p := ⟨b, off + j, none⟩) hb).trans hc⟩

theorem upto_all {α : Type} (z0 : α) (zs : List α) : upto (fun j => zs[j]?.getD z0) zs.length = zs := by
  apply List.ext_getElem
  · simp [upto]
  · intro i h1 h2
    simp [upto, h2]

/-- slices.Values(s) hands back a value that yields zs in order, or a prefix of it. -/
theorem values_stops {α : Type} (f : α → Nat) (F : Fence) (n : Nat) (h25 : F.fn 25) (hro : F.round = none) (hn : 1 ≤ n) (Bs n₀ : Nat) (sv : Value) (zs : List α) (w : World) (hBs : Bs < w.heap.size) (hn₀ : n₀ ≤ w.heap.size)
    (hc : w.cell? ⟨Bs, 0, none⟩ = some sv) (hI : Ptrs f n₀ w sv zs) :
    SeqStopsK F n Try.prog 25 #[.pointer (some ⟨Bs, 0, none⟩)] (fun x : α => #[Value.pointer (some ⟨f x, 0, none⟩)]) (Below n₀) (fun ys => ys = zs) (fun pre => pre <+: zs) zs.length w := fun l J Jx W hW _ _ hY h0 => by
  have hc' := (hW.cell (p := ⟨Bs, 0, none⟩) hBs).trans hc
  obtain ⟨a, cap, rfl, h1, h2⟩ := hI.below (hW.mono hn₀)
  cases hz : zs with
  | nil =>
    rw [hz] at hc'
    exact (values1_nil_in F n h25 hro l Bs a cap J W hc' h0).mono fun e W' ⟨he, hj⟩ => ⟨he, .inl ⟨_, rfl, hj⟩⟩
  | cons z0 rest =>
    rw [← hz]
    obtain ⟨b, off, rfl, hb, _⟩ := h2 0 z0 (by rw [hz]; rfl)
    refine (values1_in f (fun j => zs[j]?.getD z0) F n h25 hro hn l Bs n₀ b off zs.length cap h1 hb J Jx hY W hc' (fun j hj => ?_) h0).mono ?_
    · obtain ⟨b', off', e, _, hc⟩ := h2 j zs[j] (List.getElem?_eq_getElem hj)
      cases e
      simpa [hj] using hc
    rintro e W' ⟨he, ⟨ys, rfl, hj⟩ | ⟨pre, ⟨k, hk, rfl⟩, hj⟩⟩
    · exact ⟨he, .inl ⟨_, upto_all z0 zs, hj⟩⟩
    · refine ⟨he, .inr ⟨_, ?_, hj⟩⟩
      have := upto_prefix (fun j => zs[j]?.getD z0) hk
      rwa [upto_all] at this
end Go.Proofs.Qxb6614327a
