import Derived.Test.Qxb6614327aBase
import Derived.Maps.OwnSet
import Derived.Maps.AppendAt
namespace Go.Proofs.Qxb6614327a
open Go.RowKit Go.Maps

theorem key9 : Keyed Try.prog 9 := string_keyed Try.underlying9
theorem zero43 (w : World) : (zeroValue 43).run Try.prog w = .ok (.agg #[]) w := by kernel_rfl
theorem keyOf9 {s : ByteArray} (h : s.size ≤ maxLen) : keyOf Try.prog 9 (.string s) = some (.string s.data.toList) := WideMaps.keyOf_string_mk Try.underlying9 h

/-- The set of the strings ss, as a datum. -/
def keyLit (s : ByteArray) : Lit := .string s.data.toList
def setD (ss : List ByteArray) : DataW Unit := setOf (.agg []) (ss.map keyLit)
theorem setD_nil : setD [] = .map [] := rfl
theorem setD_snoc (ss : List ByteArray) (s : ByteArray) : setD (ss ++ [s]) = (setD ss).put (keyLit s) (.agg []) := by
  unfold setD; rw [List.map_append]; exact setOf_snoc _ _ _
theorem setD_take (ss : List ByteArray) (k : Nat) (h : k < ss.length) : setD (ss.take (k + 1)) = (setD (ss.take k)).put (keyLit (ss[k]?.getD ByteArray.empty)) (.agg []) := by
  rw [List.take_succ_eq_append_getElem h, setD_snoc, List.getElem?_eq_getElem h]
  rfl
theorem keys_ok (ss : List ByteArray) : ∀ x ∈ ss.map keyLit, WideAt.IsKeyLit x := by
  intro x hx
  obtain ⟨s, _, rfl⟩ := List.mem_map.1 hx
  trivial
theorem keyLit_same (x s : ByteArray) : (keyLit x).sameKey (keyLit s) = (x == s) := by
  rw [beq_toListBytes]
  simp [keyLit, Lit.sameKey, ByteArray.toList_eq]
theorem has_setD (ss : List ByteArray) (s : ByteArray) : has (setD ss) (keyLit s) = ss.any (fun x => x == s) := by
  unfold setD
  rw [has_setOf _ _ _ (keys_ok ss), List.any_map]
  congr 1
  funext x
  exact keyLit_same x s

/-- Block b is a map that holds just ss. -/
def SetAt (W : World) (b : Nat) (ss : List ByteArray) : Prop := W.ownsMap Try.prog 9 (unitElem (H := Unit)) b ss.length (setD ss)
theorem SetAt.lt {W : World} {b : Nat} {ss : List ByteArray} (h : SetAt W b ss) : b < W.heap.size := World.ownsMap.lt h
theorem ownsMap_block {A B : World} {b n : Nat} {D : DataW Unit} (h : A.ownsMap Try.prog 9 (unitElem (H := Unit)) b n D) (hb : B.heap[b]? = A.heap[b]?) : B.ownsMap Try.prog 9 (unitElem (H := Unit)) b n D := by
  obtain ⟨es, clock, h1, h2⟩ := h
  exact ⟨es, clock, hb.trans h1, h2⟩
theorem SetAt.block {A B : World} {b : Nat} {ss : List ByteArray} (h : SetAt A b ss) (hb : B.heap[b]? = A.heap[b]?) : SetAt B b ss := ownsMap_block h hb

set_option maxRecDepth 100000 in
set_option maxHeartbeats 1000000 in
/-- toSet. -/
theorem toSet11 (n0 : Nat) (v : Value) (ss : List ByteArray) (w : World) (hn0 : n0 ≤ w.heap.size) (hr : StrRow n0 w v ss) :
    Calls Try.prog 11 #[v] w fun e w' => e = .returned (.map (some w.heap.size)) ∧ SetAt w' w.heap.size ss ∧ Below w.heap.size w w' := by
  obtain ⟨a, cap, rfl, h1, h2, h3⟩ := hr
  have hmm : ∀ (n : Int) (w : World), (Instr.makeMap 29 (some (.int .i64 n))).run Try.prog w = .ok (.map (some w.heap.size)) (w.alloc (.map #[] 0)) := by
    intro n w
    simp [Instr.makeMap, run_underlying Try.underlying29, asInt, asIntOf, go_sem]
  unfold maxLen at h2
  go_enter Try.func11, Try.ntmps11
  go_wp2
  go_loopw [4] (fun i wr => ∃ k : Nat, k ≤ ss.length ∧ i = .int .i64 k ∧ wr.ownsMap Try.prog 9 (unitElem (H := Unit)) w.heap.size k (setD (ss.take k)) ∧ Below w.heap.size w wr) (fun i _ => ss.length - (intOf i).toNat)
  case atStart => exact ⟨0, Nat.zero_le _, rfl, World.ownsMap_made _ _ _ _, (Below.refl _ _).alloc (Nat.le_refl _) _⟩
  case round =>
    obtain ⟨k, hk, rfl, hown, hB⟩ := hrel
    by_cases hlt : k < ss.length
    · obtain ⟨b, off, rfl, hb, hs, hc0⟩ := h3 k hlt
      have hc : wr.cell? ⟨b, off + k, none⟩ = some (.string (ss[k]?.getD ByteArray.empty)) := (hB.cell (p := ⟨b, off + k, none⟩) (Nat.lt_of_lt_of_le hb hn0)).trans hc0
      have HT : Hid (setD (ss.take (k + 1)) = (setD (ss.take k)).put (keyLit (ss[k]?.getD ByteArray.empty)) (.agg [])) := setD_take ss k hlt
      have hkey := keyOf9 hs
      clear hc0
      generalize ss[k]?.getD ByteArray.empty = s at *
      go_wp2_with (at_mapUpdate; refine wpList_mapUpdate_own _ rfl _ _ _ 29 rfl 9 43 key9 Try.underlying29 (unitElem (H := Unit)) w.heap.size k _ rfl hown (by unfold maxLen; omega) _ _ _ rfl rfl hkey _ [] unitElem_mk ?_; intro w1 hown1 hgrow1)
      go_roundw
      case rel => exact ⟨k + 1, by omega, by go_num, by rw [HT.out]; exact hown1, hB.grown hgrow1 hB.size (fun j e => by cases e; exact Nat.le_refl _)⟩
      case measure => simp [intOf]; omega
    · have hkl : k = ss.length := by omega
      subst hkl
      rw [List.take_length] at hown
      go_wp2
      go_ret
      exact ⟨rfl, hown, hB⟩

theorem Try.info27 : (Try.prog.info? 27).map (fun i => (i.zero, i.size, i.bytes)) = some (some (.pointer none), 1, 8) := by kernel_rfl

set_option maxHeartbeats 400000 in
/-- ZZnewRole. -/
theorem newRole10 (m : Option Nat) (w : World) :
    Calls Try.prog 10 #[.map m] w fun e w' => e = .returned (.pointer (some ⟨w.heap.size, 0, none⟩)) ∧ w' = w.alloc (.cells #[.string ⟨#[]⟩, .map m, .map none] 42) := by
  go_enter Try.func10, Try.ntmps10
  go_wp2
  go_ret
  exact ⟨rfl, rfl⟩

set_option maxHeartbeats 400000 in
/-- ZZnewRoles. -/
theorem newRoles9 (n : Nat) (w : World) (hn : n ≤ 1048576) :
    Calls Try.prog 9 #[.int .i64 n] w fun e w' => e = .returned (.slice (some ⟨w.heap.size, 0, none⟩) n n) ∧ Below w.heap.size w w' ∧ w.heap.size < w'.heap.size ∧ ∀ j, j < n → ∃ u, w'.cell? ⟨w.heap.size, j, none⟩ = some u ∧ w'.frozen? ⟨w.heap.size, j, none⟩ = false := by
  obtain ⟨i0, hi, hz0, hz1, hz2⟩ := info_parts Try.info27
  go_enter Try.func9, Try.ntmps9
  go_wp2_with (at_make; refine wpList_make_full _ rfl _ _ 25 rfl w.heap.size 27 i0 (.pointer none) 1 Try.underlying25 hi hz0 hz1 _ _ _ _ n rfl rfl rfl rfl (by rw [hz2]; omega) (by unfold maxLen; omega) (Nat.le_refl _) ?_; intro w1 hown hgrow)
  go_ret
  refine ⟨rfl, (Below.refl _ _).grown hgrow (Nat.le_refl _) (fun k e => by cases e), ?_, ?_⟩
  · obtain ⟨_, h | ⟨g, cap, cur, h1, h2, h3, _⟩⟩ := hown
    · cases h.1
    · cases h1
      exact (Array.getElem?_eq_some_iff.1 h3).1
  · obtain ⟨_, h | ⟨g, cap, cur, h1, h2, h3, h4, h5, h6, _⟩⟩ := hown
    · cases h.1
    · cases h1
      intro j hj
      refine ⟨cur[j]'(by omega), ?_, ?_⟩
      · simp [World.cell?, h3, show j < cur.size by omega]
      · simp [World.frozen?, h3]
end Go.Proofs.Qxb6614327a
