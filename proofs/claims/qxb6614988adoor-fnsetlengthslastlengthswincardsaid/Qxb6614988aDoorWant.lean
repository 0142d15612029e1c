import Derived.Test.Qxb6614988aDoorPlain
namespace Go.Proofs.Qxb6614988aDoor
open Go.RowKit Go.WideShapes

theorem lP (x : ByteArray) : (x == nP) = (x.toList == [80, 114, 111, 112, 45, 99, 111, 110, 116, 101, 110, 116, 45, 108, 101, 110, 103, 116, 104]) := by rw [beqB, ByteArray.toList_eq nP]
theorem lT (x : ByteArray) : (x == nT) = (x.toList == [84, 101, 120, 116, 45, 99, 111, 110, 116, 101, 110, 116, 45, 108, 101, 110, 103, 116, 104]) := by rw [beqB, ByteArray.toList_eq nT]
theorem lC (x : ByteArray) : (x == nC) = (x.toList == [67, 111, 110, 116, 101, 110, 116, 45, 108, 101, 110, 103, 116, 104]) := by rw [beqB, ByteArray.toList_eq nC]

/-- A row of bytes, each below n0. -/
def BRow (n0 : Nat) (W : World) (a : Option Addr) (n cap : Nat) : Prop :=
  ∃ xs : List Int, xs.length = n ∧ n ≤ cap ∧ cap ≤ maxLen ∧ ∀ j, j < n → ∃ b off, a = some ⟨b, off, none⟩ ∧ b < n0 ∧ W.cell? ⟨b, off + j, none⟩ = some (.int .u8 (xs[j]?.getD 0))
theorem BRow.below {n0 : Nat} {A B : World} {a : Option Addr} {n cap : Nat} (h : BRow n0 A a n cap) (hB : Below n0 A B) : BRow n0 B a n cap := by
  obtain ⟨xs, h0, h1, h2, h3⟩ := h
  refine ⟨xs, h0, h1, h2, fun j hj => ?_⟩
  obtain ⟨b, off, e, hb, hc⟩ := h3 j hj
  exact ⟨b, off, e, hb, (hB.cell (p := ⟨b, off + j, none⟩) hb).trans hc⟩
theorem Tryd.info5 : (Tryd.prog.info? 5).map (fun i => (i.zero, i.size, i.bytes)) = some (some (.int .u8 0), 1, 1) := by kernel_rfl
theorem Tryd.size5 : (Tryd.prog.info? 5).map (·.size) = some 1 := by kernel_rfl
theorem neqNilB (x : Option Addr) (n c : Nat) (w : World) : (binOp .neq 23 (.slice x n c) (.slice none 0 0)).run Tryd.prog w = .ok (.bool x.isSome) w := by
  cases x <;> kernel_rfl
theorem made_block5 {W : World} {g n : Nat} {xs : List Value} {base : Nat} (h : W.ownsRow base 5 1 (.slice (some ⟨g, 0, none⟩) n n) n xs) : ∃ cur : List Value, cur.length = n ∧ W.heap[g]? = some (.cells cur.toArray 5 (0, 0)) := by
  obtain ⟨_, h | ⟨g', cap, cur, e1, _, e3, _, _, e6, _⟩⟩ := h
  · cases h.1
  · cases e1
    exact ⟨cur.toList, by simpa using e6, by simpa using e3⟩
/-- 'copy(zzc, propSection)', zzc just made. -/
theorem copy_bytes {n0 : Nat} {A W : World} {g n cap : Nat} {a : Option Addr} {cur : List Value} (hss : BRow n0 A a n cap) (hB : Below n0 A W) (hc : cur.length = n) (hg : W.heap[g]? = some (.cells cur.toArray 5 (0, 0))) :
    ∃ W2, (∀ ty, (Builtin.copy_ #[23, 23] ty #[.slice (some ⟨g, 0, none⟩) n n, .slice a n cap]).run Tryd.prog W = .ok (goInt n) W2) ∧ Below g W W2 := by
  obtain ⟨xs, hx, h1, h2, h3⟩ := hss
  by_cases h0 : n = 0
  · subst h0
    exact ⟨W, fun ty => run_copy_none W 23 23 ty 5 _ _ _ _ _ _ Tryd.underlying23 Tryd.size5 (by simp), Below.refl _ _⟩
  · obtain ⟨b, off, rfl, hb, _⟩ := h3 0 (by omega)
    have hl : (xs.map (Value.int .u8)).length = n := by simpa using hx
    have hsrc : ∀ j v, (xs.map (Value.int .u8))[j]? = some v → W.cell? ((⟨b, off, none⟩ : Addr).add j) = some v := by
      intro j v hj
      rw [List.getElem?_map] at hj
      obtain ⟨s, hs, rfl⟩ := Option.map_eq_some_iff.1 hj
      have hjl : j < xs.length := (List.getElem?_eq_some_iff.1 hs).1
      obtain ⟨b', off', e, hb', hc'⟩ := h3 j (by omega)
      cases e
      rw [hs] at hc'
      rw [add_plain]
      exact (hB.cell (p := ⟨b, off + j, none⟩) hb').trans hc'
    have hrun := fun ty => run_copy_row (P := Tryd.prog) W 23 23 ty 5 g 0 n n ⟨b, off, none⟩ n cap cur.toArray 5 (xs.map (Value.int .u8)) Tryd.underlying23 Tryd.size5 hg (by rw [hl]; simp) hsrc (by simp; omega) (fun v hv => by obtain ⟨z, _, rfl⟩ := List.mem_map.1 hv; rfl)
    simp only [hl] at hrun
    exact ⟨_, hrun, below_setRow (Below.refl g W) (Nat.le_refl _) _⟩

/-! ### the row that is wanted -/
def wV (ns vs : List ByteArray) (pv tv cv : ByteArray) (k : Nat) : List ByteArray := ((ns.zip vs).take k).map fun h => (val pv tv cv h).2
theorem wV_succ (ns vs : List ByteArray) (pv tv cv : ByteArray) (k : Nat) (h : k < ns.length) (hl : ns.length = vs.length) : Hid (wV ns vs pv tv cv (k + 1) = wV ns vs pv tv cv k ++ [(val pv tv cv (ns[k]?.getD ByteArray.empty, vs[k]?.getD ByteArray.empty)).2]) := by
  show _ = _
  have h2 : k < vs.length := by omega
  unfold wV
  rw [List.take_succ_eq_append_getElem (by simp; omega), List.map_append]
  simp [List.getElem?_eq_getElem h, List.getElem?_eq_getElem h2]
theorem take_succ' (l : List ByteArray) (k : Nat) (hk : k < l.length) : Hid (l.take (k + 1) = l.take k ++ [l[k]?.getD ByteArray.empty]) := by
  show _ = _
  rw [List.take_succ_eq_append_getElem hk, List.getElem?_eq_getElem hk]
  rfl
theorem want_fst (ns vs : List ByteArray) (hp ht : Bool) (pv tv cv : ByteArray) (hl : ns.length = vs.length) (bP bT bC : Bool) (h1 : aP (ns.zip vs) hp = bP) (h2 : aT (ns.zip vs) ht = bT) (h3 : aC (ns.zip vs) hp ht = bC) :
    (setL (ns.zip vs) hp ht pv tv cv).map (fun h => h.1) = ((ns ++ (if bP then [nP] else [])) ++ (if bT then [nT] else [])) ++ (if bC then [nC] else []) := by
  rw [setL_eq, h1, h2, h3, List.map_append, List.map_map]
  have : ((fun h : Hdr => h.1) ∘ val pv tv cv) = Prod.fst := by funext h; rfl
  rw [this, List.map_fst_zip (by omega)]
  unfold extras
  cases bP <;> cases bT <;> cases bC <;> simp
theorem want_snd (ns vs : List ByteArray) (hp ht : Bool) (pv tv cv : ByteArray) (bP bT bC : Bool) (h1 : aP (ns.zip vs) hp = bP) (h2 : aT (ns.zip vs) ht = bT) (h3 : aC (ns.zip vs) hp ht = bC) :
    (setL (ns.zip vs) hp ht pv tv cv).map (fun h => h.2) = ((wV ns vs pv tv cv (ns.zip vs).length ++ (if bP then [pv] else [])) ++ (if bT then [tv] else [])) ++ (if bC then [cv] else []) := by
  rw [setL_eq, h1, h2, h3, List.map_append, List.map_map]
  unfold extras wV
  rw [List.take_length]
  cases bP <;> cases bT <;> cases bC <;> simp [Function.comp_def]
theorem SRow.of_owns {base : Nat} {W : World} {v : Value} {n : Nat} {xs : List ByteArray} (h : W.ownsRow base 9 1 v n (xs.map Value.string)) : SRow W.heap.size W v xs := by
  have hn := h.1
  rw [List.length_map, Nat.mul_one] at hn
  subst hn
  rcases h.2 with ⟨rfl, h0⟩ | ⟨g, cap, cur, rfl, _, hb, h1, h2, h3, h4⟩
  · have : xs = [] := List.length_eq_zero_iff.1 h0
    subst this
    exact ⟨none, 0, rfl, Nat.le_refl _, Nat.zero_le _, fun j hj => absurd hj (by simp)⟩
  · refine ⟨_, cap, rfl, h1, h2, fun j hj => ⟨g, 0, rfl, (Array.getElem?_eq_some_iff.1 hb).1, ?_⟩⟩
    have e : cur.toList[j]? = some (.string xs[j]) := by
      have := congrArg (fun l => l[j]?) h4
      simp only [Nat.mul_one] at this
      rw [List.getElem?_take_of_lt hj, List.getElem?_map, List.getElem?_eq_getElem hj] at this
      simpa using this
    simp [World.cell?, hb, hj]
    simpa using e
/-- Two rows of strings that grow side by side. -/
def Two (wb : World) (n : Nat) (x y : Value) (l l' : List ByteArray) (W : World) : Prop :=
  W.ownsRow wb.heap.size 9 1 x n (l.map Value.string) ∧ W.ownsRow wb.heap.size 9 1 y n (l'.map Value.string) ∧ (x.ownBlock = none ∨ x.ownBlock ≠ y.ownBlock) ∧ Below wb.heap.size wb W

end Go.Proofs.Qxb6614988aDoor
