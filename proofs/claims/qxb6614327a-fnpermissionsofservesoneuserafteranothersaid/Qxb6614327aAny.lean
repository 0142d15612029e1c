import Derived.Test.Qxb6614327aSeq
import Derived.Deep.Slices
namespace Go.Proofs.Qxb6614327a
open Go.RowKit Go.Shelf Go.Maps

attribute [local go_sem] Oper.semAt_some

/-- Block br is a role whose permissions are just ss. -/
def RoleAt (n₀ : Nat) (W : World) (br : Nat) (ss : List ByteArray) : Prop := br < n₀ ∧ ∃ bm, bm < n₀ ∧ W.cell? ⟨br, 1, none⟩ = some (.map (some bm)) ∧ SetAt W bm ss
theorem RoleAt.below {n₀ : Nat} {A B : World} (h : Below n₀ A B) {br : Nat} {ss : List ByteArray} (hr : RoleAt n₀ A br ss) : RoleAt n₀ B br ss := by
  obtain ⟨h1, bm, h2, h3, h4⟩ := hr
  exact ⟨h1, bm, h2, (h.cell (p := ⟨br, 1, none⟩) h1).trans h3, h4.block (h.block bm h2)⟩
/-- A role of the world W, with what it holds. -/
abbrev Role (n₀ : Nat) (W : World) := { x : Nat × List ByteArray // RoleAt n₀ W x.1 x.2 }

theorem look43 (W : World) (bm : Nat) (ss : List ByteArray) (p : ByteArray) (hs : SetAt W bm ss) (hp : p.size ≤ maxLen) :
    (Instr.lookup 29 (.map (some bm)) (.string p) true).run Try.prog W = .ok (.tuple #[.agg #[], .bool (ss.any fun x => x == p)]) W := by
  obtain ⟨v, ps, h1, h2⟩ := World.ownsMap.look_ok (e := 43) hs key9 Try.underlying29 (zero43 W) unitElem_mk (keyOf9 hp)
  obtain ⟨rfl, _⟩ := unitElem_inv h2
  rw [h1]
  have := has_setD ss p
  rw [← this]
  rfl

set_option maxRecDepth 100000 in
set_option maxHeartbeats 2000000 in
theorem anyHas_in (F : Fence) (n : Nat) (h21 : F.fn 21) (h25 : F.fn 25) (hro : F.round = none) (hn : 3 ≤ n) (Bs : Nat) (sv : Value) (p : ByteArray) (hp : p.size ≤ maxLen) (w : World) (zs : List (Role w.heap.size w)) (hBs : Bs < w.heap.size)
    (hc : w.cell? ⟨Bs, 0, none⟩ = some sv) (hI : Ptrs (fun x : Role w.heap.size w => x.1.1) w.heap.size w sv zs) :
    CallsIn F n Try.prog 21 #[.func (.func 25) #[] #[.pointer (some ⟨Bs, 0, none⟩)], .string p] w fun e W' =>
      e = .returned (.bool (zs.any fun x => x.1.2.any fun s => s == p)) ∧ Below w.heap.size w W' := by
  have h1 : 1 ≤ n := by omega
  have hmix : Try.prog.follows .mixedOrders = true := by kernel_rfl
  refine callsIn_of_wp_marks Try.func21 rfl h21 ?_ hro
  simp only [Try.ntmps21, List.size_toArray, List.length_cons, List.length_nil, Nat.reduceAdd, Nat.reduceSub, Array.replicate_succ, Array.replicate_zero, List.push_toArray, List.append_toArray, List.nil_append, List.cons_append]
  gi_wp2
  have bP := Boxed.new w 9 (.string p)
  have bR := Boxed.new (w.alloc (.cells #[.string p] 9)) 4 (.bool false)
  rw [World.size_alloc] at bR
  have hB0 : Below w.heap.size w ((w.alloc (.cells #[.string p] 9)).alloc (.cells #[.bool false] 4)) := ((Below.refl _ w).alloc (Nat.le_refl _) _).alloc (by simp) _
  refine wpIn_rangeFunc_ownG hro h1 (gf := 25) (lb := #[.pointer (some ⟨Bs, 0, none⟩)]) rfl h25 (enters_of Try.func25 (by kernel_rfl) rfl)
    (values_stops (fun x : Role w.heap.size w => x.1.1) F (n - 1) h25 hro (by omega) Bs w.heap.size sv zs w hBs (Nat.le_refl _) hc hI) belowK_t (belowK_b (by simp; omega)) hB0 (fun _ => rfl)
    (fun pre W => ((pre.any fun x => x.1.2.any fun s => s == p) = false ∧ Boxed W w.heap.size 9 (.string p) ∧ Boxed W (w.heap.size + 1) 4 (.bool false)) ∧ Below w.heap.size w W)
    (fun c pre W => (c = .ret ∧ (pre.any fun x => x.1.2.any fun s => s == p) = true ∧ Boxed W (w.heap.size + 1) 4 (.bool true)) ∧ Below w.heap.size w W)
    (OwnFrom.and (OwnFrom.and (ownFrom_pure _ _) (OwnFrom.and (Own.from (boxed_own _ _ _) _) (Own.from (boxed_own _ _ _) _))) (ownFrom_below (Nat.le_refl _) (by simp; omega)))
    (fun c => OwnFrom.and (OwnFrom.and (ownFrom_pure _ _) (OwnFrom.and (ownFrom_pure _ _) (Own.from (boxed_own _ _ _) _))) (ownFrom_below (Nat.le_refl _) (by simp; omega)))
    ⟨⟨rfl, bP.alloc _, bR⟩, hB0⟩
    (fun x => { tmps := #[.func (.func 25) #[] #[.pointer (some ⟨Bs, 0, none⟩)], .string p, undef, .pointer (some ⟨w.heap.size, 0, none⟩), .pointer (some ⟨w.heap.size + 1, 0, none⟩), .pointer (some ⟨x.1.1, 0, none⟩), undef, undef, .func (.func 25) #[] #[.pointer (some ⟨Bs, 0, none⟩)], .pointer (some ⟨x.1.1, 0, none⟩), undef, undef, undef, undef, undef, undef, undef, undef, undef, undef], defers := [] }) ?assign ?body ?done ?stop
  case assign =>
    intro l x W K hK
    gi_wp2
    exact hK
  case body =>
    rintro l pre x W ⟨⟨hpre, hP, hR⟩, hB⟩ hlt
    obtain ⟨hbr, bm, hbm, hcm, hset⟩ := x.2.below hB
    have hPc := hP.cell
    have hRc := hR.cell
    have hRf := hR.frozen
    have hz := hB.size
    have hz1 : w.heap.size < W.heap.size := hP.lt
    have hz2 : w.heap.size + 1 < W.heap.size := hR.lt
    have hz3 : x.1.1 < W.heap.size := by omega
    have hP2 := (hP.alloc (.cells #[] 43)).cell
    have hM2 : (W.alloc (.cells #[] 43)).cell? ⟨x.1.1, 1, none⟩ = some (.map (some bm)) := cell_kept hcm (World.grownBy_alloc W _ none) (fun r e => by cases e)
    have hk1 := look43 W.drew bm _ p hset hp
    have hk2 := look43 (W.alloc (.cells #[] 43)).drew bm _ p (World.ownsMap.alloc hset _) hp
    gi_wp2
    refine wpIn_mono (Q := fun e a' w' => e = .normal ∧ a' = { tmps := #[.func (.func 25) #[] #[.pointer (some ⟨Bs, 0, none⟩)], .string p, undef, .pointer (some ⟨w.heap.size, 0, none⟩), .pointer (some ⟨w.heap.size + 1, 0, none⟩), .pointer (some ⟨x.1.1, 0, none⟩), .pointer (some ⟨W.heap.size, 0, none⟩), .bool (x.1.2.any fun s => s == p), .func (.func 25) #[] #[.pointer (some ⟨Bs, 0, none⟩)], .pointer (some ⟨x.1.1, 0, none⟩), .tuple #[.agg #[], .bool (x.1.2.any fun s => s == p)], .pointer (some ⟨x.1.1, 0, none⟩), .pointer (some ⟨x.1.1, 0, none⟩), .pointer (some ⟨x.1.1, 1, none⟩), .map (some bm), .string p, .tuple #[.agg #[], .bool (x.1.2.any fun s => s == p)], .agg #[], .bool (x.1.2.any fun s => s == p), undef], defers := [] } ∧ w' = (W.alloc (.cells #[] 43)).drew) ?_ ?_
    · clear hB0 bP bR hB hpre hP hR hlt hbm hset hz hRc hRf hz2 hbr hc hI hBs
      gi_region_with_o (fail)
      all_goals exact ⟨rfl, rfl, rfl⟩
    · rintro e a' w' ⟨rfl, rfl, rfl⟩
      clear hk1 hk2
      have hR2 := hR.alloc (.cells #[] 43)
      have hR2c := hR2.cell
      have hR2f := hR2.frozen
      cases hx : (x.1.2.any fun s => s == p)
      · gi_wp2
        exact ⟨((KeepsOthers.alloc _ _).trans (KeepsOthers.drew _)).from _, ((Below.refl _ W).alloc hz _).drew, ⟨by rw [List.any_append, hpre]; simp [hx], hP.alloc _, hR2⟩, (hB.alloc hz _).drew⟩
      · gi_wp2
        exact ⟨(((KeepsOthers.setCell W ⟨w.heap.size + 1, 0, none⟩ (.bool true)).trans (KeepsOthers.alloc _ _)).trans (KeepsOthers.drew _)).from _, ⟨rfl, by rw [List.any_append]; simp [hx], (hR.set (.bool true)).alloc _⟩,
          ((hB.setCell (p := ⟨w.heap.size + 1, 0, none⟩) (by simp) _).alloc (by simp; omega) _).drew⟩
  case done =>
    rintro D ys W hD rfl ⟨⟨hpre, hP, hR⟩, hB⟩ hK
    have hRc := hR.cell
    have hRf := hR.frozen
    gi_wp2
    have hK' := (KeepsOthers.setCell W ⟨w.heap.size + 1, 0, none⟩ (.bool false)).same D _ hK rfl
    refine ⟨by simp, .inl ⟨_, _, rfl, run_takeDeferred hK', ?_⟩⟩
    have hc5 := cell_kept (World.cell?_setCell_same' W ⟨w.heap.size + 1, 0, none⟩ (.bool false) (by rw [hRc]; rfl)) (grownBy_putObj' _ D (.deferred none)) (fun r e => by cases e; exact ⟨_, hK', rfl⟩)
    refine ⟨.bool false, ?_, by rw [hpre], (hB.setCell (p := ⟨w.heap.size + 1, 0, none⟩) (by simp) _).trans (belowK_b (w := w) (Nat.le_refl _) _ D _ _ (by simp at hD; omega) hK' rfl rfl)⟩
    simp [results, Try.f21, go_sem, hc5]
  case stop =>
    rintro D c pre W hD hpf ⟨⟨rfl, hpre, hR⟩, hB⟩ hK
    have hRc := hR.cell
    gi_wp2
    refine ⟨by simp, .inl ⟨_, _, rfl, run_takeDeferred hK, ?_⟩⟩
    have hc5 := cell_kept hRc (grownBy_putObj' _ D (.deferred none)) (fun r e => by cases e; exact ⟨_, hK, rfl⟩)
    have hz : (zs.any fun x => x.1.2.any fun s => s == p) = true := by
      obtain ⟨t, rfl⟩ := hpf
      rw [List.any_append, hpre]
      rfl
    refine ⟨.bool true, ?_, by rw [hz], hB.trans (belowK_b (w := w) (Nat.le_refl _) W D _ _ (by simp at hD; omega) hK rfl rfl)⟩
    simp [results, Try.f21, go_sem, hc5]

/-- The slice value sv holds roles whose permissions are just gs, all below n₀. -/
def Roles (n₀ : Nat) (W : World) (sv : Value) (gs : List (List ByteArray)) : Prop :=
  ∃ a cap, sv = .slice a gs.length cap ∧ gs.length ≤ maxLen ∧ ∀ j, j < gs.length → ∃ b off br, a = some ⟨b, off, none⟩ ∧ b < n₀ ∧ W.cell? ⟨b, off + j, none⟩ = some (.pointer (some ⟨br, 0, none⟩)) ∧ RoleAt n₀ W br (gs[j]?.getD [])
theorem Roles.below {n₀ : Nat} {A B : World} (h : Below n₀ A B) {sv : Value} {gs : List (List ByteArray)} (hr : Roles n₀ A sv gs) : Roles n₀ B sv gs := by
  obtain ⟨a, cap, rfl, h1, h2⟩ := hr
  refine ⟨a, cap, rfl, h1, fun j hj => ?_⟩
  obtain ⟨b, off, br, rfl, hb, hc, hra⟩ := h2 j hj
  exact ⟨b, off, br, rfl, hb, (h.cell (p := ⟨b, off + j, none⟩) hb).trans hc, hra.below h⟩
theorem RoleAt.mono {n₀ n₁ : Nat} {W : World} (h : n₀ ≤ n₁) {br : Nat} {ss : List ByteArray} (hr : RoleAt n₀ W br ss) : RoleAt n₁ W br ss := by
  obtain ⟨h1, bm, h2, h3⟩ := hr
  exact ⟨by omega, bm, by omega, h3⟩
theorem Roles.mono {n₀ n₁ : Nat} {W : World} (h : n₀ ≤ n₁) {sv : Value} {gs : List (List ByteArray)} (hr : Roles n₀ W sv gs) : Roles n₁ W sv gs := by
  obtain ⟨a, cap, rfl, h1, h2⟩ := hr
  refine ⟨a, cap, rfl, h1, fun j hj => ?_⟩
  obtain ⟨b, off, br, rfl, hb, hc, hra⟩ := h2 j hj
  exact ⟨b, off, br, rfl, by omega, hc, hra.mono h⟩

/-- The roles one by one, each with what it holds. -/
theorem Roles.list {n₀ : Nat} {W : World} {sv : Value} {gs : List (List ByteArray)} (hr : Roles n₀ W sv gs) : ∃ zs : List (Role n₀ W), zs.map (fun x => x.1.2) = gs ∧ Ptrs (fun x : Role n₀ W => x.1.1) n₀ W sv zs := by
  obtain ⟨a, cap, rfl, h1, h2⟩ := hr
  obtain ⟨f, hf⟩ := Deep.choose_lt (α := Nat) (n := gs.length) (p := fun j br => ∃ b off, a = some ⟨b, off, none⟩ ∧ b < n₀ ∧ W.cell? ⟨b, off + j, none⟩ = some (.pointer (some ⟨br, 0, none⟩)) ∧ RoleAt n₀ W br (gs[j]?.getD [])) (fun j hj => by
    obtain ⟨b, off, br, h⟩ := h2 j hj
    exact ⟨br, b, off, h⟩)
  have hra : ∀ i : Fin gs.length, RoleAt n₀ W (f i.1) (gs[i.1]?.getD []) := fun i => by
    obtain ⟨b, off, _, _, _, h⟩ := hf i.1 i.2
    exact h
  have hl : (List.ofFn fun i : Fin gs.length => (⟨(f i.1, gs[i.1]?.getD []), hra i⟩ : Role n₀ W)).length = gs.length := by simp
  refine ⟨List.ofFn fun i : Fin gs.length => ⟨(f i.1, gs[i.1]?.getD []), hra i⟩, ?_, a, cap, by rw [hl], by rw [hl]; exact h1, ?_⟩
  · apply List.ext_getElem
    · simp
    · intro i h1 h2
      simp
  · intro j z hz
    have hj : j < gs.length := by rw [← hl]; exact (List.getElem?_eq_some_iff.1 hz).1
    obtain ⟨b, off, h3, h4, h5, _⟩ := hf j hj
    refine ⟨b, off, h3, h4, ?_⟩
    have e : z = ⟨(f j, gs[j]?.getD []), hra ⟨j, hj⟩⟩ := by
      have := (List.getElem?_eq_some_iff.1 hz).2
      rw [← this]
      simp [hj]
    rw [e]
    exact h5

theorem any_map {n₀ : Nat} {W : World} (zs : List (Role n₀ W)) (p : ByteArray) : (zs.any fun x => x.1.2.any fun s => s == p) = occ (zs.map fun x => x.1.2) p := by
  unfold occ
  rw [List.any_map]
  rfl

set_option maxRecDepth 100000 in
set_option maxHeartbeats 1000000 in
/-- ZZanyHas. -/
theorem zzAnyHas_in (F : Fence) (n : Nat) (h12 : F.fn 12) (h21 : F.fn 21) (h22 : F.fn 22) (h25 : F.fn 25) (hro : F.round = none) (hn : 4 ≤ n) (sv : Value) (p : ByteArray) (hp : p.size ≤ maxLen) (w : World) (gs : List (List ByteArray)) (hr : Roles w.heap.size w sv gs) :
    CallsIn F n Try.prog 12 #[sv, .string p] w fun e W' => e = .returned (.bool (occ gs p)) ∧ Below w.heap.size w W' := by
  have h1 : 1 ≤ n := by omega
  obtain ⟨a, cap, rfl, hrest⟩ := id hr
  clear hrest
  generalize gs.length = len at hr
  have hB1 : Below w.heap.size w (w.alloc (.cells #[.slice a len cap] 25)) := (Below.refl _ w).alloc (Nat.le_refl _) _
  have hr1 : Roles (w.alloc (.cells #[.slice a len cap] 25)).heap.size (w.alloc (.cells #[.slice a len cap] 25)) (.slice a len cap) gs := (hr.below hB1).mono (by simp)
  obtain ⟨zs, hz, hP⟩ := hr1.list
  have hbox := (Boxed.new w 25 (.slice a len cap)).cell
  have hlt : w.heap.size < (w.alloc (.cells #[.slice a len cap] 25)).heap.size := by simp
  have HA := anyHas_in F (n - 1) h21 h25 hro (by omega) w.heap.size (.slice a len cap) p hp (w.alloc (.cells #[.slice a len cap] 25)) zs hlt hbox hP
  rw [any_map, hz] at HA
  clear hz hP hr1 hr
  refine callsIn_of_wp Try.func12 rfl h12 ?_ hro
  simp only [Try.ntmps12, List.size_toArray, List.length_cons, List.length_nil, Nat.reduceAdd, Nat.reduceSub, Array.replicate_succ, Array.replicate_zero, List.push_toArray, List.append_toArray, List.nil_append, List.cons_append]
  gi_wp2_with (gi_at_call 22; refine (values_in F (n - 1) h22 hro _ _ _ _).mono ?_; rintro e w' ⟨rfl, rfl⟩)
  refine HA.mono ?_
  rintro e w' ⟨rfl, hB⟩
  gi_wp2
  go_ret
  exact ⟨rfl, hB1.trans (hB.mono (by simp))⟩
end Go.Proofs.Qxb6614327a
