import Derived.Test.Qxb6614327aPerm
import Derived.Maps.AppendAt
namespace Go.Proofs.Qxb6614327a
open Go.RowKit Go.Shelf Go.Maps

attribute [local go_sem] Oper.semAt_some

/-- A loop over a sequence of strings that writes the map bs while it goes, and whose body never leaves: out of the statement's bare law. 'hcall': what the sequence does with whatever invariant J. -/
theorem range_lets {F : Fence} {n : Nat} {g : Operand} {p : Tmp} {assign body : Code} {Q : Exit → Act → World → Prop} {a : Act} {w : World} (hro : F.round = none) (h1 : 1 ≤ n)
    {gf : Nat} {lb : Array Value} (hg : a.eval g = .func (.func gf) #[] lb) (hFg : F.fn gf) (eg : ∀ args w, (callFunc gf args).run Try.prog w = .ok (.enter gf args) w)
    (bs n₀ N : Nat) (S : List ByteArray → World → Prop) (hn₀ : n₀ ≤ w.heap.size) (I : List ByteArray → World → Prop) (hI : Lets bs w.heap.size I) (h0 : I [] w)
    (hbs : ∃ es ck, w.heap[bs]? = some (.map es ck)) (hS : Lets w.heap.size w.heap.size S)
    (hcall : ∀ (l : Nat) (J : List ByteArray → World → Prop) (W : World), Below w.heap.size w W → Lets bs W.heap.size J → (∀ m pre x W1, J pre W1 → pre.length < N → YieldAt F m Try.prog l #[.string x] W1 fun e W' => e = .returned (.bool true) ∧ J (pre ++ [x]) W' ∧ KeepsT W1 W' ∧ Below n₀ W1 W') →
      J [] W → CallsIn F (n - 1) Try.prog gf (#[.func (.yield l) #[] #[]] ++ lb) W fun e W' => (∃ v, e = .returned v) ∧ ∃ xs, S xs W' ∧ J xs W')
    (a₁ : ByteArray → Act)
    (hassign : ∀ (l m : Nat) (x : ByteArray) (W : World) (K : Act → World → Prop), K (a₁ x) W → assign.wpIn (F.inRound l) m Try.prog (Exit.then K (fun _ _ _ => False)) { tmps := (#[p].zip #[Value.string x]).foldl (fun t (p, v) => t.setIfInBounds p v) a.tmps, defers := [] } W)
    (hbody : ∀ (l m : Nat) (pre : List ByteArray) (x : ByteArray) (W : World), I pre W → pre.length < N → body.wpIn (F.inRound l) m Try.prog (fun e _ W' => e = .normal ∧ KeepsT W W' ∧ Below n₀ W W' ∧ I (pre ++ [x]) W') (a₁ x) W)
    (hdone : ∀ (D : Nat) (xs : List ByteArray) (W : World), w.heap.size ≤ D → S xs W → I xs W → W.heap[D]? = some (.deferred (some [])) → Q .normal { a with defers := { target := .collected D, args := #[] } :: a.defers } W) :
    (Code.rangeFunc g #[p] assign body).wpIn F n Try.prog Q a w := by
  refine wpIn_rangeFunc fun fn hfn => ?_
  rw [hro]
  obtain ⟨rc, hrc⟩ : ∃ rc : LoopState → Loop, rc = fun st => { state := st, pending := none, fn, tmps := a.tmps, params := #[p], assign, body, defers := w.heap.size } := ⟨_, rfl⟩
  obtain ⟨W1, hW1⟩ : ∃ W1, (w.alloc (.deferred (some []))).alloc (.loop (rc .ready)) = W1 := ⟨_, rfl⟩
  have hz1 : W1.heap.size = w.heap.size + 2 := by rw [← hW1]; simp
  have hL1 : W1.heap[w.heap.size + 1]? = some (.loop (rc .ready)) := by
    rw [← hW1]
    have := World.alloc_heap_new (w.alloc (.deferred (some []))) (.loop (rc .ready))
    rwa [World.size_alloc] at this
  have hD1 : W1.heap[w.heap.size]? = some (.deferred (some [])) := by
    rw [← hW1]
    exact (Below.heap_alloc _ _ _ (by simp)).trans (World.alloc_heap_new w _)
  have hB1 : Below w.heap.size w W1 := by rw [← hW1]; exact ((Below.refl _ w).alloc (Nat.le_refl _) _).alloc (by simp) _
  have hI1 : I [] W1 := by
    rw [← hW1]
    exact hI _ _ _ _ (hI _ _ _ _ h0 (World.grownBy_alloc w _ none) (fun r e => by cases e)) (World.grownBy_alloc _ _ none) (fun r e => by cases e)
  have hbl : bs < w.heap.size := by obtain ⟨es, ck, h⟩ := hbs; exact (Array.getElem?_eq_some_iff.1 h).1
  refine ⟨w.heap.size + 1, [{ target := .collected w.heap.size, args := #[] }], W1, { target := .fn (.func gf) lb, args := #[.func (.yield (w.heap.size + 1)) #[] #[]] }, W1, gf,
    #[.func (.yield (w.heap.size + 1)) #[] #[]] ++ lb, W1, ?_, ?_, ?_, ?_, fun _ => h1, ?_⟩
  · rw [← hW1, hrc]; exact run_enterLoop_outer _ _ _ _ _
  · simp only [resolve, hg]
    simp [go_sem]
  · intro f' hf'; simp [Target.leads] at hf'; subst hf'; exact hFg
  · simp [invoke, go_sem, eg]
  refine (hcall (w.heap.size + 1) (fun pre W => I pre W ∧ W.heap[w.heap.size + 1]? = some (.loop (rc .ready)) ∧ W.heap[w.heap.size]? = some (.deferred (some []))) W1 hB1 ?_ ?_ ⟨hI1, hL1, hD1⟩).mono ?_
  · -- the invariant, with the two blocks of the book-keeping, lets the sequence go on
    rintro s A A' row ⟨e1, e2, e3⟩ hgr hr
    have hne : ∀ k, k = w.heap.size ∨ k = w.heap.size + 1 → some k ≠ row := fun k hk e => by
      rcases (hr k e.symm).1 with h | h
      · omega
      · omega
    refine ⟨hI _ _ _ _ e1 hgr (fun r e => ⟨(hr r e).1.imp id (fun h => by omega), (hr r e).2⟩), (hgr.block _ (Array.getElem?_eq_some_iff.1 e2).1 (hne _ (.inr rfl))).trans e2, (hgr.block _ (Array.getElem?_eq_some_iff.1 e3).1 (hne _ (.inl rfl))).trans e3⟩
  · -- one round
    rintro m pre x W ⟨e1, e2, e3⟩ hlt
    have hlt2 := (Array.getElem?_eq_some_iff.1 e2).1
    have hy := run_yield (P := Try.prog) (args := #[.string x]) e2 (by rw [hrc]; rfl)
    rw [hrc] at hy
    refine ⟨fn, _, assign, body, hy, roundIn_of_wpIn hfn (hassign _ m x W _ ⟨_, run_beginRound e2 (by rw [hrc]), ?_⟩)⟩
    have f2 : (W.putObj (w.heap.size + 1) (.loop { rc .ready with state := .busy })).heap[w.heap.size + 1]? = some (.loop { rc .ready with state := .busy }) := World.putObj_heap_same hlt2
    have f3 : (W.putObj (w.heap.size + 1) (.loop { rc .ready with state := .busy })).heap[w.heap.size]? = some (.deferred (some [])) := (World.putObj_heap_other (by omega)).trans e3
    have g1 := grownBy_putObj' W (w.heap.size + 1) (.loop { rc .ready with state := .busy })
    refine wpIn_mono (hbody _ m pre x _ (hI _ _ _ _ e1 g1 (fun r e => by cases e; exact ⟨.inr (by omega), _, e2, rfl⟩)) hlt) ?_
    rintro e a3 W3 ⟨rfl, k3, b3, i3⟩
    have l3 := k3.same _ _ f2 (fun _ _ _ e => by cases e)
    have d3 := k3.same _ _ f3 (fun _ _ _ e => by cases e)
    have hend := run_endRound (P := Try.prog) none l3
    have hback : ({ ({ rc .ready with state := .busy } : Loop) with state := if (none : Option Code).isNone then .ready else .done, pending := none } : Loop) = rc .ready := by rw [hrc]; rfl
    rw [hback] at hend
    have hlt3 := (Array.getElem?_eq_some_iff.1 l3).1
    have g3 := grownBy_putObj' W3 (w.heap.size + 1) (.loop (rc .ready))
    refine ⟨_, _, hend, rfl, ⟨hI _ _ _ _ i3 g3 (fun r e => by cases e; exact ⟨.inr (by omega), _, l3, rfl⟩), World.putObj_heap_same hlt3, (World.putObj_heap_other (by omega)).trans d3⟩, ⟨?_, fun k o hk ho => ?_⟩, ?_⟩
    · have := k3.size; simp at this ⊢; exact this
    · by_cases e : k = w.heap.size + 1
      · subst e
        rw [e2] at hk
        cases hk
        exact World.putObj_heap_same hlt3
      · exact (World.putObj_heap_other e).trans (k3.same k o ((World.putObj_heap_other e).trans hk) ho)
    · exact (((Below.refl n₀ W).grown g1 (by omega) (fun k e => by cases e; omega)).trans b3).grown g3 (by omega) (fun k e => by cases e; omega)
  · -- behind the sequence
    rintro e W2 ⟨⟨v, rfl⟩, xs, hSx, e1, e2, e3⟩
    have hp : (rc .ready).pending = none := by rw [hrc]
    have hend : (Instr.endLoop (w.heap.size + 1)).run Try.prog W2 = .ok none (W2.putObj (w.heap.size + 1) (.loop { rc .ready with state := .exhausted })) :=
      (run_endLoop (P := Try.prog) e2 (by rw [hrc]; simp)).trans (congrArg (fun z => Result.ok z _) hp)
    have g1 := grownBy_putObj' W2 (w.heap.size + 1) (.loop { rc .ready with state := .exhausted })
    exact ⟨none, _, hend, hdone _ xs _ (Nat.le_refl _) (hS _ _ _ _ hSx g1 (fun r e => by cases e; exact ⟨.inr (by omega), _, e2, rfl⟩)) (hI _ _ _ _ e1 g1 (fun r e => by cases e; exact ⟨.inr (by omega), _, e2, rfl⟩)) ((World.putObj_heap_other (by omega)).trans e3)⟩

theorem Try.info9 : (Try.prog.info? 9).map (fun i => (i.zero, i.size, i.bytes)) = some (some (.string ⟨#[]⟩), 1, 16) := by kernel_rfl

theorem keepsT_append {W w1 : World} {tmp : Obj} {v v' : Value} {B base k : Nat} {xs : List Value} (hv : Boxed W B 31 v) (hrow : W.ownsRow base 9 1 v k xs) (hgrow : (W.alloc tmp).grownBy w1 v.ownBlock) : KeepsT W (w1.setCell ⟨B, 0, none⟩ v') := by
  refine ⟨?_, fun j o hj ho => ?_⟩
  · have h1 := hgrow.size
    have h2 := (grownBy_setCell' w1 B v').size
    simp at h1
    omega
  · have hlt := (Array.getElem?_eq_some_iff.1 hj).1
    have hB : j ≠ B := fun e => by
      subst e
      rw [show W.heap[j]? = _ from hv] at hj
      cases hj
      exact (ho _ _ _ rfl).2 rfl
    have hg : some j ≠ v.ownBlock := fun e => by
      rcases hrow.2 with ⟨rfl, _⟩ | ⟨g, cap, cur, rfl, _, hgb, _⟩
      · simp [Value.ownBlock] at e
      · obtain rfl : j = g := by simpa [Value.ownBlock] using e
        rw [hgb] at hj
        cases hj
        exact (ho _ _ _ rfl).1 rfl
    refine (Below.heap_setCell _ _ _ _ hB).trans ((hgrow.block j (by simp; omega) hg).trans ((Below.heap_alloc _ _ _ hlt).trans hj))

theorem Listed.conv {n₀ : Nat} {A B : World} {U : List ByteArray} (f : RoleU n₀ A U → RoleU n₀ B U) (hf : ∀ x, (f x).1 = x.1) {zs : List (RoleU n₀ A U)} {xs : List ByteArray} (h : Listed (zs.map f) xs) : Listed zs xs := by
  refine ⟨h.1, fun s => (h.2 s).trans ?_⟩
  constructor
  · rintro ⟨r, hr, hs⟩
    obtain ⟨x, hx, rfl⟩ := List.mem_map.1 hr
    exact ⟨x, hx, by rw [← hf]; exact hs⟩
  · rintro ⟨r, hr, hs⟩
    exact ⟨f r, List.mem_map.2 ⟨r, hr, rfl⟩, by rw [hf]; exact hs⟩
theorem Ptrs.conv {n₀ : Nat} {A B : World} {U : List ByteArray} (f : RoleU n₀ A U → RoleU n₀ B U) (hf : ∀ x, (f x).1 = x.1) {W : World} {sv : Value} {zs : List (RoleU n₀ A U)} (h : Ptrs (fun x : RoleU n₀ A U => x.1.1) n₀ W sv zs) :
    Ptrs (fun x : RoleU n₀ B U => x.1.1) n₀ W sv (zs.map f) := by
  obtain ⟨a, cap, rfl, h1, h2⟩ := h
  refine ⟨a, cap, by simp, by simpa using h1, fun j z hz => ?_⟩
  rw [List.getElem?_map] at hz
  obtain ⟨y, hy, rfl⟩ := Option.map_eq_some_iff.1 hz
  obtain ⟨b, off, h3, h4, h5⟩ := h2 j y hy
  exact ⟨b, off, h3, h4, by show W.cell? _ = some (.pointer (some ⟨(f y).1.1, 0, none⟩)); rw [hf]; exact h5⟩

set_option maxRecDepth 100000 in
set_option maxHeartbeats 4000000 in
/-- slices.AppendSeq(nil, permissionsOf's sequence). -/
theorem append26_in (F : Fence) (hd : F.depth = none) (n : Nat) (hn : 5 ≤ n) (h26 : F.fn 26) (h27 : F.fn 27) (h25 : F.fn 25) (hro : F.round = none) (sb rb Bs bs n₀ nn : Nat) (D0 : DataW Unit) (sv : Value) (w : World) (U : List ByteArray) (zs : List (RoleU n₀ w U))
    (hn₀ : n₀ ≤ bs) (hbs : w.ownsMap Try.prog 9 (unitElem (H := Unit)) bs nn D0) (hsb : Boxed w sb 29 (.map (some bs))) (hrb : Boxed w rb 46 (.func (.func 25) #[] #[.pointer (some ⟨Bs, 0, none⟩)]))
    (hBs : Boxed w Bs 25 sv) (hP : Ptrs (fun x : RoleU n₀ w U => x.1.1) n₀ w sv zs) (hN : U.length ≤ 65536) :
    CallsIn F n Try.prog 26 #[.slice none 0 0, .func (.func 27) #[] #[.pointer (some ⟨sb, 0, none⟩), .pointer (some ⟨rb, 0, none⟩)]] w fun e W' => ∃ v xs, e = .returned v ∧ Listed zs xs ∧ SetAt W' bs xs ∧ W'.ownsRow w.heap.size 9 1 v xs.length (xs.map Value.string) ∧ w.grownBy W' (some bs) := by
  have h1 : 1 ≤ n := by omega
  obtain ⟨i0, hi, hz0, hz1, hz2⟩ := info_parts Try.info9
  have hbl := World.ownsMap.lt hbs
  refine callsIn_of_wp_marks Try.func26 rfl h26 ?_ hro
  simp only [Try.ntmps26, List.size_toArray, List.length_cons, List.length_nil, Nat.reduceAdd, Nat.reduceSub, Array.replicate_succ, Array.replicate_zero, List.push_toArray, List.append_toArray, List.nil_append, List.cons_append]
  gi_wp2
  have bX := Boxed.new w 31 (.slice none 0 0)
  have hBw : Below w.heap.size w (w.alloc (.cells #[.slice none 0 0] 31)) := (Below.refl _ w).alloc (Nat.le_refl _) _
  refine range_lets (w := w.alloc (.cells #[.slice none 0 0] 31)) hro h1 (gf := 27) (lb := #[.pointer (some ⟨sb, 0, none⟩), .pointer (some ⟨rb, 0, none⟩)]) rfl h27 (enters_of Try.func27 (by kernel_rfl) rfl)
    bs n₀ U.length (fun xs W => Listed zs xs ∧ SetAt W bs xs) (by simp; omega)
    (fun pre W => (∃ v, Boxed W w.heap.size 31 v ∧ W.ownsRow w.heap.size 9 1 v pre.length (pre.map Value.string)) ∧ w.grownBy W (some bs)) ?hI
    ⟨⟨_, bX, World.ownsRow_nil _ _ _ _⟩, (World.grownBy_alloc w _ none).but _⟩ ?hbs ?hS ?hcall
    (fun x => { tmps := #[.slice none 0 0, .func (.func 27) #[] #[.pointer (some ⟨sb, 0, none⟩), .pointer (some ⟨rb, 0, none⟩)], .pointer (some ⟨w.heap.size, 0, none⟩), undef, .slice none 0 0, .string x, .func (.func 27) #[] #[.pointer (some ⟨sb, 0, none⟩), .pointer (some ⟨rb, 0, none⟩)], .string x, undef, undef, undef, undef, undef], defers := [] }) ?assign ?body ?done
  case hI =>
    rintro pre A A' row ⟨⟨v, e1, e2⟩, e3⟩ hg hr
    have hnc : ∀ {B : Nat} {c : Array Value} {t : TypeId} {f : Nat × Nat}, A.heap[B]? = some (.cells c t f) → some B ≠ row := fun hb e => by
      obtain ⟨o, ho, hc⟩ := (hr _ e.symm).2
      rw [hb] at ho
      cases ho
      cases hc
    refine ⟨⟨v, e1.kept hg (hnc e1), e2.kept hg ?_⟩, e3.andThen hg (fun j e => ?_)⟩
    · rcases e2.2 with ⟨rfl, _⟩ | ⟨g, cap, cur, rfl, _, hgb, _⟩
      · exact .inl rfl
      · exact .inr (fun e => hnc hgb e)
    · rcases (hr j e).1 with h | h
      · exact .inr (by rw [h])
      · exact .inl (by simp at h; omega)
  case hbs =>
    obtain ⟨es, ck, hh, _⟩ := World.ownsMap.alloc hbs (.cells #[.slice none 0 0] 31)
    exact ⟨es, ck, hh⟩
  case hS =>
    rintro xs A A' row ⟨e1, e2⟩ hg hr
    refine ⟨e1, World.ownsMap.kept e2 hg (fun e => ?_)⟩
    have := (hr _ e.symm).1
    simp at this
    omega
  case hcall =>
    intro l J W hB hJ hY h0
    have hB2 : Below w.heap.size w W := hBw.trans (hB.mono (by simp))
    have hB3 : Below n₀ w W := hB2.mono (by omega)
    have hlow : ∀ {B : Nat} {t : TypeId} {v : Value}, Boxed w B t v → Boxed W B t v := fun h => (hB2.block _ h.lt).trans h
    obtain ⟨cv, hcv⟩ : ∃ cv : RoleU n₀ w U → RoleU n₀ W U, ∀ x, (cv x).1 = x.1 := ⟨fun x => ⟨x.1, x.2.1.below hB3, x.2.2⟩, fun _ => rfl⟩
    refine (perms_in F hd (n - 1) (by omega) h27 h25 hro l sb rb Bs bs n₀ nn D0 sv W U (zs.map cv) J hn₀ (ownsMap_block hbs (hB2.block _ hbl)) (hlow hsb) (hlow hrb) (hlow hBs)
      (Ptrs.conv cv hcv (hP.below hB3)) hN hY hJ h0).mono ?_
    rintro e W' ⟨hv, xs, e1, e2, e3⟩
    exact ⟨hv, xs, ⟨e1.conv cv hcv, e3⟩, e2⟩
  case assign =>
    intro l m x W K hK
    gi_wp2
    exact hK
  case body =>
    rintro l m pre x W ⟨⟨v, hv, hrow⟩, hgr⟩ hlt
    have hvc := hv.cell
    have hz := hgr.size
    gi_wp2_with (gi_at_builtin; refine wpListIn_append_own _ rfl _ _ 31 rfl w.heap.size 9 i0 (.string ⟨#[]⟩) 1 16 Try.underlying31 hi hz0 hz1 hz2 rfl (by decide) _ _ _ rfl (hrow.alloc _) ⟨W.heap.size, 0, none⟩ 1 1 [.string x] rfl rfl (cell_one_new _ _ _) (by simp [Value.oneCell']) (by unfold maxLen; omega) (by omega) (by simp; omega) ?_; intro v' w1 hown' hgrow _; obtain ⟨g', cap', rfl⟩ := ownsRow_succ hown'; obtain ⟨hv1, hv2, hr2, hk2, hb2⟩ := hv.appended (by decide) hrow hz (Nat.le_refl _) hown' hgrow; have hc1 := hv1.cell; have hf1 := hv1.frozen)
    have hlow : ∀ j, v.ownBlock = some j → w.heap.size ≤ j := fun j ej => by
      rcases hrow.2 with ⟨rfl, _⟩ | ⟨g, cap, cur, rfl, hb, _, _⟩
      · simp [Value.ownBlock] at ej
      · obtain rfl : g = j := by simpa [Value.ownBlock] using ej
        exact hb
    refine ⟨keepsT_append hv hrow hgrow, hb2.mono (by omega), ⟨_, hv2, hr2⟩, ?_⟩
    exact ((hgr.andThen (World.grownBy_alloc W _ none) (fun j e => by cases e)).andThen hgrow (fun j e => .inl (hlow j e))).andThen (grownBy_setCell' w1 w.heap.size _) (fun j e => by cases e; exact .inl (Nat.le_refl _))
  case done =>
    rintro D xs W hD ⟨e1, e2⟩ ⟨⟨v, hv, hrow⟩, hgr⟩ hK
    have hvc := hv.cell
    gi_wp2
    refine ⟨by simp, .inl ⟨_, _, rfl, run_takeDeferred hK, ?_⟩⟩
    have hg := grownBy_putObj' W D (.deferred none)
    have hDw : w.heap.size < D := by simp at hD; omega
    exact ⟨_, results_tmp rfl _ _ _, v, xs, rfl, e1, World.ownsMap.kept e2 hg (by intro e; injection e; omega), ownsRow_putObj hrow _ hK rfl, hgr.andThen hg (fun j e => by cases e; exact .inl (by omega))⟩
end Go.Proofs.Qxb6614327a
