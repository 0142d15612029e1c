import Derived.Test.Qxb6614327aPlain
namespace Go.Proofs.Qxb6614327a
open Go.RowKit Go.Shelf Go.Maps

attribute [local go_sem] Oper.semAt_some

/-- A role whose strings are among U. -/
abbrev RoleU (n₀ : Nat) (W : World) (U : List ByteArray) := { x : Nat × List ByteArray // RoleAt n₀ W x.1 x.2 ∧ ∀ s ∈ x.2, s ∈ U }

/-- What has been listed when the roles pre are through. -/
def Listed {n₀ : Nat} {W : World} {U : List ByteArray} (pre : List (RoleU n₀ W U)) (xs : List ByteArray) : Prop := xs.Nodup ∧ ∀ s, s ∈ xs ↔ ∃ r ∈ pre, s ∈ r.1.2

theorem nodup_le : ∀ {xs ys : List ByteArray}, xs.Nodup → (∀ s ∈ xs, s ∈ ys) → xs.length ≤ ys.length
  | [], _, _, _ => Nat.zero_le _
  | x :: xs, ys, hn, hs => by
    obtain ⟨hx, hn'⟩ := List.nodup_cons.1 hn
    obtain ⟨a, b, rfl⟩ := List.append_of_mem (hs x (by simp))
    have := nodup_le (ys := a ++ b) hn' (fun s h => by
      have h1 := hs s (by simp [h])
      have h2 : s ≠ x := fun e => hx (by rw [← e]; exact h)
      simp only [List.mem_append, List.mem_cons] at h1 ⊢
      rcases h1 with h1 | h1 | h1
      · exact .inl h1
      · exact absurd h1 h2
      · exact .inr h1)
    simp at this ⊢
    omega

theorem keepsFrom_grown {B : Nat} {V A A' : World} {row : Option Nat} (h : KeepsFrom B V A) (hg : A.grownBy A' row) (hr : ∀ j, row = some j → j < B ∨ V.heap.size ≤ j) : KeepsFrom B V A' :=
  ⟨Nat.le_trans h.size hg.size, fun k o hB hk ho => by
    have h1 := h.same k o hB hk ho
    refine (hg.block k (Array.getElem?_eq_some_iff.1 h1).1 (fun e => ?_)).trans h1
    have h2 := hr k e.symm
    have h3 := (Array.getElem?_eq_some_iff.1 hk).1
    omega⟩
theorem keepsFrom_typed {B : Nat} {V A A' : World} (h : KeepsFrom B V A) (hk : KeepsT A A') : KeepsFrom B V A' := h.trans (hk.from B)

theorem keyOf9_inv {s : ByteArray} {kl : Lit} (h : keyOf Try.prog 9 (.string s) = some kl) : s.size ≤ maxLen ∧ kl = keyLit s := by
  simp [keyOf, mapKey, Try.underlying9] at h
  exact ⟨h.1, h.2.symm⟩

set_option maxRecDepth 100000 in
set_option maxHeartbeats 4000000 in
theorem perms_in (F : Fence) (hd : F.depth = none) (n : Nat) (hn : 4 ≤ n) (h27 : F.fn 27) (h25 : F.fn 25) (hro : F.round = none) (l sb rb Bs bs n₀ nn : Nat) (D0 : DataW Unit) (sv : Value) (W : World) (U : List ByteArray) (zs : List (RoleU n₀ W U)) (J : List ByteArray → World → Prop)
    (hn₀ : n₀ ≤ bs) (hbs : W.ownsMap Try.prog 9 (unitElem (H := Unit)) bs nn D0) (hsb : Boxed W sb 29 (.map (some bs))) (hrb : Boxed W rb 46 (.func (.func 25) #[] #[.pointer (some ⟨Bs, 0, none⟩)]))
    (hBs : Boxed W Bs 25 sv) (hI : Ptrs (fun x : RoleU n₀ W U => x.1.1) n₀ W sv zs) (hN : U.length ≤ 65536)
    (hY : ∀ m pre x W1, J pre W1 → pre.length < U.length → YieldAt F m Try.prog l #[.string x] W1 fun e W' => e = .returned (.bool true) ∧ J (pre ++ [x]) W' ∧ KeepsT W1 W' ∧ Below n₀ W1 W')
    (hJ : Lets bs W.heap.size J) (h0 : J [] W) :
    CallsIn F n Try.prog 27 #[.func (.yield l) #[] #[], .pointer (some ⟨sb, 0, none⟩), .pointer (some ⟨rb, 0, none⟩)] W fun e W' => (∃ v, e = .returned v) ∧ ∃ xs, Listed zs xs ∧ J xs W' ∧ SetAt W' bs xs := by
  have h1 : 1 ≤ n := by omega
  have hdd : ∀ k : Nat, (F.depth.isSome = true → 1 ≤ k) := fun k h => by rw [hd] at h; cases h
  have hbl := World.ownsMap.lt hbs
  -- the world when seen has been cleared
  have hnm : ∀ {B : Nat} {t : TypeId} {v : Value}, Boxed W B t v → some B ≠ some bs := fun hb e => by
    cases e
    obtain ⟨es, ck, hh, _⟩ := hbs
    have := (show W.heap[bs]? = _ from hb).symm.trans hh
    cases this
  obtain ⟨W1, hclr, hm1, hg1, hz1⟩ := run_clear (World.ownsMap.alloc hbs (.cells #[.func (.yield l) #[] #[]] 56))
  simp only [World.size_alloc] at hz1
  have bY : Boxed W1 W.heap.size 56 (.func (.yield l) #[] #[]) := (Boxed.new W 56 (.func (.yield l) #[] #[])).kept hg1 (by intro e; cases e; omega)
  have bS : Boxed W1 sb 29 (.map (some bs)) := (hsb.alloc _).kept hg1 (hnm hsb)
  have bR : Boxed W1 rb 46 _ := (hrb.alloc _).kept hg1 (hnm hrb)
  have bB : Boxed W1 Bs 25 sv := (hBs.alloc _).kept hg1 (hnm hBs)
  have hB1 : Below n₀ W W1 := ((Below.refl n₀ W).alloc (by omega) _).grown hg1 (by simp; omega) (fun k e => by cases e; exact hn₀)
  have hJ1 : J [] W1 := by
    refine hJ _ _ _ _ (hJ _ _ _ _ h0 (World.grownBy_alloc W (.cells #[.func (.yield l) #[] #[]] 56) none) (fun r e => by cases e)) hg1 (fun r e => ?_)
    cases e
    obtain ⟨es, ck, hh, _⟩ := World.ownsMap.alloc hbs (.cells #[.func (.yield l) #[] #[]] 56)
    exact ⟨.inl rfl, _, hh, rfl⟩
  refine callsIn_of_wp_marks Try.func27 rfl h27 ?_ hro
  simp only [Try.ntmps27, List.size_toArray, List.length_cons, List.length_nil, Nat.reduceAdd, Nat.reduceSub, Array.replicate_succ, Array.replicate_zero, List.push_toArray, List.append_toArray, List.nil_append, List.cons_append]
  have hsbc := (hsb.alloc (.cells #[.func (.yield l) #[] #[]] 56)).cell
  have hrbc := bR.cell
  gi_wp2
  clear hclr hsbc hrbc
  refine wpIn_rangeFunc_ownG hro h1 (gf := 25) (lb := #[.pointer (some ⟨Bs, 0, none⟩)]) rfl h25 (enters_of Try.func25 (by kernel_rfl) rfl)
    (values_stops (fun x : RoleU n₀ W U => x.1.1) F (n - 1) h25 hro (by omega) Bs n₀ sv zs W1 bB.lt (by omega) bB.cell (hI.below hB1)) belowK_t (belowK_b (by omega)) (Below.refl _ _) (fun _ => rfl)
    (fun pre V => ∃ xs, J xs V ∧ V.ownsMap Try.prog 9 (unitElem (H := Unit)) bs xs.length (setD xs) ∧ Listed pre xs ∧ Boxed V W.heap.size 56 (.func (.yield l) #[] #[]) ∧ Boxed V sb 29 (.map (some bs)) ∧ Below n₀ W V)
    (fun _ _ _ => False)
    ?hI (fun _ _ _ _ _ hs _ _ => hs)
    ⟨[], hJ1, hm1, ⟨List.nodup_nil, by simp⟩, bY, bS, hB1⟩
    (fun x => { tmps := #[.func (.yield l) #[] #[], .pointer (some ⟨sb, 0, none⟩), .pointer (some ⟨rb, 0, none⟩), .pointer (some ⟨W.heap.size, 0, none⟩), .pointer (some ⟨x.1.1, 0, none⟩), undef, undef, undef, .map (some bs), .func (.func 25) #[] #[.pointer (some ⟨Bs, 0, none⟩)], .pointer (some ⟨x.1.1, 0, none⟩), undef, undef, undef, undef, undef, undef, undef, undef, undef, undef, undef, undef, undef, undef, undef, undef, undef, undef, undef, undef, undef, undef, undef], defers := [] }) ?assign ?body ?done ?stop
  case hI =>
    rintro pre A A' row ⟨xs, e1, e2, e3, e4, e5, e6⟩ hg hr
    have hne : ∀ j, row = some j → W1.heap.size ≤ j := fun j e => (hr j e).1
    refine ⟨xs, hJ _ _ _ _ e1 hg (fun r e => ⟨.inr (by have := hne r e; omega), (hr r e).2⟩), e2.kept hg (fun e => by have := hne _ e.symm; omega), e3, e4.kept hg (fun e => by have := hne _ e.symm; omega), e5.kept hg (fun e => by have := hne _ e.symm; have := bS.lt; omega), e6.grown hg (by have := e6.size; omega) (fun k e => by have := hne k e; omega)⟩
  case assign =>
    intro l x V K hK
    gi_wp2
    exact hK
  case body =>
    rintro l2 pre x V ⟨xs, hJx, hmx, hL, bYv, bSv, hBv⟩ hlt
    obtain ⟨hbr, bm, hbm, hcm, hset⟩ := x.2.1.below hBv
    have hxU := x.2.2
    obtain ⟨ss, Hss⟩ : ∃ ss, Hid (x.1.2 = ss) := ⟨_, rfl⟩
    rw [Hss.out] at hset hxU
    generalize x.1.1 = br at *
    have hVz := bYv.lt
    have hVW := hBv.size
    gi_wp2_with (gi_at_range; refine wpListIn_range_own _ rfl _ 29 rfl 9 43 key9 Try.underlying29 (unitElem (H := Unit)) bm ss.length _ rfl hset ?_; intro V1 hrg hgr hsz)
    go_frame
    gi_loopw [5] (fun _ wr => ∃ ys left cnt, J ys wr ∧ wr.ownsMap Try.prog 9 (unitElem (H := Unit)) bs ys.length (setD ys) ∧ ys.Nodup ∧ (∀ s, s ∈ ys ↔ (s ∈ xs ∨ (s ∈ ss ∧ left (keyLit s) = false))) ∧
        wr.ranges Try.prog 9 (unitElem (H := Unit)) bm V.heap.size ss.length (setD ss) left cnt ∧ (∀ s, left (keyLit s) = true → s ∈ ss) ∧
        Boxed wr W.heap.size 56 (.func (.yield l) #[] #[]) ∧ Boxed wr sb 29 (.map (some bs)) ∧ Below n₀ W wr ∧ Below n₀ V wr ∧ KeepsFrom W1.heap.size V wr)
      (fun _ wr => wr.rangeLeft bm V.heap.size)
    case atStart =>
      refine ⟨xs, _, _, hJ _ _ _ _ hJx hgr (fun r e => by cases e), hmx.kept hgr (by simp), hL.1, fun s => ?_, hrg, fun s h => has_mem.1 h, bYv.kept hgr (by simp), bSv.kept hgr (by simp), hBv.grown hgr (by omega) (fun k e => by cases e), (Below.refl _ V).grown hgr (by omega) (fun k e => by cases e), keepsFrom_grown (KeepsFrom.refl _ V) hgr (fun k e => by cases e)⟩
      constructor
      · exact .inl
      · rintro (h | ⟨h, h'⟩)
        · exact h
        · rw [has_mem.2 h] at h'; cases h'
    case round =>
      obtain ⟨ys, left, cnt, hJy, hmy, hnd, hmem, hrgy, hleft, bYw, bSw, hBW, hBV, hKF⟩ := hrel
      gi_wp2_with (gi_at_next; refine wpListIn_next_ranges _ rfl _ rfl 9 key9 (unitElem (H := Unit)) (fun s => Value.string s) (fun _ : Unit => Value.agg #[]) (fun key kl h => Maps.keyOf_string_inv Try.underlying9 h) (fun v y h => ⟨(), (unitElem_inv h).1⟩) bm V.heap.size ss.length _ left cnt rfl hrgy ?_ ?_)
      · intro hc0 hl0
        gi_wp2
        refine ⟨hKF, hBV, ys, hJy, hmy, ⟨hnd, fun s => ?_⟩, bYw, bSw, hBW⟩
        rw [hmem s, hL.2 s]
        constructor
        · rintro (⟨r, hr, hs⟩ | ⟨hs, _⟩)
          · exact ⟨r, by simp [hr], hs⟩
          · exact ⟨x, by simp, by rw [Hss.out]; exact hs⟩
        · rintro ⟨r, hr, hs⟩
          rcases List.mem_append.1 hr with hr | hr
          · exact .inl ⟨r, hr, hs⟩
          · simp at hr
            subst hr
            rw [Hss.out] at hs
            exact .inr ⟨hs, hl0 _⟩
      · intro s kl _ _ V2 cnt' hkey hlk _ _ hrg2 hlt2 hgr2 hsz2 hen
        obtain ⟨hss, rfl⟩ := keyOf9_inv hkey
        have hsin : s ∈ ss := hleft s hlk
        have hVlt : V.heap.size ≤ wr.heap.size := hBV.size
        have hrw : ∃ o, wr.heap[V.heap.size]? = some o ∧ o.isCells = false := by
          obtain ⟨es, ck, si, se, c0, _, _, _, _, hr, _⟩ := hrgy
          exact ⟨_, hr, rfl⟩
        have hJ2 : J ys V2 := hJ _ _ _ _ hJy hgr2 (fun r e => by cases e; exact ⟨.inr hVW, hrw⟩)
        have hm2 := hmy.kept hgr2 (by intro e; cases e; omega)
        have bY2 := bYw.kept hgr2 (by intro e; injection e; omega)
        have bS2 := bSw.kept hgr2 (by intro e; have := bSv.lt; injection e; omega)
        have hBW2 := hBW.grown hgr2 (by omega) (fun k e => by cases e; omega)
        have hBV2 := hBV.grown hgr2 (by omega) (fun k e => by cases e; omega)
        have hKF2 := keepsFrom_grown hKF hgr2 (fun k e => by cases e; exact .inr (Nat.le_refl _))
        have hsc2 := bS2.cell
        have Hcnt : Hid (wr.rangeLeft bm V.heap.size = cnt) := hrgy.left_eq
        clear hJy hmy hrgy bYw bSw hBW hBV hKF hgr2
        have hsc3 := (bS2.alloc (.cells #[] 43)).cell
        have hm3 := World.ownsMap.alloc hm2 (.cells #[] 43)
        have hJ3 : J ys (V2.alloc (.cells #[] 43)) := hJ _ _ _ _ hJ2 (World.grownBy_alloc V2 _ none) (fun r e => by cases e)
        have hsl := bS2.lt
        have hyl := bY2.lt
        cases hin : has (setD ys) (keyLit s)
        · -- a string that has not come yet
          have hni : s ∉ ys := fun h => by rw [has_mem.2 h] at hin; cases hin
          have hnd2 : (ys ++ [s]).Nodup := by
            rw [List.nodup_append]
            refine ⟨hnd, by simp, fun a ha b hb e => hni ?_⟩
            simp at hb
            rw [← hb, ← e]
            exact ha
          have hlen : ys.length < U.length := by
            have := nodup_le (ys := U) hnd2 (fun t ht => by
              rcases List.mem_append.1 ht with ht | ht
              · rcases (hmem t).1 ht with h | ⟨h, _⟩
                · obtain ⟨r, _, h⟩ := (hL.2 t).1 h
                  exact r.2.2 t h
                · exact hxU t h
              · simp at ht
                rw [ht]
                exact hxU s hsin)
            simp at this
            omega
          gi_wp2_with (first
            | (gi_at_lookup; refine wpListIn_lookup_own_unit _ rfl _ _ 29 rfl 9 43 key9 Try.underlying29 (zero43 _) bs ys.length _ rfl hm2 _ _ rfl hkey ?_)
            | (gi_at_mapUpdate; refine wpListIn_mapUpdate_own _ rfl _ _ _ 29 rfl 9 43 key9 Try.underlying29 (unitElem (H := Unit)) bs ys.length _ rfl hm3 (by unfold maxLen; omega) _ _ _ rfl rfl hkey _ [] unitElem_mk ?_; intro V4 hm4 hgr4
               have hJ4 : J ys V4 := hJ _ _ _ _ hJ3 hgr4 (fun r e => by
                 cases e
                 obtain ⟨es, ck, hh, _⟩ := hm3
                 exact ⟨.inl rfl, _, hh, rfl⟩)
               have bY4 := (bY2.alloc (.cells #[] 43)).kept hgr4 (by intro e; injection e; omega)
               have hyc4 := bY4.cell
               obtain ⟨fn, tmps, assign, body, hy, hR⟩ := hY (n - 1 - 1 - 1) ys s V4 hJ4 hlen))
          have hR' : RoundIn (F.inRound l2) (n - 1 - 1 - 1) Try.prog l fn tmps assign body V4 _ := hR
          refine hR'.mono ?_
          clear hR hR' hy
          rintro e V5 ⟨rfl, hJ5, hK5, hB5⟩
          have hrg4 := (hrg2.alloc (.cells #[] 43)).kept hgr4 (by intro e; injection e; omega) (by intro e; injection e; omega)
          have hrg5 := hK5.ranges hrg4
          have bS4 := (bS2.alloc (.cells #[] 43)).kept hgr4 (by intro e; injection e with e; subst e; obtain ⟨es, ck, hh, _⟩ := hm2; have := (show V2.heap[sb]? = _ from bS2).symm.trans hh; cases this)
          have hz2 : n₀ ≤ V2.heap.size := by omega
          have hBW4 := (hBW2.alloc hz2 (.cells #[] 43)).grown hgr4 (by simp; omega) (fun k e => by cases e; exact hn₀)
          have hBV4 := (hBV2.alloc hz2 (.cells #[] 43)).grown hgr4 (by simp; omega) (fun k e => by cases e; exact hn₀)
          have hKF4 := keepsFrom_grown (keepsFrom_grown hKF2 (World.grownBy_alloc V2 (.cells #[] 43) none) (fun k e => by cases e)) hgr4 (fun k e => by cases e; exact .inl (by omega))
          have hm5 := hK5.owns hm4
          clear hgr4 hm4 hm3 hm2 hJ2 hJ3 hJ4 hyc4 hsc2 hsc3 hen hrg2 hrg4 hin
          gi_wp2
          go_roundw
          case rel =>
            refine ⟨ys ++ [s], _, cnt', hJ5, by rw [setD_snoc, List.length_append]; exact hm5, hnd2, fun t => ?_, hrg5, fun t ht => hleft t (by simp at ht; exact ht.1), hK5.boxed bY4 (by decide) (by decide), hK5.boxed bS4 (by decide) (by decide), hBW4.trans hB5, hBV4.trans hB5, keepsFrom_typed hKF4 hK5⟩
            rw [List.mem_append, hmem t]
            constructor
            · rintro ((h | ⟨h, h'⟩) | h)
              · exact .inl h
              · exact .inr ⟨h, by simp [h']⟩
              · simp at h
                subst h
                exact .inr ⟨hsin, by simp [keyLit_same, beq_bytes.2 rfl]⟩
            · rintro (h | ⟨h, h'⟩)
              · exact .inl (.inl h)
              · by_cases e : left (keyLit t) = false
                · exact .inl (.inr ⟨h, e⟩)
                · have e1 : left (keyLit t) = true := by simpa using e
                  rw [e1, keyLit_same] at h'
                  have e2 : (t == s) = true := by simpa using h'
                  rw [beq_bytes.1 e2]
                  exact .inr (by simp)
          case measure => rw [hrg5.left_eq, Hcnt.out]; exact hlt2
        · -- a string that has come
          have hyi : s ∈ ys := has_mem.1 hin
          gi_wp2_with (gi_at_lookup; refine wpListIn_lookup_own_unit _ rfl _ _ 29 rfl 9 43 key9 Try.underlying29 (zero43 _) bs ys.length _ rfl hm2 _ _ rfl hkey ?_)
          go_roundw
          case rel =>
            refine ⟨ys, _, cnt', hJ3, hm3, hnd, fun t => ?_, hrg2.alloc _, fun t ht => hleft t (by simp at ht; exact ht.1), bY2.alloc _, bS2.alloc _, hBW2.alloc (by omega) _, hBV2.alloc (by omega) _, keepsFrom_grown hKF2 (World.grownBy_alloc V2 _ none) (fun k e => by cases e)⟩
            rw [hmem t]
            constructor
            · rintro (h | ⟨h, h'⟩)
              · exact .inl h
              · exact .inr ⟨h, by simp [h']⟩
            · rintro (h | ⟨h, h'⟩)
              · exact .inl h
              · by_cases e : left (keyLit t) = false
                · exact .inr ⟨h, e⟩
                · have e1 : left (keyLit t) = true := by simpa using e
                  rw [e1, keyLit_same] at h'
                  have e2 : (t == s) = true := by simpa using h'
                  rw [beq_bytes.1 e2]
                  exact (hmem s).1 hyi
          case measure => rw [(hrg2.alloc (.cells #[] 43)).left_eq, Hcnt.out]; exact hlt2
  case done =>
    rintro D ys V hD rfl ⟨xs, e1, e2, e3, e4, e5, e6⟩ hK
    gi_wp2
    refine ⟨by simp, .inl ⟨_, _, rfl, run_takeDeferred hK, ?_⟩⟩
    have hg := grownBy_putObj' V D (.deferred none)
    exact ⟨_, results_none rfl _ _ _, ⟨_, rfl⟩, xs, e3, hJ _ _ _ _ e1 hg (fun r e => by cases e; exact ⟨.inr (by omega), _, hK, rfl⟩), e2.kept hg (by intro e; injection e; omega)⟩
  case stop =>
    rintro D c pre V _ _ h _
    exact h.elim
end Go.Proofs.Qxb6614327a
