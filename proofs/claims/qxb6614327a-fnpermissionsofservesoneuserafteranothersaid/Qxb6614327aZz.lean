import Derived.Test.Qxb6614327aColl
namespace Go.Proofs.Qxb6614327a
open Go.RowKit Go.Shelf Go.Maps

attribute [local go_sem] Oper.semAt_some

set_option maxHeartbeats 1000000 in
/-- permissionsOf(roles, seen): two boxes and the closure. -/
theorem perms24_in (F : Fence) (n : Nat) (h24 : F.fn 24) (hro : F.round = none) (g : Nat) (cs ls : Array Value) (m : Option Nat) (w : World) :
    CallsIn F n Try.prog 24 #[.func (.func g) cs ls, .map m] w fun e w' => e = .returned (.func (.func 27) #[] #[.pointer (some ⟨w.heap.size + 1, 0, none⟩), .pointer (some ⟨w.heap.size, 0, none⟩)]) ∧ w' = (w.alloc (.cells #[.func (.func g) cs ls] 46)).alloc (.cells #[.map m] 29) := by
  refine callsIn_of_wp Try.func24 rfl h24 ?_ hro
  simp only [Try.ntmps24, List.size_toArray, List.length_cons, List.length_nil, Nat.reduceAdd, Nat.reduceSub, Array.replicate_succ, Array.replicate_zero, List.push_toArray, List.append_toArray, List.nil_append, List.cons_append]
  gi_wp2
  go_ret
  exact ⟨rfl, rfl⟩

/-- xs lists each string of the rows gs once, and nothing else. -/
def Once (gs : List (List ByteArray)) (xs : List ByteArray) : Prop := xs.Nodup ∧ ∀ s, s ∈ xs ↔ ∃ r ∈ gs, s ∈ r

theorem RoleU.list {n₀ : Nat} {W : World} {sv : Value} {gs : List (List ByteArray)} (hr : Roles n₀ W sv gs) : ∃ zs : List (RoleU n₀ W gs.flatten), (∀ xs, Listed zs xs → Once gs xs) ∧ Ptrs (fun x : RoleU n₀ W gs.flatten => x.1.1) n₀ W sv zs := by
  obtain ⟨zs, hz, a, cap, rfl, h1, h2⟩ := hr.list
  have hin : ∀ x ∈ zs, ∀ s ∈ x.1.2, s ∈ gs.flatten := fun x hx s hs => List.mem_flatten.2 ⟨x.1.2, by rw [← hz]; exact List.mem_map.2 ⟨x, hx, rfl⟩, hs⟩
  have hl : (zs.pmap (fun x h => (⟨x.1, x.2, h⟩ : RoleU n₀ W gs.flatten)) hin).length = zs.length := by simp
  refine ⟨zs.pmap (fun x h => (⟨x.1, x.2, h⟩ : RoleU n₀ W gs.flatten)) hin, ?_, a, cap, by rw [hl], by rw [hl]; exact h1, ?_⟩
  · rintro xs ⟨e1, e2⟩
    refine ⟨e1, fun s => (e2 s).trans ?_⟩
    constructor
    · rintro ⟨r, hr, hs⟩
      obtain ⟨x, hx, rfl⟩ := List.mem_pmap.1 hr
      exact ⟨x.1.2, by rw [← hz]; exact List.mem_map.2 ⟨x, hx, rfl⟩, hs⟩
    · rintro ⟨r, hr, hs⟩
      rw [← hz] at hr
      obtain ⟨x, hx, rfl⟩ := List.mem_map.1 hr
      exact ⟨⟨x.1, x.2, hin x hx⟩, List.mem_pmap.2 ⟨x, hx, rfl⟩, hs⟩
  · intro j z hj
    rw [List.getElem?_pmap] at hj
    have hjl : j < zs.length := by
      refine Nat.lt_of_not_le fun hle => ?_
      simp [List.getElem?_eq_none hle] at hj
    simp [hjl] at hj
    obtain ⟨b, off, h3, h4, h5⟩ := h2 j zs[j] (List.getElem?_eq_getElem hjl)
    exact ⟨b, off, h3, h4, by rw [← hj]; exact h5⟩

theorem ownsRow_base {W : World} {base base' : Nat} {e : TypeId} {size k : Nat} {v : Value} {xs : List Value} (h : W.ownsRow base e size v k xs) (hb : base' ≤ base) : W.ownsRow base' e size v k xs := by
  obtain ⟨h1, h2⟩ := h
  refine ⟨h1, ?_⟩
  rcases h2 with h2 | ⟨g, cap, cur, e1, e2, r⟩
  · exact .inl h2
  · exact .inr ⟨g, cap, cur, e1, Nat.le_trans hb e2, r⟩

set_option maxRecDepth 100000 in
set_option maxHeartbeats 2000000 in
/-- ZZpermissionsOf(roles, seen). -/
theorem zzPerms_in (F : Fence) (hd : F.depth = none) (n : Nat) (hn : 7 ≤ n) (h13 : F.fn 13) (h22 : F.fn 22) (h23 : F.fn 23) (h24 : F.fn 24) (h25 : F.fn 25) (h26 : F.fn 26) (h27 : F.fn 27) (hro : F.round = none)
    (sv : Value) (bs nn : Nat) (D0 : DataW Unit) (gs : List (List ByteArray)) (w : World) (hr : Roles bs w sv gs) (hbs : w.ownsMap Try.prog 9 (unitElem (H := Unit)) bs nn D0) (hN : gs.flatten.length ≤ 65536) :
    CallsIn F n Try.prog 13 #[sv, .map (some bs)] w fun e W' => ∃ v xs, e = .returned v ∧ Once gs xs ∧ SetAt W' bs xs ∧ W'.ownsRow w.heap.size 9 1 v xs.length (xs.map Value.string) ∧ w.grownBy W' (some bs) := by
  have h1 : 1 ≤ n := by omega
  have h1' : 1 ≤ n - 1 := by omega
  have hbl := World.ownsMap.lt hbs
  obtain ⟨a, cap, rfl, hrest⟩ := id hr
  clear hrest
  generalize gs.length = len at hr
  obtain ⟨V, hV⟩ : ∃ V, V = ((w.alloc (.cells #[.slice a len cap] 25)).alloc (.cells #[.func (.func 25) #[] #[.pointer (some ⟨w.heap.size, 0, none⟩)]] 46)).alloc (.cells #[.map (some bs)] 29) := ⟨_, rfl⟩
  have hBV : Below w.heap.size w V := by
    rw [hV]; exact (((Below.refl _ w).alloc (Nat.le_refl _) _).alloc (by simp) _).alloc (by simp; omega) _
  have hgV : w.grownBy V none := by
    rw [hV]; exact ((World.grownBy_alloc w _ none).andThen (World.grownBy_alloc _ _ none) (fun j e => by cases e)).andThen (World.grownBy_alloc _ _ none) (fun j e => by cases e)
  have hrV : Roles bs V (.slice a len cap) gs := hr.below (hBV.mono (by omega))
  obtain ⟨zs, hz, hP⟩ := RoleU.list hrV
  have b1 : Boxed V w.heap.size 25 (.slice a len cap) := by rw [hV]; exact ((Boxed.new w 25 _).alloc _).alloc _
  have b2 : Boxed V (w.heap.size + 1) 46 (.func (.func 25) #[] #[.pointer (some ⟨w.heap.size, 0, none⟩)]) := by
    rw [hV]; have := (Boxed.new (w.alloc (.cells #[.slice a len cap] 25)) 46 (.func (.func 25) #[] #[.pointer (some ⟨w.heap.size, 0, none⟩)])).alloc (.cells #[.map (some bs)] 29); simpa using this
  have b3 : Boxed V (w.heap.size + 1 + 1) 29 (.map (some bs)) := by
    rw [hV]; have := Boxed.new ((w.alloc (.cells #[.slice a len cap] 25)).alloc (.cells #[.func (.func 25) #[] #[.pointer (some ⟨w.heap.size, 0, none⟩)]] 46)) 29 (.map (some bs)); simpa using this
  have hA := append26_in F hd (n - 1 - 1) (by omega) h26 h27 h25 hro (w.heap.size + 1 + 1) (w.heap.size + 1) w.heap.size bs bs nn D0 (.slice a len cap) V gs.flatten zs (Nat.le_refl _) (ownsMap_block hbs (hBV.block _ hbl)) b3 b2 b1 hP hN
  clear hP b1 b2 b3 hrV hr hN hbs
  have hC : CallsIn F (n - 1) Try.prog 23 #[.func (.func 27) #[] #[.pointer (some ⟨w.heap.size + 1 + 1, 0, none⟩), .pointer (some ⟨w.heap.size + 1, 0, none⟩)]] V fun e W' => ∃ v xs, e = .returned v ∧ Listed zs xs ∧ SetAt W' bs xs ∧ W'.ownsRow V.heap.size 9 1 v xs.length (xs.map Value.string) ∧ V.grownBy W' (some bs) := by
    clear hV hz hBV hgV
    generalize w.heap.size = k at *
    refine callsIn_of_wp Try.func23 rfl h23 ?_ hro
    simp only [Try.ntmps23, List.size_toArray, List.length_cons, List.length_nil, Nat.reduceAdd, Nat.reduceSub, Array.replicate_succ, Array.replicate_zero, List.push_toArray, List.append_toArray, List.nil_append, List.cons_append]
    gi_wp2_with (gi_at_call 26; refine hA.mono ?_; clear hA; rintro e W' ⟨v, xs, rfl, e1, e2, e3, e4⟩)
    go_ret
    exact ⟨_, xs, rfl, e1, e2, e3, e4⟩
  clear hA
  refine callsIn_of_wp Try.func13 rfl h13 ?_ hro
  simp only [Try.ntmps13, List.size_toArray, List.length_cons, List.length_nil, Nat.reduceAdd, Nat.reduceSub, Array.replicate_succ, Array.replicate_zero, List.push_toArray, List.append_toArray, List.nil_append, List.cons_append]
  subst hV
  gi_wp2_with (first | (gi_at_call 22; refine (values_in F (n - 1) h22 hro _ _ _ _).mono ?_; rintro e w' ⟨rfl, rfl⟩) | (gi_at_call 24; refine (perms24_in F (n - 1) h24 hro _ _ _ _ _).mono ?_; rintro e w' ⟨rfl, rfl⟩))
  refine hC.mono ?_
  clear hC
  rintro e W' ⟨v, xs, rfl, e1, e2, e3, e4⟩
  have e5 := hz xs e1
  have e6 := ownsRow_base e3 hBV.size
  have e7 : w.grownBy W' (some bs) := (hgV.but (some bs)).andThen e4 (fun j e => .inr e)
  clear e1 e3 e4 hgV hBV hz
  gi_wp2
  go_ret
  exact ⟨_, xs, rfl, e5, e2, e6, e7⟩

/-- .. as a plain contract. -/
theorem zzPerms13 (sv : Value) (bs nn : Nat) (D0 : DataW Unit) (gs : List (List ByteArray)) (w : World) (hr : Roles bs w sv gs) (hbs : w.ownsMap Try.prog 9 (unitElem (H := Unit)) bs nn D0) (hN : gs.flatten.length ≤ 65536) :
    Calls Try.prog 13 #[sv, .map (some bs)] w fun e W' => ∃ v xs, e = .returned v ∧ Once gs xs ∧ SetAt W' bs xs ∧ W'.ownsRow w.heap.size 9 1 v xs.length (xs.map Value.string) ∧ w.grownBy W' (some bs) :=
  (callsIn_wide (n := 7)).1 (zzPerms_in Fence.wide rfl 7 (by omega) trivial trivial trivial trivial trivial trivial trivial rfl sv bs nn D0 gs w hr hbs hN)
end Go.Proofs.Qxb6614327a
