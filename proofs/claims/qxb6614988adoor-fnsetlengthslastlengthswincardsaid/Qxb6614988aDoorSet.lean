import Derived.Test.Qxb6614988aDoorFlat
namespace Go.Proofs.Qxb6614988aDoor
open Go.RowKit Go.WideShapes

theorem Tryd.info47 : (Tryd.prog.info? 47).map (fun i => (i.zero, i.size, i.bytes)) = some (some (.agg #[.string ⟨#[]⟩, .string ⟨#[]⟩]), 2, 32) := by kernel_rfl

/-! ### setHeader, in plain words -/
def putH (nm v : ByteArray) (h : Hdr) : Hdr := if h.1 == nm then (h.1, v) else h
def has (hs : List Hdr) (nm : ByteArray) : Bool := hs.any fun h => h.1 == nm
def mixed (hs : List Hdr) (nm v : ByteArray) (k : Nat) : List Hdr := (hs.take k).map (putH nm v) ++ hs.drop k
def setHs (hs : List Hdr) (nm v : ByteArray) (add : Bool) : List Hdr := hs.map (putH nm v) ++ (if has hs nm || !add then [] else [(nm, v)])
def setHb (hs : List Hdr) (nm : ByteArray) (add : Bool) : Bool := !(has hs nm || !add)

theorem mixed_zero (hs : List Hdr) (nm v : ByteArray) : mixed hs nm v 0 = hs := by simp [mixed]
theorem mixed_full (hs : List Hdr) (nm v : ByteArray) : mixed hs nm v hs.length = hs.map (putH nm v) := by simp [mixed]
theorem mixed_length (hs : List Hdr) (nm v : ByteArray) (k : Nat) : (mixed hs nm v k).length = hs.length := by
  simp [mixed]
  omega
theorem mixed_get (hs : List Hdr) (nm v : ByteArray) (k : Nat) (hk : k < hs.length) : (mixed hs nm v k)[k]?.getD hd0 = hs[k]?.getD hd0 := by
  unfold mixed
  rw [List.getElem?_append_right (by simp; omega)]
  simp [show min k hs.length = k by omega]
theorem mixed_succ (hs : List Hdr) (nm v : ByteArray) (k : Nat) (hk : k < hs.length) : mixed hs nm v (k + 1) = (mixed hs nm v k).set k (putH nm v (hs[k]?.getD hd0)) := by
  unfold mixed
  rw [List.take_succ_eq_append_getElem hk, List.map_append, List.append_assoc, List.set_append_right _ _ (by simp; omega)]
  congr 1
  rw [List.drop_eq_getElem_cons hk]
  simp only [List.length_map, List.length_take, show min k hs.length = k by omega, Nat.sub_self, List.set_cons_zero, List.getElem?_eq_getElem hk, Option.getD_some, List.map_cons, List.map_nil, List.cons_append, List.nil_append]
theorem mixed_yes (hs : List Hdr) (nm v : ByteArray) (k : Nat) (hk : k < hs.length) (h : ((hs[k]?.getD hd0).1 == nm) = true) : mixed hs nm v (k + 1) = (mixed hs nm v k).set k (((mixed hs nm v k)[k]?.getD hd0).1, v) := by
  rw [mixed_succ hs nm v k hk, mixed_get hs nm v k hk]
  unfold putH
  rw [if_pos h]
theorem set_self {l : List Hdr} {k : Nat} {x : Hdr} (hk : k < l.length) (h : l[k]?.getD hd0 = x) : l.set k x = l := by
  rw [List.getElem?_eq_getElem hk] at h
  simp at h
  subst h
  simp
theorem mixed_no (hs : List Hdr) (nm v : ByteArray) (k : Nat) (hk : k < hs.length) (h : ((hs[k]?.getD hd0).1 == nm) = false) : mixed hs nm v (k + 1) = mixed hs nm v k := by
  rw [mixed_succ hs nm v k hk]
  unfold putH
  rw [if_neg (by rw [h]; simp)]
  exact set_self (by rw [mixed_length]; exact hk) (mixed_get hs nm v k hk)
theorem has_succ (hs : List Hdr) (nm : ByteArray) (k : Nat) (hk : k < hs.length) : has (hs.take (k + 1)) nm = (has (hs.take k) nm || ((hs[k]?.getD hd0).1 == nm)) := by
  unfold has
  rw [List.take_succ_eq_append_getElem hk, List.any_append, List.getElem?_eq_getElem hk]
  simp

theorem Row.form {base : Nat} {W : World} {hv : Value} {hs : List Hdr} (h : Row base W hv hs) : ∃ a cap, hv = .slice a hs.length cap := by
  obtain ⟨_, ⟨rfl, h0⟩ | ⟨g, cap, cur, rfl, _⟩⟩ := h
  · exact ⟨none, 0, by rw [h0]⟩
  · exact ⟨_, _, rfl⟩
theorem owns_form {base e size : Nat} {W : World} {v : Value} {n : Nat} {xs : List Value} (h : W.ownsRow base e size v n xs) : ∃ a cap, v = .slice a n cap := by
  obtain ⟨_, ⟨rfl, h0⟩ | ⟨g, cap, cur, rfl, _⟩⟩ := h
  · exact ⟨none, 0, by rw [h0]⟩
  · exact ⟨_, _, rfl⟩
theorem cell_two_new (w : World) (x y : Value) (t : TypeId) : ∀ j u, [x, y][j]? = some u → (w.alloc (.cells #[x, y] t)).cell? ((⟨w.heap.size, 0, none⟩ : Addr).add j) = some u := by
  intro j u h
  rw [add_plain, World.cell?_alloc_new]
  match j, h with
  | 0, h => simpa using h
  | 1, h => simpa using h
theorem strs_two (x y : ByteArray) : ∀ v ∈ [Value.string x, Value.string y], v.oneCell' = true := by
  intro v hv
  rcases List.mem_cons.1 hv with rfl | hv
  · rfl
  · rw [List.mem_singleton.1 hv]
    rfl

section
variable {base br : Nat} {W : World} {hs : List Hdr} {hp ht : Bool} {ps : Value} {tl : Int}
/-- One value written in place. -/
theorem RecL.put {g n cap : Nat} (h : RecL base W br (.slice (some ⟨g, 0, none⟩) n cap) hs hp ht ps tl) (hn : hs.length = n) (k : Nat) (hk : k < hs.length) (v : ByteArray) :
    RecL base (W.setCell ⟨g, k * 2 + 1, none⟩ (.string v)) br (.slice (some ⟨g, 0, none⟩) n cap) (hs.set k ((hs[k]?.getD hd0).1, v)) hp ht ps tl := by
  subst hn
  have hne : br ≠ g := fun e => h.ne (by rw [e]; rfl)
  exact ⟨h.lo, (heap_setCell_other W _ br _ hne).trans h.blk, h.row.set k hk v, h.ne⟩
theorem Keeps.put {g n cap : Nat} {U : World} {hv : Value} (h : Keeps br hv (.slice (some ⟨g, 0, none⟩) n cap) U W) (hself : hv = .slice (some ⟨g, 0, none⟩) n cap) (o : Nat) (v : Value) : Keeps br hv (.slice (some ⟨g, 0, none⟩) n cap) U (W.setCell ⟨g, o, none⟩ v) := by
  subst hself
  exact ⟨h.os, h.tape, h.output, by simpa using h.size, fun b h1 h2 h3 => (heap_setCell_other W _ b _ (fun e => h3 (by rw [e]; rfl))).trans (h.block b h1 h2 h3), h.new⟩
theorem rec_after {w1 : World} {hv hv' : Value} (lo : base ≤ br) (hb1 : w1.heap[br]? = some (recObj hv hp ht ps tl)) (hrow : Row base w1 hv' hs) (hne : hv'.ownBlock ≠ some br) : RecL base (w1.setCell ⟨br, 9, none⟩ hv') br hv' hs hp ht ps tl :=
  ⟨lo, (heap_setCell_same w1 br 9 _ 43 hv' hb1).trans (by simp [recObj]), hrow.kept fun g e => heap_setCell_other w1 _ g _ (fun e2 => hne (by rw [e, e2])), hne⟩
theorem keeps_after {w wr w1 : World} {hv hv' : Value} {o : Obj} (hK : Keeps br hv hv w wr) (hg : (wr.alloc o).grownBy w1 hv.ownBlock) (hat : hv'.ownBlock = hv.ownBlock ∨ ∃ q, hv'.ownBlock = some q ∧ w.heap.size ≤ q) : Keeps br hv hv' w (w1.setCell ⟨br, 9, none⟩ hv') := by
  have hs := hK.size
  have hs2 := hg.size
  simp at hs2
  refine ⟨hg.os.trans hK.os, hg.tape.trans hK.tape, hg.output.trans hK.output, by simp; omega, fun b h1 h2 h3 => ?_, fun b e => ?_⟩
  · rw [heap_setCell_other w1 _ b _ h2, hg.block b (by simp; omega) (fun e => h3 e.symm), Below.heap_alloc _ _ _ (by omega)]
    exact hK.block b h1 h2 h3
  · rcases hat with h | ⟨q, h, hq⟩
    · exact .inl (h.symm.trans e)
    · rw [e] at h
      cases h
      exact .inr hq
end

set_option maxRecDepth 100000 in
set_option maxHeartbeats 4000000 in
theorem setHeader16 (base br : Nat) (hv : Value) (hs : List Hdr) (hp ht : Bool) (ps : Value) (tl : Int) (nm v : ByteArray) (add : Bool) (w : World) (hR : RecL base w br hv hs hp ht ps tl) (hb : base ≤ w.heap.size) (hN : hs.length ≤ 2097152) :
    Calls Tryd.prog 16 #[.pointer (some ⟨br, 0, none⟩), .string nm, .string v, .bool add] w fun e w' => e = .returned (.bool (setHb hs nm add)) ∧ ∃ hv', RecL base w' br hv' (setHs hs nm v add) hp ht ps tl ∧ Keeps br hv hv' w w' := by
  obtain ⟨a, cap, rfl⟩ := hR.row.form
  have hc9 := hR.c9
  generalize hnn : hs.length = n at *
  go_enter Tryd.func16, Tryd.ntmps16
  go_wp2_with fail
  go_loopw [9, 10, 16] (fun f _ i wr => ∃ k : Nat, k ≤ n ∧ i = .int .i64 k ∧ f = .bool (has (hs.take k) nm) ∧ RecL base wr br (.slice a n cap) (mixed hs nm v k) hp ht ps tl ∧ Keeps br (.slice a n cap) (.slice a n cap) w wr) (fun _ _ i _ => n - (intOf i).toNat)
  case atStart => exact ⟨0, Nat.zero_le _, rfl, rfl, by rw [mixed_zero]; exact hR, Keeps.refl _ _ _⟩
  case round =>
    clear hR hc9
    obtain ⟨k, hk, rfl, rfl, hR, hK⟩ := hrel
    have hc9 := hR.c9
    by_cases hlt : k < n
    · have hkl : k < hs.length := by omega
      have hml := mixed_length hs nm v k
      obtain ⟨g, cap', e, hcap1, hcap2, hg1, hg2, hc1, hc2, hf2⟩ := hR.row.cell k (by omega)
      rw [hml, hnn] at e
      cases e
      rw [mixed_get hs nm v k hkl] at hc1 hc2
      have HR : Hid (RecL base wr br (.slice (some ⟨g, 0, none⟩) n cap) (mixed hs nm v k) hp ht ps tl) := hR
      have HY := mixed_yes hs nm v k hkl
      have HN := mixed_no hs nm v k hkl
      have HH := has_succ hs nm k hkl
      have hki : (k : Int) < (n : Int) := by omega
      clear hR hcap1 hcap2
      generalize hs[k]?.getD hd0 = h at *
      obtain ⟨x, y⟩ := h
      dsimp only at hc1 hc2 HY HN HH
      cases hq : (x.toList == nm.toList)
      · have hq' : (x == nm) = false := (beq_toListBytes x nm).trans hq
        have H1 : Hid (mixed hs nm v (k + 1) = mixed hs nm v k) := HN hq'
        have H2 : Hid (has (hs.take (k + 1)) nm = has (hs.take k) nm) := by
          show _ = _
          rw [HH, hq', Bool.or_false]
        clear HY HN HH hq'
        generalize has (hs.take k) nm = fb at *
        go_wp2_with fail
        go_roundw
        case rel => exact ⟨k + 1, by omega, by go_num, by rw [H2.out], by rw [H1.out]; exact HR.out, hK⟩
        case measure => simp [intOf]; omega
      · have hq' : (x == nm) = true := (beq_toListBytes x nm).trans hq
        have H1 : Hid (mixed hs nm v (k + 1) = (mixed hs nm v k).set k (((mixed hs nm v k)[k]?.getD hd0).1, v)) := HY hq'
        have H2 : Hid (has (hs.take (k + 1)) nm = true) := by
          show _ = _
          rw [HH, hq', Bool.or_true]
        clear HY HN HH hq'
        generalize has (hs.take k) nm = fb at *
        go_wp2_with fail
        go_roundw
        case rel => exact ⟨k + 1, by omega, by go_num, by rw [H2.out], by rw [H1.out]; exact HR.out.put (by omega) k (by omega) v, hK.put rfl _ _⟩
        case measure => simp [intOf]; omega
    · have hke : k = hs.length := by omega
      subst hke
      rw [mixed_full] at hR
      rw [List.take_length] at *
      obtain ⟨i0, hi, hz0, hz1, hz2⟩ := info_parts Tryd.info47
      cases hf : has hs nm
      · cases add
        · have HB : Hid (setHb hs nm false = false) := by show _ = _; simp [setHb]
          have HS : Hid (setHs hs nm v false = hs.map (putH nm v)) := by show _ = _; simp [setHs]
          have HR : Hid (RecL base wr br (.slice a n cap) (hs.map (putH nm v)) hp ht ps tl) := hR
          clear hR
          go_wp2_with fail
          go_ret
          exact ⟨by rw [HB.out]; rfl, _, by rw [HS.out]; exact HR.out, hK⟩
        · have HB : Hid (setHb hs nm true = true) := by show _ = _; simp [setHb, hf]
          have HS : Hid (setHs hs nm v true = hs.map (putH nm v) ++ [(nm, v)]) := by show _ = _; simp [setHs, hf]
          have hbr := hR.lt
          have hsz := hK.size
          have hml : (hs.map (putH nm v)).length = hs.length := by simp
          have hblk := hR.blk
          have hneb := hR.ne
          have hrow : wr.ownsRow base 47 2 (.slice a n cap) (hs.map (putH nm v)).length (flat (hs.map (putH nm v))) := hR.row
          have hlo := hR.lo
          have hlt2 := hrow.lt
          rw [hml, hnn] at hrow
          clear hR
          go_wp2_with (
            at_builtin
            refine wpList_append_own_at _ rfl _ _ 35 rfl base 47 i0 (.agg #[.string ⟨#[]⟩, .string ⟨#[]⟩]) 2 32 Tryd.underlying35 hi hz0 hz1 hz2 rfl (by decide) (.slice a n cap) _ _ rfl (hrow.alloc _) ⟨wr.heap.size, 0, none⟩ 1 1 [.string nm, .string v] rfl rfl (cell_two_new _ _ _ _) (strs_two nm v) (by unfold maxLen; omega) (by omega) (by simp; omega) ?_
            intro hv' w1 hown hgrow _ hat
            obtain ⟨a', cap', rfl⟩ := owns_form hown
            have hb1 : w1.heap[br]? = some (recObj (.slice a n cap) hp ht ps tl) := by
              rw [hgrow.block br (by simp; omega) (fun e => hneb e.symm)]
              rw [Below.heap_alloc _ _ _ hbr]
              exact hblk
            have hc9' : w1.cell? ⟨br, 9, none⟩ = some (.slice a n cap) := by simp [World.cell?, hb1, recObj]
            have hf9' : w1.frozen? ⟨br, 9, none⟩ = false := by simp [World.frozen?, hb1, recObj])
          go_ret
          have hlt3 : ∀ q, Value.ownBlock (.slice a n cap) = some q → q < wr.heap.size := fun q e => (hlt2 q e).2
          refine ⟨by rw [HB.out]; rfl, .slice a' (n + 1) cap', ?_, ?_⟩
          · rw [HS.out]
            refine rec_after hlo hb1 ?_ ?_
            · show w1.ownsRow base 47 2 _ _ (flat (hs.map (putH nm v) ++ [(nm, v)]))
              rw [flat_append, List.length_append, hml, hnn]
              exact hown
            · rcases hat with e | e
              · rw [e]; exact hneb
              · rw [e]
                intro e2
                have := Option.some.inj e2
                simp at this
                omega
          · refine keeps_after hK hgrow ?_
            rcases hat with e | e
            · exact .inl e
            · exact .inr ⟨_, e, by simp; omega⟩
      · have HB : Hid (setHb hs nm add = false) := by show _ = _; simp [setHb, hf]
        have HS : Hid (setHs hs nm v add = hs.map (putH nm v)) := by show _ = _; simp [setHs, hf]
        have HR : Hid (RecL base wr br (.slice a n cap) (hs.map (putH nm v)) hp ht ps tl) := hR
        clear hR
        go_wp2_with fail
        go_ret
        exact ⟨by rw [HB.out]; rfl, _, by rw [HS.out]; exact HR.out, hK⟩
end Go.Proofs.Qxb6614988aDoor
