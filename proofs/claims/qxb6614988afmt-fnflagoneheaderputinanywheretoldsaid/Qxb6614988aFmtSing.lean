import Derived.Test.Qxb6614988aFmtErr
import Derived.Laws.ResultCell
namespace Go.Proofs.Qxb6614988aFmt
open Go.RowKit Go.Extern.Stop Go.Stop Go.Extern

abbrev Hdr := ByteArray × ByteArray
/-- The values of the headers of that name, in their order. -/
def own (hs : List Hdr) (nm : ByteArray) : List ByteArray := (hs.filter fun h => h.1 == nm).map fun h => h.2
theorem own_take (hs : List Hdr) (nm : ByteArray) (k : Nat) (h : k < hs.length) (d : Hdr) : own (hs.take (k + 1)) nm = own (hs.take k) nm ++ (if (hs[k]?.getD d).1 == nm then [(hs[k]?.getD d).2] else []) := by
  unfold own
  rw [List.take_succ_eq_append_getElem h, List.filter_append, List.map_append, List.getElem?_eq_getElem h]
  congr 1
  simp only [Option.getD_some, List.filter_cons, List.filter_nil]
  split <;> rfl
def hd0 : Hdr := (ByteArray.empty, ByteArray.empty)

/-- Block br is a record whose headers are hs, all below n0. -/
def RecAt (n0 : Nat) (W : World) (br : Nat) (hs : List Hdr) : Prop :=
  br < n0 ∧ ∃ a cap, W.cell? ⟨br, 9, none⟩ = some (.slice a hs.length cap) ∧ hs.length ≤ maxLen ∧
    ∀ j, j < hs.length → ∃ b off, a = some ⟨b, off, none⟩ ∧ b < n0 ∧ W.cell? ⟨b, off + j * 2, none⟩ = some (.string (hs[j]?.getD hd0).1) ∧ W.cell? ⟨b, off + j * 2 + 1, none⟩ = some (.string (hs[j]?.getD hd0).2)
theorem RecAt.below {n0 : Nat} {A B : World} {br : Nat} {hs : List Hdr} (h : RecAt n0 A br hs) (hB : Below n0 A B) : RecAt n0 B br hs := by
  obtain ⟨h1, a, cap, h2, h3, h4⟩ := h
  refine ⟨h1, a, cap, (hB.cell (p := ⟨br, 9, none⟩) h1).trans h2, h3, fun j hj => ?_⟩
  obtain ⟨b, off, e1, e2, e3, e4⟩ := h4 j hj
  exact ⟨b, off, e1, e2, (hB.cell (p := ⟨b, off + j * 2, none⟩) e2).trans e3, (hB.cell (p := ⟨b, off + j * 2 + 1, none⟩) e2).trans e4⟩

/-- How single ends, by the values that it has found. -/
def SingleEnd (w : World) (o : List ByteArray) (e : Ending) (w' : World) : Prop :=
  Below w.heap.size w w' ∧ ((o = [] ∧ e = .returned (.tuple #[.string ⟨#[]⟩, .bool false, .nilIface])) ∨ (∃ v, o = [v] ∧ e = .returned (.tuple #[.string v, .bool true, .nilIface])) ∨
    (2 ≤ o.length ∧ ∃ er, IsErr er ∧ e = .returned (.tuple #[.string ⟨#[]⟩, .bool true, er])))

theorem own_mono (hs : List Hdr) (nm : ByteArray) (k : Nat) : (own (hs.take k) nm).length ≤ (own hs nm).length := by
  unfold own
  conv => rhs; rw [← List.take_append_drop k hs, List.filter_append, List.map_append, List.length_append]
  omega

set_option maxRecDepth 100000 in
set_option maxHeartbeats 2000000 in
theorem single13 (F : Interp) (n0 br : Nat) (a : Addr) (s nm : ByteArray) (hs : List Hdr) (w : World) (hF : F.answers w.tape) (hn0 : n0 ≤ w.heap.size) (hE : ErrAt n0 w a s) (hR : RecAt n0 w br hs) :
    Calls Tryf.prog 13 #[.pointer (some ⟨br, 0, none⟩), .string nm] w (SingleEnd w (own hs nm)) := by
  obtain ⟨h1, ah, cap, h2, h3, h4⟩ := hR
  unfold maxLen at h3
  go_enter Tryf.func13, Tryf.ntmps13
  go_wp2
  go_loopw [7, 8, 16] (fun v f i wr => ∃ k : Nat, k ≤ hs.length ∧ i = .int .i64 k ∧ Below w.heap.size w wr ∧ ((f = .bool false ∧ v = .string ⟨#[]⟩ ∧ Hid (own (hs.take k) nm = [])) ∨ (f = .bool true ∧ ∃ u, v = .string u ∧ Hid (own (hs.take k) nm = [u])))) (fun _ _ i _ => hs.length - (intOf i).toNat)
  case atStart => exact ⟨0, Nat.zero_le _, rfl, Below.refl _ _, .inl ⟨rfl, rfl, by simp [own, Hid]⟩⟩
  case round =>
    obtain ⟨k, hk, rfl, hB, hst⟩ := hrel
    by_cases hlt : k < hs.length
    · obtain ⟨b, off, rfl, hb, hc1, hc2⟩ := h4 k hlt
      have HO : Hid (own (hs.take (k + 1)) nm = own (hs.take k) nm ++ (if (hs[k]?.getD hd0).1 == nm then [(hs[k]?.getD hd0).2] else [])) := own_take hs nm k hlt hd0
      have hc1' : wr.cell? ⟨b, off + k * 2, none⟩ = some (.string (hs[k]?.getD hd0).1) := (hB.cell (p := ⟨b, off + k * 2, none⟩) (by show b < _; omega)).trans hc1
      have hc2' : wr.cell? ⟨b, off + k * 2 + 1, none⟩ = some (.string (hs[k]?.getD hd0).2) := (hB.cell (p := ⟨b, off + k * 2 + 1, none⟩) (by show b < _; omega)).trans hc2
      clear hc1 hc2
      generalize (hs[k]?.getD hd0).1 = hn at *
      generalize (hs[k]?.getD hd0).2 = hv at *
      have hbz : b < wr.heap.size := by have := hB.size; omega
      cases hq : (hn.toList == nm.toList)
      · have hq' : (hn == nm) = false := (beq_toListBytes hn nm).trans hq
        have HO2 : Hid (own (hs.take (k + 1)) nm = own (hs.take k) nm) := by
          have := HO.out
          rw [hq'] at this
          simp at this
          exact this
        clear hq'
        go_wp2_with fail
        go_roundw
        case rel =>
          refine ⟨k + 1, by omega, by go_num, hB.alloc hB.size _, ?_⟩
          rcases hst with ⟨e1, e2, e3⟩ | ⟨e1, u, e2, e3⟩
          · exact .inl ⟨e1, e2, HO2.out.trans e3.out⟩
          · exact .inr ⟨e1, u, e2, HO2.out.trans e3.out⟩
        case measure => simp [intOf]; omega
      · have hq' : (hn == nm) = true := (beq_toListBytes hn nm).trans hq
        have HO2 : Hid (own (hs.take (k + 1)) nm = own (hs.take k) nm ++ [hv]) := by
          have := HO.out
          rw [hq'] at this
          simp at this
          exact this
        clear hq'
        rcases hst with ⟨rfl, rfl, e3⟩ | ⟨rfl, u, rfl, e3⟩
        · go_wp2_with fail
          go_roundw
          case rel => exact ⟨k + 1, by omega, by go_num, hB.alloc hB.size _, .inr ⟨rfl, hv, rfl, by rw [Hid, HO2.out, e3.out]; rfl⟩⟩
          case measure => simp [intOf]; omega
        · have hlen : 2 ≤ (own hs nm).length := by
            have h5 := own_mono hs nm (k + 1)
            rw [HO2.out, e3.out] at h5
            simpa using h5
          have hB2 : Below w.heap.size w ((wr.alloc (.cells #[.string hn, .string hv] 48)).alloc (.cells #[.iface 9 (.string nm)] 20)) := (hB.alloc hB.size _).alloc (by have := hB.size; simp; omega) _
          have hE2 := hE.below (hB2.mono hn0)
          go_wp2_with fail
          refine (fmtErr1 F (wr.heap.size + 1) n0 a s nm _ (by exact (show F.answers wr.tape from hB.tape ▸ hF)) (by exact Nat.le_trans hn0 hB2.size) (by exact hE2) (by go_simp)).mono ?_
          rintro e w5 ⟨er, rfl, her, hB5⟩
          have hB6 := hB2.trans (hB5.mono (by exact hB2.size))
          obtain ⟨pe, rfl⟩ := her
          clear hE2 hB2 hB5
          go_wp2_with fail
          go_ret3
          exact ⟨hB6, .inr (.inr ⟨hlen, _, ⟨pe, rfl⟩, rfl⟩)⟩
    · have hkl : k = hs.length := by omega
      subst hkl
      rw [List.take_length] at hst
      rcases hst with ⟨rfl, rfl, e3⟩ | ⟨rfl, u, rfl, e3⟩
      · go_wp2_with fail
        go_ret3
        exact ⟨hB, .inl ⟨e3.out, rfl⟩⟩
      · go_wp2_with fail
        go_ret3
        exact ⟨hB, .inr (.inl ⟨u, e3.out, rfl⟩)⟩
end Go.Proofs.Qxb6614988aFmt
