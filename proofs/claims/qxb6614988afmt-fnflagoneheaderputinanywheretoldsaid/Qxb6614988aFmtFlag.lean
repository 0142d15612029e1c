import Derived.Test.Qxb6614988aFmtSing
namespace Go.Proofs.Qxb6614988aFmt
open Go.RowKit Go.Extern.Stop Go.Stop Go.Extern

def isTrue (v : ByteArray) : Bool := v.toList == [116, 114, 117, 101]
def isFalse (v : ByteArray) : Bool := v.toList == [102, 97, 108, 115, 101]
/-- What flag answers, by the values of the headers of that name. -/
def flagB : List ByteArray → Bool
  | [v] => isTrue v
  | _ => false
/-- Does an error come? -/
def flagE : List ByteArray → Bool
  | [] => false
  | [v] => !isTrue v && !isFalse v
  | _ => true
theorem true_not_false {v : ByteArray} (h : isFalse v = true) : isTrue v = false := by
  unfold isTrue isFalse at *
  rw [beq_iff_eq] at h
  rw [h]
  rfl

/-- An error value that is nil or not. -/
def ErrIs (b : Bool) (er : Value) : Prop := (b = true ∧ IsErr er) ∨ (b = false ∧ er = .nilIface)
def FlagEnd (w : World) (o : List ByteArray) (e : Ending) (w' : World) : Prop := Below w.heap.size w w' ∧ ∃ er, ErrIs (flagE o) er ∧ e = .returned (.tuple #[.bool (flagB o), er])
theorem FlagEnd.mk {w w' : World} {o : List ByteArray} {b : Bool} {er : Value} (hB : Below w.heap.size w w') (hb : flagB o = b) (he : ErrIs (flagE o) er) : FlagEnd w o (.returned (.tuple #[.bool b, er])) w' := ⟨hB, er, he, by rw [hb]⟩

set_option maxRecDepth 100000 in
set_option maxHeartbeats 2000000 in
theorem flag11 (F : Interp) (n0 br : Nat) (a : Addr) (s nm : ByteArray) (hs : List Hdr) (w : World) (hF : F.answers w.tape) (hn0 : n0 ≤ w.heap.size) (hE : ErrAt n0 w a s) (hR : RecAt n0 w br hs) :
    Calls Tryf.prog 11 #[.pointer (some ⟨br, 0, none⟩), .string nm] w (FlagEnd w (own hs nm)) := by
  go_enter Tryf.func11, Tryf.ntmps11
  go_wp2_with fail
  refine (single13 F n0 br a s nm hs w hF hn0 hE hR).mono ?_
  rintro e w1 ⟨hB, ⟨ho, rfl⟩ | ⟨v, ho, rfl⟩ | ⟨ho, er, ⟨pe, rfl⟩, rfl⟩⟩
  · have HO : Hid (own hs nm = []) := ho
    clear ho
    go_wp2_with fail
    go_ret2
    exact .mk hB (by rw [HO.out]; rfl) (.inr ⟨by rw [HO.out]; rfl, rfl⟩)
  · have HO : Hid (own hs nm = [v]) := ho
    clear ho
    cases hf : isFalse v
    · have hf' : (v.toList == [102, 97, 108, 115, 101]) = false := hf
      cases ht : isTrue v
      · have ht' : (v.toList == [116, 114, 117, 101]) = false := ht
        have HT : Hid (isTrue v = false ∧ isFalse v = false) := ⟨ht, hf⟩
        clear hf ht
        have hB2 : Below w.heap.size w (w1.alloc (.cells #[.iface 9 (.string nm), .iface 9 (.string v)] 20)) := hB.alloc hB.size _
        have hE2 := hE.below (hB2.mono hn0)
        go_wp2_with fail
        refine (fmtErr2 F w1.heap.size n0 a s nm v _ (by exact (show F.answers w1.tape from hB.tape ▸ hF)) (by exact Nat.le_trans hn0 hB2.size) (by exact hE2) (by go_simp) (by go_simp)).mono ?_
        rintro e w5 ⟨er, rfl, her, hB5⟩
        have hB6 := hB2.trans (hB5.mono (by exact hB2.size))
        obtain ⟨pe, rfl⟩ := her
        clear hE2 hB2 hB5
        go_wp2_with fail
        go_ret2
        exact .mk hB6 (by rw [HO.out]; exact HT.out.1) (.inl ⟨by rw [HO.out]; show (!isTrue v && !isFalse v) = true; rw [HT.out.1, HT.out.2]; rfl, ⟨pe, rfl⟩⟩)
      · have ht' : (v.toList == [116, 114, 117, 101]) = true := ht
        have HT : Hid (isTrue v = true) := ht
        clear hf ht
        go_wp2_with fail
        go_ret2
        exact .mk hB (by rw [HO.out]; exact HT.out) (.inr ⟨by rw [HO.out]; show (!isTrue v && !isFalse v) = false; rw [HT.out]; rfl, rfl⟩)
    · have hf' : (v.toList == [102, 97, 108, 115, 101]) = true := hf
      have HT : Hid (isTrue v = false ∧ isFalse v = true) := ⟨true_not_false hf, hf⟩
      clear hf
      go_wp2_with fail
      go_ret2
      exact .mk hB (by rw [HO.out]; exact HT.out.1) (.inr ⟨by rw [HO.out]; show (!isTrue v && !isFalse v) = false; rw [HT.out.2]; simp, rfl⟩)
  · obtain ⟨x, y, r, HO⟩ : ∃ x y r, Hid (own hs nm = x :: y :: r) := by
      match h : own hs nm, ho with
      | x :: y :: r, _ => exact ⟨x, y, r, rfl⟩
      | [_], h2 => exact absurd h2 (by simp)
      | [], h2 => exact absurd h2 (by simp)
    clear ho
    go_wp2_with fail
    go_ret2
    exact .mk hB (by rw [HO.out]; rfl) (.inl ⟨by rw [HO.out]; rfl, ⟨pe, rfl⟩⟩)

set_option maxHeartbeats 1000000 in
theorem zzflag8 (F : Interp) (n0 br : Nat) (a : Addr) (s nm : ByteArray) (hs : List Hdr) (w : World) (hF : F.answers w.tape) (hn0 : n0 ≤ w.heap.size) (hE : ErrAt n0 w a s) (hR : RecAt n0 w br hs) :
    Calls Tryf.prog 8 #[.pointer (some ⟨br, 0, none⟩), .string nm] w (FlagEnd w (own hs nm)) := by
  go_enter Tryf.func8, Tryf.ntmps8
  go_wp2_with fail
  refine (flag11 F n0 br a s nm hs w hF hn0 hE hR).mono ?_
  rintro e w1 ⟨hB, er, he, rfl⟩
  obtain ⟨bq, HB⟩ : ∃ b, Hid (flagB (own hs nm) = b) := ⟨_, rfl⟩
  rw [HB.out]
  have he2 : Hid (ErrIs (flagE (own hs nm)) er) := he
  rcases he with ⟨_, pe, rfl⟩ | ⟨_, rfl⟩
  all_goals
    go_wp2_with fail
    go_ret2
    exact .mk hB HB.out he2.out
end Go.Proofs.Qxb6614988aFmt
