import Derived.Test.Qxb6614988aDoorPlain
import Derived.WalkSmall
import Derived.Deep.CutRange
import Derived.Deep.RegionWith
namespace Go.Proofs.Qxb6614988aDoor
open Go.RowKit Go.WideShapes

theorem Tryd.gTab : Tryd.prog.globalNamed "internal/strconv.uint64pow10" = some 0 := by kernel_rfl
/-- The table of powers of ten, as the program's text lays it. -/
abbrev Tab (W : World) : Prop := Lib.TabIs Tryd.prog W "internal/strconv.uint64pow10" .u64 Lib.pow10Tab
theorem Tab.below {B : Nat} {W W' : World} (h : Tab W) (hB : Below B W W') (h0 : 0 < B) : Tab W' := var?_below hB Tryd.gTab h0 h

/-- A number's numeral. -/
def sI (x : Int) : ByteArray := ⟨(Lib.itoa x).toArray⟩
theorem sI_def (x : Int) : (⟨(Lib.itoa x).toArray⟩ : ByteArray) = sI x := rfl
theorem fmt17 (n : Int) (h0 : -9223372036854775808 ≤ n) (h1 : n ≤ 9223372036854775807) (w : World) (htab : Tab w) :
    Calls Tryd.prog 17 #[.int .i64 n, .int .i64 10] w fun e w' => e = .returned (.string (sI n)) ∧ Below w.heap.size w w' := by
  refine (formatInt17 n h0 h1 w htab).mono ?_
  rintro e w' ⟨rfl, k, os, rfl⟩
  exact ⟨rfl, rfl, rfl, rfl, by simp [Sort.grow], fun b hb => by
    show (w.heap ++ os)[b]? = _
    rw [Array.getElem?_append_left hb]⟩

theorem RecL.drew {base br : Nat} {W : World} {hv : Value} {hs : List Hdr} {hp ht : Bool} {ps : Value} {tl : Int} (h : RecL base W br hv hs hp ht ps tl) : RecL base W.drew br hv hs hp ht ps tl := ⟨h.lo, h.blk, h.row, h.ne⟩

theorem wrap_range (x : Int) : -9223372036854775808 ≤ wrap64 x ∧ wrap64 x ≤ 9223372036854775807 := by
  unfold wrap64
  omega
theorem Keeps.of_drew {br : Nat} {hv : Value} {U V : World} (hB : Below U.drew.heap.size U.drew V) : Keeps br hv hv U V :=
  ⟨hB.os, hB.tape, hB.output, hB.size, fun b h _ _ => hB.block b h, fun _ h => .inl h⟩

set_option maxRecDepth 100000 in
set_option maxHeartbeats 4000000 in
theorem setLengths10 (base br : Nat) (hv : Value) (hs : List Hdr) (hp ht : Bool) (pa : Option Addr) (pn pc : Nat) (tl : Int) (w : World) (hR : RecL base w br hv hs hp ht (.slice pa pn pc) tl) (htab : Tab w) (h0 : 0 < base) (hb : base ≤ w.heap.size) (hN : hs.length ≤ 2097149) (hpn : pn ≤ 1048576) (ht0 : -9223372036854775808 ≤ tl) (ht1 : tl ≤ 9223372036854775807) :
    Calls Tryd.prog 10 #[.pointer (some ⟨br, 0, none⟩)] w fun e w' => e = .returned (.tuple #[]) ∧ ∃ hv', RecL base w' br hv' (setL hs hp ht (sI pn) (sI tl) (sI (wrap64 (pn + tl)))) hp ht (.slice pa pn pc) tl ∧ Keeps br hv hv' w w' := by
  have hc10 := hR.c10
  have hc11 := hR.c11
  have hc13 := hR.c13
  have hc14 := hR.c14
  go_enter Tryd.func10, Tryd.ntmps10
  go_upto_region 1 with fail
  go_cut [3] from 9 to 16 (fun c wx => c = .bool (setHb hs nP hp) ∧ ∃ hv1, RecL base wx br hv1 (setHs hs nP (sI pn) hp) hp ht (.slice pa pn pc) tl ∧ Keeps br hv hv1 w wx)
  case first =>
    go_region_with (first
      | (go_at_call 17
         refine (fmt17 (pn : Int) (by omega) (by omega) _ (by exact htab)).mono ?_
         rintro e w1 ⟨rfl, hB1⟩
         have hR1 := hR.drew.below hB1
         have hd10 := hR1.c10
         have hz1 : base ≤ w1.heap.size := Nat.le_trans hb hB1.size)
      | (go_at_call 16
         refine (setHeader16 base br hv hs hp ht _ tl nP (sI pn) hp w1 hR1 hz1 (by omega)).mono ?_
         rintro e w2 ⟨rfl, hv1, hR2, hK2⟩))
    all_goals
      go_wp2_with fail
      go_meet
      case rel => exact ⟨rfl, hv1, hR2, (Keeps.of_drew hB1).trans hK2⟩
  case rest =>
    obtain ⟨rfl, hv1, hR2, hKw⟩ := hcut
    have htab2 : Tab wc := htab.below (hKw.below hR.lo (fun b e => (hR.row.lt b e).1) hb) h0
    have hz2 : base ≤ wc.heap.size := Nat.le_trans hb hKw.size
    have hn1 := setHs_length hs nP (sI pn) hp
    have hc13 := hR2.c13
    have hc14 := hR2.c14
    have hlo := hR.lo
    have hrl := hR.row.lt
    obtain ⟨b1, HB1⟩ : ∃ b, Hid (setHb hs nP hp = b) := ⟨_, rfl⟩
    rw [HB1.out]
    clear hc10 hc11 hR htab
    generalize wc = w2 at *
    go_upto_region 2 with fail
    go_cut [3] from 17 to 30 (fun c wx => c = .bool (setHb (setHs hs nP (sI pn) hp) nT ht || b1) ∧ ∃ hv2, RecL base wx br hv2 (setHs (setHs hs nP (sI pn) hp) nT (sI tl) ht) hp ht (.slice pa pn pc) tl ∧ Keeps br hv1 hv2 w2 wx)
    case first =>
      cases hb2 : setHb (setHs hs nP (sI pn) hp) nT ht
      all_goals
        first
          | go_region_with (first
              | (go_at_call 17
                 refine (fmt17 tl ht0 ht1 _ (by exact htab2)).mono ?_
                 rintro e w3 ⟨rfl, hB3⟩
                 have hR3 := hR2.drew.below hB3
                 have hd13 := hR3.c13
                 have hz3 : base ≤ w3.heap.size := Nat.le_trans hz2 hB3.size)
              | (go_at_call 16
                 refine (setHeader16 base br hv1 _ hp ht _ tl nT (sI tl) ht w3 hR3 hz3 (by omega)).mono ?_
                 rintro e w4 ⟨he, hv2, hR4, hK4⟩
                 rw [hb2] at he
                 subst he))
          | fail
        all_goals
          go_wp2_with fail
          go_meet
          case rel => exact ⟨by rw [hb2]; rfl, hv2, hR4, (Keeps.of_drew hB3).trans hK4⟩
    case rest =>
      obtain ⟨rfl, hv2, hR4, hK4⟩ := hcut
      generalize wc = w4 at *
      have hK5 := hKw.trans hK4
      have htab4 : Tab w4 := htab2.below (hK4.below hlo (fun b e => (hR2.row.lt b e).1) hz2) h0
      have hz4 : base ≤ w4.heap.size := Nat.le_trans hz2 hK4.size
      have hn2 := setHs_length (setHs hs nP (sI pn) hp) nT (sI tl) ht
      have hc14 := hR4.c14
      obtain ⟨hw0, hw1⟩ := wrap_range (pn + tl)
      obtain ⟨b2, HB2⟩ : ∃ b, Hid ((setHb (setHs hs nP (sI pn) hp) nT ht || b1) = b) := ⟨_, rfl⟩
      rw [HB2.out]
      clear hR2 htab2 hKw hK4
      go_wp2_with fail
      refine (fmt17 (wrap64 (pn + tl)) hw0 hw1 _ htab4).mono ?_
      rintro e w5 ⟨rfl, hB5⟩
      have hR5 := hR4.below hB5
      go_wp2_with fail
      refine (setHeader16 base br hv2 _ hp ht _ tl nC (sI (wrap64 (pn + tl))) b2 w5 hR5 (Nat.le_trans hz4 hB5.size) (by omega)).mono ?_
      rintro e w6 ⟨rfl, hv3, hR6, hK6⟩
      go_wp2_with fail
      go_end0
      refine ⟨rfl, hv3, ?_, hK5.trans ((Keeps.of_below hB5).trans hK6)⟩
      unfold setL l2 addB l1
      rw [HB1.out, HB2.out]
      exact hR6
end Go.Proofs.Qxb6614988aDoor
