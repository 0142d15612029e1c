import Derived.Test.Qxb6614988aFmtFacts
import Derived.WalkKit
import Derived.WalkSpells
import Derived.ProofKit
import Derived.Below
import Derived.Deep.RegionWith
import Derived.RegionTactic
namespace Go.Proofs.Qxb6614988aFmt
open Go.RowKit Go.Extern.Stop Go.Stop Go.Extern

attribute [local go_sem] call16 call17 guardF fmt0 fmt0r fmt1 fmt1r fmt2 fmt2r op9_115 op9_113 op9_115w ptr53 elem53 isError53 ptr52 elem52 isError52

/-- The sentinel: the variable's cell and the error's text, below n0. -/
structure ErrAt (n0 : Nat) (w : World) (a : Addr) (s : ByteArray) : Prop where
  g0 : 0 < n0
  var : w.cell? ⟨0, 0, none⟩ = some (.iface 53 (.pointer (some a)))
  lt : a.block < n0
  text : w.cell? a = some (.string s)
theorem ErrAt.below {n0 : Nat} {w w' : World} {a : Addr} {s : ByteArray} (h : ErrAt n0 w a s) (hB : Below n0 w w') : ErrAt n0 w' a s :=
  ⟨h.g0, (hB.cell (p := ⟨0, 0, none⟩) h.g0).trans h.var, h.lt, (hB.cell h.lt).trans h.text⟩

/-- An error has come: of the type *fmt.wrapError, not nil. -/
def IsErr (v : Value) : Prop := ∃ p, v = .iface 52 (.pointer (some p))

set_option maxHeartbeats 1000000 in
/-- fmt.Errorf("%w: %s", ErrFormat, t). -/
theorem errorf15 (F : Interp) (b : Nat) (a : Addr) (s t : ByteArray) (w : World) (hF : F.answers w.tape) (h0 : w.cell? ⟨b, 0, none⟩ = some (.iface 53 (.pointer (some a)))) (h1 : w.cell? ⟨b, 1, none⟩ = some (.iface 9 (.string t))) (hs : w.cell? a = some (.string s)) :
    Calls Tryf.prog 15 #[.string ⟨#[37, 119, 58, 32, 37, 115]⟩, .slice (some ⟨b, 0, none⟩) 2 2] w fun e w' => ∃ T, e = .returned (.iface 52 (.pointer (some ⟨w.heap.size, 0, none⟩))) ∧ w' = (w.alloc (.cells #[.string T, .iface 53 (.pointer (some a))] 81)).drew := by
  have hF' := answers_open hF
  have hop := opPlain53_119w "fmt.errorf" a s _ hs
  go_enter Tryf.func15, Tryf.ntmps15
  go_wp2
  go_ret
  exact ⟨_, rfl, rfl⟩

/-- formatError hands back an error and turns nothing that lay. -/
def ErrEnd (w : World) (e : Ending) (w' : World) : Prop := ∃ v, e = .returned v ∧ IsErr v ∧ Below w.heap.size w w'
theorem ErrEnd.mk {w w' : World} {p : Addr} (h : Below w.heap.size w w') : ErrEnd w (.returned (.iface 52 (.pointer (some p)))) w' := ⟨_, rfl, ⟨p, rfl⟩, h⟩

set_option maxRecDepth 100000 in
set_option maxHeartbeats 2000000 in
/-- formatError("the record has two %s headers", nm). -/
theorem fmtErr1 (F : Interp) (b n0 : Nat) (a : Addr) (s nm : ByteArray) (w : World) (hF : F.answers w.tape) (hn0 : n0 ≤ w.heap.size) (hE : ErrAt n0 w a s) (h0 : w.cell? ⟨b, 0, none⟩ = some (.iface 9 (.string nm))) :
    Calls Tryf.prog 14 #[.string ⟨#[116, 104, 101, 32, 114, 101, 99, 111, 114, 100, 32, 104, 97, 115, 32, 116, 119, 111, 32, 37, 115, 32, 104, 101, 97, 100, 101, 114, 115]⟩, .slice (some ⟨b, 0, none⟩) 1 1] w (ErrEnd w) := by
  have hF' := answers_open hF
  have hv := hE.var
  have hlt : a.block < w.heap.size := Nat.lt_of_lt_of_le hE.lt hn0
  have hpast : ∀ o : Obj, (w.alloc o).drew.drew.cell? a = some (.string s) := fun o => by
    have : (w.alloc o).drew.drew.cell? a = w.cell? a := World.cell?_of_block (w := w) (Below.heap_alloc w o a.block hlt)
    rw [this]
    exact hE.text
  go_enter Tryf.func14, Tryf.ntmps14
  go_wp2
  go_region_with (go_at_call 15; refine (errorf15 F w.heap.size a s (FmtStop.textOf (F "fmt.Sprintf" [[116, 104, 101, 32, 114, 101, 99, 111, 114, 100, 32, 104, 97, 115, 32, 116, 119, 111, 32, 37, 115, 32, 104, 101, 97, 100, 101, 114, 115], shape9, FmtStop.pack nm.data.toList] 0)) _ (by exact hF) (by go_simp) (by go_simp) (by exact hpast _)).mono ?_; rintro e w' ⟨T, rfl, rfl⟩)
  all_goals
    go_wp2
    go_ret
    exact .mk (((((Below.refl _ w).alloc (Nat.le_refl _) _).alloc (by simp) _).drew).drew).drew

set_option maxRecDepth 100000 in
set_option maxHeartbeats 2000000 in
/-- formatError("%s %.20q is not true or false", nm, v). -/
theorem fmtErr2 (F : Interp) (b n0 : Nat) (a : Addr) (s nm v : ByteArray) (w : World) (hF : F.answers w.tape) (hn0 : n0 ≤ w.heap.size) (hE : ErrAt n0 w a s) (h0 : w.cell? ⟨b, 0, none⟩ = some (.iface 9 (.string nm))) (h1 : w.cell? ⟨b, 1, none⟩ = some (.iface 9 (.string v))) :
    Calls Tryf.prog 14 #[.string ⟨#[37, 115, 32, 37, 46, 50, 48, 113, 32, 105, 115, 32, 110, 111, 116, 32, 116, 114, 117, 101, 32, 111, 114, 32, 102, 97, 108, 115, 101]⟩, .slice (some ⟨b, 0, none⟩) 2 2] w (ErrEnd w) := by
  have hF' := answers_open hF
  have hv := hE.var
  have hlt : a.block < w.heap.size := Nat.lt_of_lt_of_le hE.lt hn0
  have hpast : ∀ o : Obj, (w.alloc o).drew.drew.cell? a = some (.string s) := fun o => by
    have : (w.alloc o).drew.drew.cell? a = w.cell? a := World.cell?_of_block (w := w) (Below.heap_alloc w o a.block hlt)
    rw [this]
    exact hE.text
  go_enter Tryf.func14, Tryf.ntmps14
  go_wp2
  go_region_with (go_at_call 15; refine (errorf15 F w.heap.size a s (FmtStop.textOf (F "fmt.Sprintf" [[37, 115, 32, 37, 46, 50, 48, 113, 32, 105, 115, 32, 110, 111, 116, 32, 116, 114, 117, 101, 32, 111, 114, 32, 102, 97, 108, 115, 101], shape9, FmtStop.pack nm.data.toList, shape9, FmtStop.pack v.data.toList] 0)) _ (by exact hF) (by go_simp) (by go_simp) (by exact hpast _)).mono ?_; rintro e w' ⟨T, rfl, rfl⟩)
  all_goals
    go_wp2
    go_ret
    exact .mk (((((Below.refl _ w).alloc (Nat.le_refl _) _).alloc (by simp) _).drew).drew).drew
end Go.Proofs.Qxb6614988aFmt
