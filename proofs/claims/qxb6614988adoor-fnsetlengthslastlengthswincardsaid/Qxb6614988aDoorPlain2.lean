import Derived.Test.Qxb6614988aDoorPlain
namespace Go.Proofs.Qxb6614988aDoor
open Go.RowKit

/-! ### for the last lengths -/
theorem zip_fst_snd (L : List Hdr) : (L.map fun h => h.1).zip (L.map fun h => h.2) = L := by
  induction L with
  | nil => rfl
  | cons h L ih => simp [ih]
theorem mem_get {L : List Hdr} {k : Nat} (hk : k < L.length) : L[k]?.getD hd0 ∈ L := by
  rw [List.getElem?_eq_getElem hk]
  exact List.getElem_mem hk
/-- Every length header bears its length. -/
theorem setL_vals (hs : List Hdr) (hp ht : Bool) (pv tv cv : ByteArray) (h : Hdr) (hm : h ∈ setL hs hp ht pv tv cv) :
    ((h.1 == nP) = true → h.2 = pv) ∧ ((h.1 == nT) = true → h.2 = tv) ∧ ((h.1 == nC) = true → h.2 = cv) := by
  have key : val pv tv cv h = h := by
    rw [setL_eq] at hm
    rcases List.mem_append.1 hm with hm | hm
    · obtain ⟨h', _, rfl⟩ := List.mem_map.1 hm
      exact val_val pv tv cv pv tv cv h'
    · have hx : ∀ x ∈ extras (aP hs hp) (aT hs ht) (aC hs hp ht) pv tv cv, val pv tv cv x = x := by
        intro x hx
        have f1 : val pv tv cv (nP, pv) = (nP, pv) := by simp [val, beqB_self]
        have f2 : val pv tv cv (nT, tv) = (nT, tv) := by simp [val, TP, beqB_self]
        have f3 : val pv tv cv (nC, cv) = (nC, cv) := by simp [val, CP, CT, beqB_self]
        unfold extras at hx
        rcases List.mem_append.1 hx with hx | hx
        · split at hx
          · rw [List.mem_singleton.1 hx]; exact f1
          · cases hx
        · rcases List.mem_append.1 hx with hx | hx
          · split at hx
            · rw [List.mem_singleton.1 hx]; exact f2
            · cases hx
          · split at hx
            · rw [List.mem_singleton.1 hx]; exact f3
            · cases hx
      exact hx h hm
  have k2 : (if h.1 == nP then pv else if h.1 == nT then tv else if h.1 == nC then cv else h.2) = h.2 := congrArg Prod.snd key
  refine ⟨fun e => ?_, fun e => ?_, fun e => ?_⟩
  · rw [if_pos e] at k2
    exact k2.symm
  · have e1 : (h.1 == nP) = false := by rw [beqB_eq e]; exact TP
    rw [if_neg (by rw [e1]; simp), if_pos e] at k2
    exact k2.symm
  · have e1 : (h.1 == nP) = false := by rw [beqB_eq e]; exact CP
    have e2 : (h.1 == nT) = false := by rw [beqB_eq e]; exact CT
    rw [if_neg (by rw [e1]; simp), if_neg (by rw [e2]; simp), if_pos e] at k2
    exact k2.symm
/-- The names come first, as they were. -/
theorem setL_take (ns vs : List ByteArray) (hp ht : Bool) (pv tv cv : ByteArray) (hl : ns.length = vs.length) : ((setL (ns.zip vs) hp ht pv tv cv).map fun h => h.1).take ns.length = ns := by
  rw [setL_eq, List.map_append, List.map_map]
  have : ((fun h : Hdr => h.1) ∘ val pv tv cv) = Prod.fst := by funext h; rfl
  rw [this, List.map_fst_zip (by omega)]
  simp
/-- What the last three tests ask. -/
theorem seen_all (hs : List Hdr) (hp ht : Bool) (pv tv cv : ByteArray) : (hp && !has (setL hs hp ht pv tv cv) nP) = false ∧ (ht && !has (setL hs hp ht pv tv cv) nT) = false ∧ ((aP hs hp || aT hs ht) && !has (setL hs hp ht pv tv cv) nC) = false := by
  obtain ⟨h1, h2, h3⟩ := has_setL hs hp ht pv tv cv
  rw [h1, h2, h3]
  refine ⟨by cases hp <;> simp, by cases ht <;> simp, ?_⟩
  cases (aP hs hp || aT hs ht) <;> simp
end Go.Proofs.Qxb6614988aDoor
