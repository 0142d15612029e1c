import Derived.Test.Qxb6614988aDoorRec
namespace Go.Proofs.Qxb6614988aDoor
open Go.RowKit
abbrev nP : ByteArray := ⟨#[80, 114, 111, 112, 45, 99, 111, 110, 116, 101, 110, 116, 45, 108, 101, 110, 103, 116, 104]⟩
abbrev nT : ByteArray := ⟨#[84, 101, 120, 116, 45, 99, 111, 110, 116, 101, 110, 116, 45, 108, 101, 110, 103, 116, 104]⟩
abbrev nC : ByteArray := ⟨#[67, 111, 110, 116, 101, 110, 116, 45, 108, 101, 110, 103, 116, 104]⟩

/-- SetLengths, in plain words. -/
def l1 (hs : List Hdr) (hp : Bool) (pv : ByteArray) : List Hdr := setHs hs nP pv hp
def l2 (hs : List Hdr) (hp ht : Bool) (pv tv : ByteArray) : List Hdr := setHs (l1 hs hp pv) nT tv ht
def addB (hs : List Hdr) (hp ht : Bool) (pv : ByteArray) : Bool := setHb (l1 hs hp pv) nT ht || setHb hs nP hp
def setL (hs : List Hdr) (hp ht : Bool) (pv tv cv : ByteArray) : List Hdr := setHs (l2 hs hp ht pv tv) nC cv (addB hs hp ht pv)
theorem setHs_length (hs : List Hdr) (nm v : ByteArray) (add : Bool) : hs.length ≤ (setHs hs nm v add).length ∧ (setHs hs nm v add).length ≤ hs.length + 1 := by
  unfold setHs
  split <;> simp


theorem beqB (a b : ByteArray) : (a == b) = (a.toList == b.toList) := beq_toListBytes a b
theorem beqB_self (a : ByteArray) : (a == a) = true := by rw [beqB]; simp
theorem beqB_eq {a b : ByteArray} (h : (a == b) = true) : a = b := by
  rw [beqB, beq_iff_eq] at h
  rw [ByteArray.toList_eq, ByteArray.toList_eq] at h
  cases a
  cases b
  simpa using h
theorem PT : (nP == nT) = false := by decide
theorem PC : (nP == nC) = false := by decide
theorem TP : (nT == nP) = false := by decide
theorem TC : (nT == nC) = false := by decide
theorem CP : (nC == nP) = false := by decide
theorem CT : (nC == nT) = false := by decide

/-- A header with the lengths in. -/
def val (pv tv cv : ByteArray) (h : Hdr) : Hdr := (h.1, if h.1 == nP then pv else if h.1 == nT then tv else if h.1 == nC then cv else h.2)
def aP (hs : List Hdr) (hp : Bool) : Bool := hp && !has hs nP
def aT (hs : List Hdr) (ht : Bool) : Bool := ht && !has hs nT
def aC (hs : List Hdr) (hp ht : Bool) : Bool := (aP hs hp || aT hs ht) && !has hs nC
def extras (bP bT bC : Bool) (pv tv cv : ByteArray) : List Hdr := (if bP then [(nP, pv)] else []) ++ ((if bT then [(nT, tv)] else []) ++ (if bC then [(nC, cv)] else []))

theorem has_append (xs ys : List Hdr) (nm : ByteArray) : has (xs ++ ys) nm = (has xs nm || has ys nm) := by simp [has]
theorem has_map (hs : List Hdr) (f : Hdr → Hdr) (hf : ∀ h, (f h).1 = h.1) (nm : ByteArray) : has (hs.map f) nm = has hs nm := by
  unfold has
  rw [List.any_map]
  congr 1
  funext h
  simp [hf]
theorem putH_fst (nm v : ByteArray) (h : Hdr) : (putH nm v h).1 = h.1 := by
  unfold putH
  split <;> rfl
theorem putPTC (pv tv cv : ByteArray) (h : Hdr) : putH nC cv (putH nT tv (putH nP pv h)) = val pv tv cv h := by
  obtain ⟨x, y⟩ := h
  unfold putH val
  dsimp only
  cases h1 : (x == nP)
  · cases h2 : (x == nT)
    · cases h3 : (x == nC) <;> simp [h2, h3]
    · have := beqB_eq h2
      subst this
      simp [TC, h2]
  · have := beqB_eq h1
    subst this
    simp [PC, PT]

theorem setL_eq (hs : List Hdr) (hp ht : Bool) (pv tv cv : ByteArray) : setL hs hp ht pv tv cv = hs.map (val pv tv cv) ++ extras (aP hs hp) (aT hs ht) (aC hs hp ht) pv tv cv := by
  have e1 : setHb hs nP hp = aP hs hp := by unfold setHb aP; cases has hs nP <;> cases hp <;> rfl
  have e2 : l1 hs hp pv = hs.map (putH nP pv) ++ (if aP hs hp then [(nP, pv)] else []) := by
    unfold l1 setHs
    rw [← e1]
    unfold setHb
    cases (has hs nP || !hp) <;> rfl
  have e3 : has (l1 hs hp pv) nT = has hs nT := by
    rw [e2, has_append, has_map hs _ (putH_fst _ _)]
    cases aP hs hp <;> simp [has, PT]
  have e4 : setHb (l1 hs hp pv) nT ht = aT hs ht := by unfold setHb aT; rw [e3]; cases has hs nT <;> cases ht <;> rfl
  have e5 : l2 hs hp ht pv tv = (l1 hs hp pv).map (putH nT tv) ++ (if aT hs ht then [(nT, tv)] else []) := by
    unfold l2 setHs
    rw [← e4]
    unfold setHb
    cases (has (l1 hs hp pv) nT || !ht) <;> rfl
  have e6 : has (l2 hs hp ht pv tv) nC = has hs nC := by
    rw [e5, has_append, has_map _ _ (putH_fst _ _), e2, has_append, has_map hs _ (putH_fst _ _)]
    cases aP hs hp <;> cases aT hs ht <;> simp [has, PC, TC]
  have e7 : addB hs hp ht pv = (aP hs hp || aT hs ht) := by unfold addB; rw [e4, e1, Bool.or_comm]
  have e8 : setL hs hp ht pv tv cv = (l2 hs hp ht pv tv).map (putH nC cv) ++ (if aC hs hp ht then [(nC, cv)] else []) := by
    unfold setL setHs aC
    rw [e6, e7]
    cases has hs nC <;> cases (aP hs hp || aT hs ht) <;> rfl
  rw [e8, e5, e2]
  have e9 : (((hs.map (putH nP pv)).map (putH nT tv)).map (putH nC cv)) = hs.map (val pv tv cv) := by
    rw [List.map_map, List.map_map]
    congr 1
    funext h
    exact putPTC pv tv cv h
  have f1 : putH nC cv (putH nT tv (nP, pv)) = (nP, pv) := by simp [putH, PT, PC]
  have f2 : putH nC cv (nT, tv) = (nT, tv) := by simp [putH, TC]
  unfold extras
  rw [List.map_append, List.map_append, List.map_append, e9]
  cases aP hs hp <;> cases aT hs ht <;> simp [f1, f2]

theorem val_fst (pv tv cv : ByteArray) (h : Hdr) : (val pv tv cv h).1 = h.1 := rfl
theorem val_val (p t c pv tv cv : ByteArray) (h : Hdr) : val pv tv cv (val p t c h) = val pv tv cv h := by
  unfold val
  dsimp only
  cases h1 : (h.1 == nP) <;> cases h2 : (h.1 == nT) <;> cases h3 : (h.1 == nC) <;> simp
theorem val_extras (bP bT bC : Bool) (p t c pv tv cv : ByteArray) : (extras bP bT bC p t c).map (val pv tv cv) = extras bP bT bC pv tv cv := by
  have f1 : val pv tv cv (nP, p) = (nP, pv) := by simp [val, beqB_self]
  have f2 : val pv tv cv (nT, t) = (nT, tv) := by simp [val, TP, beqB_self]
  have f3 : val pv tv cv (nC, c) = (nC, cv) := by simp [val, CP, CT, beqB_self]
  unfold extras
  cases bP <;> cases bT <;> cases bC <;> simp [f1, f2, f3]
theorem has_setL (hs : List Hdr) (hp ht : Bool) (pv tv cv : ByteArray) : has (setL hs hp ht pv tv cv) nP = (has hs nP || hp) ∧ has (setL hs hp ht pv tv cv) nT = (has hs nT || ht) ∧ has (setL hs hp ht pv tv cv) nC = (has hs nC || (aP hs hp || aT hs ht)) := by
  rw [setL_eq, has_append, has_append, has_append, has_map hs _ (val_fst _ _ _), has_map hs _ (val_fst _ _ _), has_map hs _ (val_fst _ _ _)]
  unfold aC
  have hP : ∀ x, has [(nP, x)] nP = true := fun x => by simp [has, beqB_self]
  have hT : ∀ x, has [(nT, x)] nT = true := fun x => by simp [has, beqB_self]
  have hC : ∀ x, has [(nC, x)] nC = true := fun x => by simp [has, beqB_self]
  have h1 : ∀ x, has [(nP, x)] nT = false := fun x => by simp [has, PT]
  have h2 : ∀ x, has [(nP, x)] nC = false := fun x => by simp [has, PC]
  have h3 : ∀ x, has [(nT, x)] nP = false := fun x => by simp [has, TP]
  have h4 : ∀ x, has [(nT, x)] nC = false := fun x => by simp [has, TC]
  have h5 : ∀ x, has [(nC, x)] nP = false := fun x => by simp [has, CP]
  have h6 : ∀ x, has [(nC, x)] nT = false := fun x => by simp [has, CT]
  have h7 : ∀ nm, has [] nm = false := fun nm => rfl
  unfold extras
  simp only [has_append]
  unfold aP aT
  cases hp <;> cases ht <;> cases has hs nP <;> cases has hs nT <;> cases has hs nC <;> simp [hP, hT, hC, h1, h2, h3, h4, h5, h6, h7]
/-- Set again: the last lengths win. -/
theorem setL_again (hs : List Hdr) (hp ht : Bool) (p t c pv tv cv : ByteArray) : setL (setL hs hp ht p t c) hp ht pv tv cv = setL hs hp ht pv tv cv := by
  obtain ⟨h1, h2, h3⟩ := has_setL hs hp ht p t c
  have e1 : aP (setL hs hp ht p t c) hp = false := by unfold aP; rw [h1]; cases hp <;> simp
  have e2 : aT (setL hs hp ht p t c) ht = false := by unfold aT; rw [h2]; cases ht <;> simp
  have e3 : aC (setL hs hp ht p t c) hp ht = false := by unfold aC; rw [e1, e2]; rfl
  rw [setL_eq (setL hs hp ht p t c), e1, e2, e3]
  show _ ++ [] = _
  rw [List.append_nil, setL_eq, setL_eq, List.map_append, val_extras, List.map_map]
  congr 1
  congr 1
  funext h
  exact val_val p t c pv tv cv h
theorem setL_length (hs : List Hdr) (hp ht : Bool) (pv tv cv : ByteArray) : hs.length ≤ (setL hs hp ht pv tv cv).length ∧ (setL hs hp ht pv tv cv).length ≤ hs.length + 3 := by
  rw [setL_eq]
  unfold extras
  cases aP hs hp <;> cases aT hs ht <;> cases aC hs hp ht <;> simp

/-- By the names alone. -/
theorem has_zip (ns vs : List ByteArray) (hl : ns.length = vs.length) (nm : ByteArray) : has (ns.zip vs) nm = ns.any fun x => x == nm := by
  induction ns generalizing vs with
  | nil => rfl
  | cons x ns ih =>
    cases vs with
    | nil => cases hl
    | cons y vs => simp [has] at ih ⊢; rw [ih vs (by simpa using hl)]
theorem count_has (ns : List ByteArray) (nm : ByteArray) : ((ns.filter fun x => x == nm).length == 0) = !(ns.any fun x => x == nm) := by
  induction ns with
  | nil => rfl
  | cons x ns ih => cases h : (x == nm) <;> simp [h] at ih ⊢; exact ih
end Go.Proofs.Qxb6614988aDoor
