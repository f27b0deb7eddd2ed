import Derived.Test.Qxb6003666aEnd
namespace Go.Proofs.Qxb6003666a
open Go.RowKit
set_option linter.unusedVariables false

abbrev e0 : ByteArray := ⟨#[]⟩

/-- The namespaces declared for q, oldest first, of the association list ps, ss. -/
def stkOf : List ByteArray → List ByteArray → ByteArray → List ByteArray
  | p :: ps, s :: ss, q => if q = p then s :: stkOf ps ss q else stkOf ps ss q
  | _, _, _ => []

theorem stkOf_append : ∀ (ps ss ps' ss' : List ByteArray) (q : ByteArray), ps.length = ss.length → stkOf (ps ++ ps') (ss ++ ss') q = stkOf ps ss q ++ stkOf ps' ss' q
  | [], [], _, _, _, _ => rfl
  | p :: ps, s :: ss, ps', ss', q, h => by
    have := stkOf_append ps ss ps' ss' q (by simpa using h)
    simp only [List.cons_append, stkOf]
    rw [this]
    split <;> simp

theorem stkOf_len : ∀ (ps ss : List ByteArray) (q : ByteArray), (stkOf ps ss q).length ≤ ps.length
  | [], _, _ => by simp [stkOf]
  | p :: ps, [], q => by simp [stkOf]
  | p :: ps, s :: ss, q => by
    have := stkOf_len ps ss q
    simp only [stkOf]
    split <;> simp <;> omega

theorem stkOf_snoc (ps ss : List ByteArray) (h : ps.length = ss.length) (p n : ByteArray) : stkOf (ps ++ [p]) (ss ++ [n]) = updS (stkOf ps ss) p (stkOf ps ss p ++ [n]) := by
  funext q
  rw [stkOf_append ps ss [p] [n] q h]
  unfold updS
  by_cases e : q = p
  · subst e; simp [stkOf]
  · simp [stkOf, e]

/-- How often q stands in l. -/
def cnt (l : List ByteArray) (q : ByteArray) : Nat := (l.filter fun x => decide (x = q)).length

theorem stkOf_cnt : ∀ (ps ss : List ByteArray) (q : ByteArray), ps.length = ss.length → (stkOf ps ss q).length = cnt ps q
  | [], [], _, _ => rfl
  | p :: ps, s :: ss, q, h => by
    have := stkOf_cnt ps ss q (by simpa using h)
    simp only [stkOf, cnt, List.filter_cons]
    by_cases e : p = q
    · subst e
      simp [this, cnt]
    · have e' : ¬ q = p := fun g => e g.symm
      simp [e, e', this, cnt]

theorem pops_all (A : ByteArray → List ByteArray) : ∀ (l : List ByteArray) (stk E : ByteArray → List ByteArray), (∀ q, stk q = A q ++ E q) → (∀ q, (E q).length = cnt l q) → pops stk l = A ∧ Pops stk l
  | [], stk, E, h1, h2 => by
    refine ⟨funext fun q => ?_, fun j hj => by simp at hj⟩
    have := h2 q
    have hE : E q = [] := List.eq_nil_of_length_eq_zero (by rw [this]; rfl)
    show stk q = A q
    rw [h1 q, hE, List.append_nil]
  | q0 :: r, stk, E, h1, h2 => by
    have hne : E q0 ≠ [] := by
      intro e
      have := h2 q0
      rw [e] at this
      simp [cnt] at this
    have hne' : stk q0 ≠ [] := by rw [h1 q0]; simp [hne]
    have ih := pops_all A r (updS stk q0 (stk q0).dropLast) (updS E q0 (E q0).dropLast) (fun q => by
      unfold updS
      by_cases e : q = q0
      · subst e
        rw [if_pos rfl, if_pos rfl, h1 q, List.dropLast_append_of_ne_nil hne]
      · rw [if_neg e, if_neg e]; exact h1 q) (fun q => by
      unfold updS
      have hq := h2 q
      by_cases e : q = q0
      · subst e
        rw [if_pos rfl, List.length_dropLast, hq]
        simp [cnt]
      · have e' : ¬ q0 = q := fun g => e g.symm
        rw [if_neg e, hq]
        simp [cnt, e'])
    refine ⟨ih.1, fun j hj => ?_⟩
    match j with
    | 0 => exact hne'
    | j + 1 => exact ih.2 j (by simpa using hj)

/-- A close takes back just what was declared since its mark. -/
theorem pops_stkOf (ps ss : List ByteArray) (h : ps.length = ss.length) (mark : Nat) (hm : mark ≤ ps.length) : pops (stkOf ps ss) (ps.drop mark) = stkOf (ps.take mark) (ss.take mark) ∧ Pops (stkOf ps ss) (ps.drop mark) := by
  refine pops_all (stkOf (ps.take mark) (ss.take mark)) (ps.drop mark) (stkOf ps ss) (stkOf (ps.drop mark) (ss.drop mark)) (fun q => ?_) (fun q => ?_)
  · have := stkOf_append (ps.take mark) (ss.take mark) (ps.drop mark) (ss.drop mark) q (by simp; omega)
    rw [List.take_append_drop, List.take_append_drop] at this
    exact this
  · exact stkOf_cnt _ _ q (by simp; omega)

theorem stkOf_none : ∀ (ps ss : List ByteArray) (q : ByteArray), (∀ i, i < ps.length → ps.getD i e0 ≠ q) → stkOf ps ss q = []
  | [], _, _, _ => rfl
  | p :: ps, [], _, _ => rfl
  | p :: ps, s :: ss, q, h => by
    have h0 : ¬ q = p := fun g => h 0 (by simp) (by simp [g])
    have := stkOf_none ps ss q (fun i hi => by have := h (i + 1) (by simp; omega); simpa using this)
    simp [stkOf, h0, this]

theorem lookF_none (ps ss : List ByteArray) (q : ByteArray) (h : ∀ i, i < ps.length → ps.getD i e0 ≠ q) : lookF (stkOf ps ss q) = (e0, false) := by
  rw [stkOf_none ps ss q h]; rfl

theorem split_at (l : List ByteArray) (m : Nat) (h : m < l.length) : l = l.take m ++ (l.getD m e0 :: l.drop (m + 1)) := by
  have e : l.getD m e0 = l[m] := by simp [List.getD, List.getElem?_eq_getElem h]
  rw [e, ← List.drop_eq_getElem_cons h, List.take_append_drop]

theorem lookF_last (ps ss : List ByteArray) (h : ps.length = ss.length) (m : Nat) (hm : m < ps.length) (hl : ∀ i, m + 1 ≤ i → i < ps.length → ps.getD i e0 ≠ ps.getD m e0) : lookF (stkOf ps ss (ps.getD m e0)) = (ss.getD m e0, true) := by
  have e1 := split_at ps m hm
  have e2 := split_at ss m (by omega)
  have hnone : stkOf (ps.drop (m + 1)) (ss.drop (m + 1)) (ps.getD m e0) = [] := by
    refine stkOf_none _ _ _ (fun i hi => ?_)
    have := hl (m + 1 + i) (by omega) (by simp at hi; omega)
    simpa [List.getD] using this
  have key : stkOf ps ss (ps.getD m e0) = stkOf (ps.take m) (ss.take m) (ps.getD m e0) ++ [ss.getD m e0] := by
    have := stkOf_append (ps.take m) (ss.take m) (ps.getD m e0 :: ps.drop (m + 1)) (ss.getD m e0 :: ss.drop (m + 1)) (ps.getD m e0) (by simp; omega)
    rw [← e1, ← e2] at this
    rw [this]
    simp only [stkOf, if_true]
    rw [hnone]
  rw [key]
  simp [lookF]

theorem ne_toList {a b : ByteArray} (h : a ≠ b) : (a.toList == b.toList) = false := by
  rw [beq_eq_false_iff_ne]
  intro e
  apply h
  rw [ByteArray.toList_eq, ByteArray.toList_eq] at e
  cases a; cases b
  simp_all

end Go.Proofs.Qxb6003666a
