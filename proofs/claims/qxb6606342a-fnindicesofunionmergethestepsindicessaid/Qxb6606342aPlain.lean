import Derived.Test.Qxb6606342aBools
namespace Go.Proofs.Qxb6606342a

theorem prefix_of (B : Nat → Bool) (k n : Nat) (h : k ≤ n) : ∃ r, trues B n = trues B k ++ r ∧ ∀ x ∈ r, k ≤ x ∧ x < n ∧ B x = true := by
  induction n with
  | zero => obtain rfl : k = 0 := by omega
            exact ⟨[], by simp, by simp⟩
  | succ n ih =>
    by_cases e : k = n + 1
    · subst e; exact ⟨[], by simp, by simp⟩
    · obtain ⟨r, h1, h2⟩ := ih (by omega)
      refine ⟨r ++ (if B n then [n] else []), by rw [trues_succ, h1, List.append_assoc], fun x hx => ?_⟩
      rcases List.mem_append.1 hx with hx | hx
      · have := h2 x hx; exact ⟨this.1, by omega, this.2.2⟩
      · by_cases hb : B n = true
        · simp [hb] at hx; subst hx; exact ⟨by omega, by omega, hb⟩
        · simp [hb] at hx

/-- Nothing true between t and v: the same list. -/
theorem trues_jump (B : Nat → Bool) (t v : Nat) (h : t ≤ v) (hf : ∀ y, t ≤ y → y < v → B y = false) : trues B v = trues B t := by
  obtain ⟨r, h1, h2⟩ := prefix_of B t v h
  match r, h1, h2 with
  | [], h1, _ => simpa using h1
  | x :: r, _, h2 =>
    have := h2 x (by simp)
    rw [hf x this.1 this.2.1] at this
    simp at this

theorem trues_mem (B : Nat → Bool) (n x : Nat) : x ∈ trues B n ↔ x < n ∧ B x = true := by simp [trues]

/-- The next true place from t on. -/
theorem trues_next (B : Nat → Bool) (t n : Nat) (h : t ≤ n) (hl : (trues B t).length < (trues B n).length) :
    t ≤ (trues B n).getD (trues B t).length 0 ∧ (trues B n).getD (trues B t).length 0 < n ∧ B ((trues B n).getD (trues B t).length 0) = true ∧
      ∀ y, t ≤ y → y < (trues B n).getD (trues B t).length 0 → B y = false := by
  induction n with
  | zero => obtain rfl : t = 0 := by omega
            simp at hl
  | succ n ih =>
    by_cases e : t = n + 1
    · subst e; simp at hl
    · obtain ⟨r, h1, h2⟩ := prefix_of B t n (by omega)
      match r, h1, h2 with
      | [], h1, h2 =>
        simp at h1
        have hB : B n = true := by
          by_cases hb : B n = true
          · exact hb
          · rw [trues_succ, h1] at hl; simp [hb] at hl
        have e1 : (trues B (n + 1)).getD (trues B t).length 0 = n := by
          rw [trues_succ, h1, hB]; simp
        rw [e1]
        refine ⟨by omega, by omega, hB, fun y hy1 hy2 => ?_⟩
        by_cases hb : B y = true
        · have := (trues_mem B n y).2 ⟨hy2, hb⟩
          rw [h1] at this
          have := ((trues_mem B t y).1 this).1
          omega
        · simpa using hb
      | x :: r, h1, h2 =>
        have hl' : (trues B t).length < (trues B n).length := by rw [h1]; simp
        obtain ⟨a, b, c, d⟩ := ih (by omega) hl'
        have e1 : (trues B (n + 1)).getD (trues B t).length 0 = (trues B n).getD (trues B t).length 0 := by
          rw [trues_succ]
          simp [List.getElem?_append_left hl']
        rw [e1]
        exact ⟨a, by omega, c, d⟩

/-- No true place is left. -/
theorem trues_done (B : Nat → Bool) (t n : Nat) (h : t ≤ n) (hl : ¬ (trues B t).length < (trues B n).length) : ∀ y, t ≤ y → y < n → B y = false := by
  obtain ⟨r, h1, h2⟩ := prefix_of B t n h
  have hr : r = [] := by
    rw [h1] at hl; simp at hl
    exact hl
  intro y hy1 hy2
  by_cases hb : B y = true
  · have := (trues_mem B n y).2 ⟨hy2, hb⟩
    rw [h1, hr] at this
    simp at this
    have := ((trues_mem B t y).1 this).1
    omega
  · simpa using hb

theorem trues_ext (B C : Nat → Bool) (n : Nat) (h : ∀ y, y < n → B y = C y) : trues B n = trues C n := by
  unfold trues
  apply List.filter_congr
  intro x hx
  exact h x (List.mem_range.1 hx)

/-- The true places of a shorter row. -/
theorem trues_short (B : Nat → Bool) (l n : Nat) (h : l ≤ n) : trues (fun x => decide (x < l) && B x) n = trues B l := by
  rw [trues_jump _ l n h (fun y h1 _ => by simp; omega)]
  exact trues_ext _ _ _ fun y hy => by simp [hy]

/-! ### THE MERGE: behind the places below t -/
section
variable (F G : Nat → Bool) (N t : Nat)

/-- One step: v is the next place of F or G (or of both). -/
theorem merge_step (v : Nat) (h1 : t ≤ v) (hF : ∀ y, t ≤ y → y < v → F y = false) (hG : ∀ y, t ≤ y → y < v → G y = false) :
    (trues F (v + 1)).length = (trues F t).length + (if F v then 1 else 0) ∧ (trues G (v + 1)).length = (trues G t).length + (if G v then 1 else 0) ∧
      ((F v || G v) = true → trues (fun x => F x || G x) (v + 1) = trues (fun x => F x || G x) t ++ [v]) := by
  have e1 := trues_jump F t v h1 hF
  have e2 := trues_jump G t v h1 hG
  have e3 := trues_jump (fun x => F x || G x) t v h1 (fun y a b => by simp [hF y a b, hG y a b])
  refine ⟨?_, ?_, fun h => ?_⟩
  · rw [trues_succ, e1]; by_cases h : F v = true <;> simp [h]
  · rw [trues_succ, e2]; by_cases h : G v = true <;> simp [h]
  · rw [trues_succ, e3]; simp only [h]; rfl

end

end Go.Proofs.Qxb6606342a
