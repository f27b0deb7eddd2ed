import Derived.Test.Qxb6606384aRows
import Derived.WalkKit
import Derived.WalkSpells
import Derived.WalkLawsBesides
namespace Go.Proofs.Qxb6606384a
set_option linter.unusedVariables false

/-- The byte at place p, 0 past the end. -/
def byteAt (s : ByteArray) (p : Nat) : Int := if h : p < s.size then ((s[p]'h).toNat : Int) else 0

def blankB (b : Int) : Bool := b == 32 || b == 9

/-- The least multiple of four above x. -/
def stopF (x : Int) : Int := (x / 4 + 1) * 4

def stepF (x b : Int) : Int := if b = 9 then stopF x else x + 1

/-- The column at which the m-th byte from pos begins. -/
def R (s : ByteArray) (pos : Nat) (a : Int) : Nat → Int
  | 0 => a
  | m + 1 => stepF (R s pos a m) (byteAt s (pos + m))

/-- A blank stands at place pos + m. -/
def bl (s : ByteArray) (pos m : Nat) : Prop := pos + m < s.size ∧ blankB (byteAt s (pos + m)) = true

theorem stop_eq (x : Int) : stopF x = x + 4 - x % 4 := by unfold stopF; omega
theorem stop_gt (x : Int) : x < stopF x ∧ stopF x ≤ x + 4 := by unfold stopF; omega

theorem step_bd (x b : Int) : x + 1 ≤ stepF x b ∧ stepF x b ≤ x + 4 := by
  unfold stepF
  split
  · have := stop_gt x; omega
  · omega

theorem R_bd (s : ByteArray) (pos : Nat) (a : Int) (h : 0 ≤ a) (m : Nat) : a + m ≤ R s pos a m ∧ R s pos a m ≤ a + 4 * m := by
  induction m with
  | zero => simp [R]
  | succ m ih =>
    have := step_bd (R s pos a m) (byteAt s (pos + m))
    show a + ((m + 1 : Nat) : Int) ≤ stepF (R s pos a m) (byteAt s (pos + m)) ∧ stepF (R s pos a m) (byteAt s (pos + m)) ≤ a + 4 * ((m + 1 : Nat) : Int)
    omega

theorem R_succ (s : ByteArray) (pos : Nat) (a : Int) (m : Nat) : R s pos a (m + 1) = stepF (R s pos a m) (byteAt s (pos + m)) := rfl

theorem R_lt (s : ByteArray) (pos : Nat) (a : Int) (h : 0 ≤ a) (m : Nat) : R s pos a m < R s pos a (m + 1) := by
  have h1 := R_bd s pos a h m
  have := step_bd (R s pos a m) (byteAt s (pos + m))
  rw [R_succ]; omega

theorem R_mono (s : ByteArray) (pos : Nat) (a : Int) (h : 0 ≤ a) (i j : Nat) (hij : i ≤ j) : R s pos a i ≤ R s pos a j := by
  induction j with
  | zero => obtain rfl : i = 0 := by omega
            exact Int.le_refl _
  | succ j ih =>
    by_cases e : i = j + 1
    · subst e; exact Int.le_refl _
    · have := ih (by omega); have := R_lt s pos a h j; omega

/-- The documented shape of a cursor. -/
def Shape (s : ByteArray) (pos : Nat) (a c : Int) : Prop :=
  pos ≤ s.size ∧ 0 ≤ a ∧ (c = a ∨ (a < c ∧ pos < s.size ∧ byteAt s pos = 9 ∧ c < stopF a))

theorem shape_col {s : ByteArray} {pos : Nat} {a c : Int} (h : Shape s pos a c) : a ≤ c ∧ c ≤ a + 3 := by
  obtain ⟨_, h0, h | ⟨h1, _, _, h2⟩⟩ := h
  · omega
  · have := stop_gt a; omega

/-- A blank at pos ends past the column reached. -/
theorem shape_first {s : ByteArray} {pos : Nat} {a c : Int} (h : Shape s pos a c) (m : Nat) (hm : 1 ≤ m) : c < R s pos a m := by
  obtain ⟨_, h0, h⟩ := h
  have h1 : R s pos a 1 ≤ R s pos a m := R_mono s pos a h0 1 m hm
  have h2 : R s pos a 1 = stepF a (byteAt s pos) := rfl
  rcases h with rfl | ⟨h3, _, h4, h5⟩
  · have := step_bd c (byteAt s pos); omega
  · rw [h4] at h2; simp only [stepF, if_true] at h2; omega

theorem shape_noblank {s : ByteArray} {pos : Nat} {a c : Int} (h : Shape s pos a c) (hb : ¬ bl s pos 0) : c = a := by
  obtain ⟨_, h0, h | ⟨_, h3, h4, _⟩⟩ := h
  · exact h
  · exact absurd ⟨h3, by show blankB (byteAt s pos) = true; rw [h4]; rfl⟩ hb

/-! ### WHERE A READING ENDS -/

/-- Of the blanks from pos on just the first m end at most at column reach. -/
def Ends (s : ByteArray) (pos : Nat) (a reach : Int) (m : Nat) : Prop :=
  (∀ j, j < m → bl s pos j ∧ R s pos a (j + 1) ≤ reach) ∧ ¬ (bl s pos m ∧ R s pos a (m + 1) ≤ reach)

theorem ends_unique {s : ByteArray} {pos : Nat} {a reach : Int} {m n : Nat} (h : Ends s pos a reach m) (h' : Ends s pos a reach n) : m = n := by
  rcases Nat.lt_trichotomy m n with g | g | g
  · exact absurd (h'.1 m g) h.2
  · exact g
  · exact absurd (h.1 n g) h'.2

/-- The run of blanks from pos on is l long. -/
def Run (s : ByteArray) (pos l : Nat) : Prop := (∀ j, j < l → bl s pos j) ∧ ¬ bl s pos l

/-- WHERE skip(k) LEAVES THE CURSOR: behind m blanks, at column c'. -/
def Skips (s : ByteArray) (pos : Nat) (a c k : Int) (m : Nat) (c' : Int) : Prop :=
  (k ≤ 0 ∧ m = 0 ∧ c' = c) ∨
  (0 < k ∧ (∀ j, j < m → bl s pos j ∧ R s pos a (j + 1) ≤ c + k) ∧
    ((c' = c + k ∧ 1 ≤ m ∧ R s pos a m = c + k) ∨ (c' = c + k ∧ bl s pos m ∧ R s pos a m ≤ c + k ∧ c + k < R s pos a (m + 1)) ∨ (¬ bl s pos m ∧ c' = R s pos a m ∧ c' < c + k)))

theorem run_le {s : ByteArray} {pos l m : Nat} (h : Run s pos l) (hm : ∀ j, j < m → bl s pos j) : m ≤ l := by
  rcases Nat.lt_or_ge l m with g | g
  · exact absurd (hm l g) h.2
  · exact g

theorem run_eq {s : ByteArray} {pos l m : Nat} (h : Run s pos l) (hm : ∀ j, j < m → bl s pos j) (hn : ¬ bl s pos m) : m = l := by
  rcases Nat.lt_or_ge m l with g | g
  · exact absurd (h.1 m g) hn
  · have := run_le h hm; omega

/-- THE PLAIN LAW, 1: skip is the target-column model. -/
theorem skips_model {s : ByteArray} {pos : Nat} {a c k : Int} {m l : Nat} {c' : Int} (hs : Shape s pos a c) (hr : Run s pos l) (h : Skips s pos a c k m c') :
    let adv := if R s pos a l - c < (if k < 0 then 0 else k) then R s pos a l - c else (if k < 0 then 0 else k)
    c' = c + adv ∧ Ends s pos a (c + adv) m := by
  have h0 := hs.2.1
  have hcol := shape_col hs
  have room : 0 ≤ R s pos a l - c := by
    by_cases e : l = 0
    · subst e
      have := shape_noblank hs hr.2
      show 0 ≤ a - c
      omega
    · have := shape_first hs l (by omega); omega
  intro adv
  rcases h with ⟨hk, rfl, rfl⟩ | ⟨hk, hall, hend⟩
  · have ea : adv = 0 := by
      show (if R s pos a l - c' < (if k < 0 then 0 else k) then R s pos a l - c' else (if k < 0 then 0 else k)) = 0
      have : (if k < 0 then 0 else k) = 0 := by split <;> omega
      rw [this, if_neg (by omega)]
    rw [ea]
    refine ⟨by omega, fun j hj => by omega, fun ⟨_, h2⟩ => ?_⟩
    have := shape_first hs 1 (by omega)
    simp only [Nat.zero_add] at h2
    omega
  · have hk' : (if k < 0 then 0 else k) = k := if_neg (by omega)
    have hml := run_le hr (fun j hj => (hall j hj).1)
    have hmono := R_mono s pos a h0 m l hml
    rcases hend with ⟨rfl, h1, h2⟩ | ⟨rfl, h1, h2, h3⟩ | ⟨h1, rfl, h2⟩
    · have ea : adv = k := by
        show (if R s pos a l - c < (if k < 0 then 0 else k) then R s pos a l - c else (if k < 0 then 0 else k)) = k
        rw [hk', if_neg (by omega)]
      rw [ea]
      refine ⟨rfl, hall, fun ⟨_, g⟩ => ?_⟩
      have := R_lt s pos a h0 m
      omega
    · have hlt : m < l := by
        rcases Nat.lt_or_ge m l with g | g
        · exact g
        · obtain rfl : m = l := by omega
          exact absurd h1 hr.2
      have := R_mono s pos a h0 (m + 1) l hlt
      have ea : adv = k := by
        show (if R s pos a l - c < (if k < 0 then 0 else k) then R s pos a l - c else (if k < 0 then 0 else k)) = k
        rw [hk', if_neg (by omega)]
      rw [ea]
      exact ⟨rfl, hall, fun ⟨_, g⟩ => by omega⟩
    · have e := run_eq hr (fun j hj => (hall j hj).1) h1
      subst e
      have ea : adv = R s pos a m - c := by
        show (if R s pos a m - c < (if k < 0 then 0 else k) then R s pos a m - c else (if k < 0 then 0 else k)) = R s pos a m - c
        rw [hk', if_pos (by omega)]
      rw [ea]
      refine ⟨by omega, fun j hj => ⟨(hall j hj).1, ?_⟩, fun ⟨g, _⟩ => h1 g⟩
      have := R_mono s pos a h0 (j + 1) m hj
      omega

/-- WHERE indent(k) STOPS COUNTING: behind i blanks. -/
def Counts (s : ByteArray) (pos : Nat) (a c k : Int) (i : Nat) : Prop :=
  (∀ j, j < i → bl s pos j ∧ R s pos a j - c < k) ∧ (¬ bl s pos i ∨ k ≤ R s pos a i - c)

/-- THE PLAIN LAW, 2: skip advances as indent counts, and leaves a cursor of the documented shape. -/
theorem skips_counts {s : ByteArray} {pos : Nat} {a c k : Int} {m i : Nat} {c' : Int} (hs : Shape s pos a c) (hk0 : 0 ≤ k) (h : Skips s pos a c k m c') (hc : Counts s pos a c k i) :
    c' - c = (if R s pos a i - c < k then R s pos a i - c else k) ∧ Shape s (pos + m) (R s pos a m) c' := by
  have h0 := hs.2.1
  have hcol := shape_col hs
  have room : ¬ bl s pos i → c ≤ R s pos a i := fun hb => by
    by_cases e : i = 0
    · subst e
      have := shape_noblank hs hb
      show c ≤ a
      omega
    · have := shape_first hs i (by omega); omega
  -- a blank that both have come to
  have far : ∀ n, (∀ j, j < n → bl s pos j) → c + k ≤ R s pos a n → k ≤ R s pos a i - c := by
    intro n hn hb
    rcases hc.2 with g | g
    · have : n ≤ i := by
        rcases Nat.lt_or_ge i n with q | q
        · exact absurd (hn i q) g
        · exact q
      have := R_mono s pos a h0 n i this
      omega
    · exact g
  have le : ∀ n, (∀ j, j < n → bl s pos j) → pos + n ≤ s.size := by
    intro n hn
    by_cases e : n = 0
    · subst e; exact hs.1
    · have := (hn (n - 1) (by omega)).1; omega
  rcases h with ⟨hk, rfl, rfl⟩ | ⟨hk, hall, hend⟩
  · obtain rfl : k = 0 := by omega
    refine ⟨?_, hs⟩
    rcases hc.2 with g | g
    · have := room g; rw [if_neg (by omega)]; omega
    · rw [if_neg (by omega)]; omega
  · have Rm := R_bd s pos a h0 m
    have hbl : ∀ j, j < m → bl s pos j := fun j hj => (hall j hj).1
    rcases hend with ⟨rfl, h1, h2⟩ | ⟨rfl, h1, h2, h3⟩ | ⟨h1, rfl, h2⟩
    · have := far m hbl (by omega)
      refine ⟨by rw [if_neg (by omega)]; omega, le m hbl, by omega, .inl (by omega)⟩
    · have := far (m + 1) (fun j hj => by
        by_cases e : j = m
        · subst e; exact h1
        · exact hbl j (by omega)) (by omega)
      refine ⟨by rw [if_neg (by omega)]; omega, le m hbl, by omega, ?_⟩
      by_cases e : c + k = R s pos a m
      · exact .inl e
      · refine .inr ⟨by omega, h1.1, ?_, ?_⟩
        · have h4 := h1.2
          by_cases e9 : byteAt s (pos + m) = 9
          · exact e9
          · rw [R_succ, stepF, if_neg e9] at h3; omega
        · have h4 := h1.2
          by_cases e9 : byteAt s (pos + m) = 9
          · rw [R_succ, stepF, if_pos e9] at h3; exact h3
          · rw [R_succ, stepF, if_neg e9] at h3; omega
    · have hi : i = m := by
        rcases Nat.lt_trichotomy i m with q | q | q
        · rcases hc.2 with g | g
          · exact absurd (hbl i q) g
          · have := R_mono s pos a h0 i m (by omega); omega
        · exact q
        · exact absurd (hc.1 m q).1 h1
      subst hi
      refine ⟨by rw [if_pos (by omega)], le i hbl, by omega, .inl rfl⟩

end Go.Proofs.Qxb6606384a
