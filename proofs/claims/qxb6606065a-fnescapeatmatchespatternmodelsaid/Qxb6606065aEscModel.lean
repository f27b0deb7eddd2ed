import Derived.Test.Qxb6606065aHalfModel
namespace Go.Proofs.Qxb6606065a
open Go.RowKit

/-- Whether byte c may stand at place i of a low surrogate's escape. -/
def fitsF (i : Nat) (c : Int) : Bool :=
  if i = 0 then c == 92 else if i = 1 then c == 117 else if i = 2 then hexF c == 13 else decide (12 ≤ hexF c)

/-- The first place below m at which a byte does not fit, if there is one. -/
def allFit (zs : List Int) (m : Nat) : Prop := ∀ j, j < m → fitsF j (zs.getD (6 + j) 0) = true

theorem fits3 (c : Int) : fitsF 3 c = decide (12 ≤ hexF c) := rfl

theorem half2_two (c : Int) : half2 c = 2 ↔ 12 ≤ hexF c := by
  rw [hexF_2]
  unfold half2
  by_cases g1 : c = 56 ∨ c = 57 ∨ c = 97 ∨ c = 98 ∨ c = 65 ∨ c = 66
  · rw [if_pos g1]
    constructor
    · intro h; omega
    · intro h; omega
  · rw [if_neg g1]
    by_cases g2 : c = 99 ∨ c = 100 ∨ c = 101 ∨ c = 102 ∨ c = 67 ∨ c = 68 ∨ c = 69 ∨ c = 70
    · rw [if_pos g2]; simp [g2]
    · rw [if_neg g2]; simp [g2]

/-- THE PLAIN LAW: behind a high half 'escF' answers as the pattern says. -/
theorem esc_pattern (zs : List Int) (h6 : 6 ≤ zs.length) (hu : zs.getD 1 0 = 117) (hh : halfF ((zs.drop 2).take 4) = 1) :
    (allFit zs (min (zs.length - 6) 4) → escF zs = if zs.length < 12 then (0, false) else (12, false)) ∧
    (∀ k, k < min (zs.length - 6) 4 → fitsF k (zs.getD (6 + k) 0) = false → allFit zs k → escF zs = (6, true)) := by
  have eF : escF zs = if (6 < zs.length ∧ zs.getD 6 0 ≠ 92) ∨ (7 < zs.length ∧ zs.getD 7 0 ≠ 117) then (6, true)
      else escR (decide (zs.length < 12)) (halfF ((zs.drop 8).take 4)) := by
    unfold escF
    rw [if_neg (by omega), if_neg (by simpa using hu), if_neg (by omega), hh, if_neg (by decide), if_neg (by decide)]
  have f0 : ∀ c, fitsF 0 c = true ↔ c = 92 := fun c => by simp [fitsF]
  have f1 : ∀ c, fitsF 1 c = true ↔ c = 117 := fun c => by simp [fitsF]
  have f2 : ∀ c, fitsF 2 c = true ↔ hexF c = 13 := fun c => by simp [fitsF]
  have f3 : ∀ c, fitsF 3 c = true ↔ 12 ≤ hexF c := fun c => by simp [fitsF]
  -- the digits of the next escape
  have d0 : zs.length ≤ 8 → (zs.drop 8).take 4 = [] := fun h => List.eq_nil_of_length_eq_zero (by simp; omega)
  have d1 : zs.length = 9 → (zs.drop 8).take 4 = [zs.getD 8 0] := by
    intro h
    apply List.ext_getElem?
    intro i
    match i with
    | 0 => simp [List.getD, List.getElem?_eq_getElem (show 8 < zs.length by omega)]
    | i + 1 => simp [List.getElem?_take]; omega
  have d2 : 10 ≤ zs.length → ∃ r, (zs.drop 8).take 4 = zs.getD 8 0 :: zs.getD 9 0 :: r := by
    intro h
    refine ⟨((zs.drop 8).take 4).drop 2, ?_⟩
    apply List.ext_getElem?
    intro i
    match i with
    | 0 => simp [List.getD, List.getElem?_eq_getElem (show 8 < zs.length by omega)]
    | 1 => simp [List.getD, List.getElem?_eq_getElem (show 9 < zs.length by omega)]
    | i + 2 => simp [List.getElem?_drop, Nat.add_comm]
  rw [eF]
  constructor
  · intro hall
    rw [if_neg]
    case hnc =>
      rintro (⟨a, b⟩ | ⟨a, b⟩)
      · exact b ((f0 _).1 (hall 0 (by omega)))
      · exact b ((f1 _).1 (hall 1 (by omega)))
    by_cases n8 : zs.length ≤ 8
    · rw [d0 n8, if_pos (by omega)]; rfl
    by_cases n9 : zs.length = 9
    · have h13 := (f2 _).1 (hall 2 (by omega))
      have hd := (hexF_13 _).1 h13
      rw [d1 n9, if_pos (by omega)]
      simp only [halfF]
      rw [if_pos hd]; rfl
    · obtain ⟨r, hr⟩ := d2 (by omega)
      have h13 := (f2 _).1 (hall 2 (by omega))
      have hd := (hexF_13 _).1 h13
      have h12 := (f3 _).1 (hall 3 (by omega))
      have h2 := (half2_two _).2 h12
      rw [hr]
      simp only [halfF]
      rw [if_pos hd, h2]
      by_cases n12 : zs.length < 12
      · rw [if_pos n12, decide_eq_true n12]; rfl
      · rw [if_neg n12, decide_eq_false n12]; rfl
  · intro k hk hf hall
    match k, hk, hf, hall with
    | 0, hk, hf, hall =>
      rw [if_pos (.inl ⟨by omega, fun h => by rw [(f0 _).2 h] at hf; simp at hf⟩)]
    | 1, hk, hf, hall =>
      rw [if_pos (.inr ⟨by omega, fun h => by rw [(f1 _).2 h] at hf; simp at hf⟩)]
    | 2, hk, hf, hall =>
      have e6 := (f0 _).1 (hall 0 (by omega))
      have e7 := (f1 _).1 (hall 1 (by omega))
      simp only [Nat.add_zero, Nat.reduceAdd] at e6 e7 hf
      have hn : ¬ hexF (zs.getD 8 0) = 13 := fun h => by rw [(f2 _).2 h] at hf; simp at hf
      have hd : ¬ (zs.getD 8 0 = 100 ∨ zs.getD 8 0 = 68) := fun h => hn ((hexF_13 _).2 h)
      rw [if_neg (by rintro (⟨_, b⟩ | ⟨_, b⟩); exact b e6; exact b e7)]
      by_cases n9 : zs.length = 9
      · rw [d1 n9]; simp only [halfF]; rw [if_neg hd]; rfl
      · obtain ⟨r, hr⟩ := d2 (by omega)
        rw [hr]; simp only [halfF]; rw [if_neg hd]; rfl
    | 3, hk, hf, hall =>
      have e6 := (f0 _).1 (hall 0 (by omega))
      have e7 := (f1 _).1 (hall 1 (by omega))
      have e8 := (f2 _).1 (hall 2 (by omega))
      simp only [Nat.add_zero, Nat.reduceAdd] at e6 e7 e8 hf
      have hn : ¬ 12 ≤ hexF (zs.getD 9 0) := fun h => by rw [(f3 _).2 h] at hf; simp at hf
      have h2 : half2 (zs.getD 9 0) ≠ 2 := fun h => hn ((half2_two _).1 h)
      have h3 := half2_cases (zs.getD 9 0)
      have hd := (hexF_13 _).1 e8
      rw [if_neg (by rintro (⟨_, b⟩ | ⟨_, b⟩); exact b e6; exact b e7)]
      obtain ⟨r, hr⟩ := d2 (by omega)
      rw [hr]; simp only [halfF]; rw [if_pos hd]
      unfold escR
      rw [if_neg (by omega), if_neg h2]
    | k + 4, hk, _, _ => omega

end Go.Proofs.Qxb6606065a
