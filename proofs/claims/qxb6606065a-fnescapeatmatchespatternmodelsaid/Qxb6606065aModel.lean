import Derived.Test.Qxb6606065aClone
import Derived.Deep.QuietTactic
import Derived.BigQuiet
namespace Go.Proofs.Qxb6606065a
open Go.RowKit

def hexF (c : Int) : Int :=
  if 48 ≤ c ∧ c ≤ 57 then c - 48 else if 97 ≤ c ∧ c ≤ 102 then c - 97 + 10 else if 65 ≤ c ∧ c ≤ 70 then c - 65 + 10 else -1

def unitF (c0 c1 : Int) : Int :=
  if hexF c0 < 0 ∨ hexF c1 < 0 then 0
  else if 216 ≤ hexF c0 * 16 + hexF c1 ∧ hexF c0 * 16 + hexF c1 ≤ 219 then 1
  else if 220 ≤ hexF c0 * 16 + hexF c1 ∧ hexF c0 * 16 + hexF c1 ≤ 223 then 2 else 0

theorem hexF_bd (c : Int) : -1 ≤ hexF c ∧ hexF c ≤ 15 := by
  unfold hexF
  split
  · omega
  · split
    · omega
    · split <;> omega

theorem hexF_13 (c : Int) : hexF c = 13 ↔ c = 100 ∨ c = 68 := by
  unfold hexF
  split
  · omega
  · split
    · omega
    · split <;> omega

theorem hexF_1 (c : Int) : (8 ≤ hexF c ∧ hexF c ≤ 11) ↔ (c = 56 ∨ c = 57 ∨ c = 97 ∨ c = 98 ∨ c = 65 ∨ c = 66) := by
  unfold hexF
  split
  · omega
  · split
    · omega
    · split <;> omega

theorem hexF_2 (c : Int) : (12 ≤ hexF c) ↔ (c = 99 ∨ c = 100 ∨ c = 101 ∨ c = 102 ∨ c = 67 ∨ c = 68 ∨ c = 69 ∨ c = 70) := by
  unfold hexF
  split
  · omega
  · split
    · omega
    · split <;> omega

theorem unitF_eq (c0 c1 : Int) : unitF c0 c1 = if c0 = 100 ∨ c0 = 68 then half2 c1 else 0 := by
  have b0 := hexF_bd c0
  have b1 := hexF_bd c1
  have e0 := hexF_13 c0
  have e1 := hexF_1 c1
  have e2 := hexF_2 c1
  unfold unitF
  by_cases h : c0 = 100 ∨ c0 = 68
  · have h13 := e0.2 h
    rw [if_pos h, h13]
    unfold half2
    by_cases g1 : c1 = 56 ∨ c1 = 57 ∨ c1 = 97 ∨ c1 = 98 ∨ c1 = 65 ∨ c1 = 66
    · have := e1.2 g1
      rw [if_pos g1, if_neg (by omega), if_pos (by omega)]
    · rw [if_neg g1]
      by_cases g2 : c1 = 99 ∨ c1 = 100 ∨ c1 = 101 ∨ c1 = 102 ∨ c1 = 67 ∨ c1 = 68 ∨ c1 = 69 ∨ c1 = 70
      · have := e2.2 g2
        rw [if_pos g2, if_neg (by omega), if_neg (by omega), if_pos (by omega)]
      · rw [if_neg g2]
        have n1 : ¬ (8 ≤ hexF c1 ∧ hexF c1 ≤ 11) := fun h => g1 (e1.1 h)
        have n2 : ¬ 12 ≤ hexF c1 := fun h => g2 (e2.1 h)
        by_cases hn : hexF c1 < 0
        · rw [if_pos (.inr hn)]
        · rw [if_neg (by omega), if_neg (by omega), if_neg (by omega)]
  · have h13 : hexF c0 ≠ 13 := fun g => h (e0.1 g)
    rw [if_neg h]
    by_cases hn : hexF c0 < 0 ∨ hexF c1 < 0
    · rw [if_pos hn]
    · rw [if_neg hn, if_neg (by omega), if_neg (by omega)]

set_option maxHeartbeats 400000 in
theorem hex_any (c : Int) (w : World) : Calls Try.prog 20 #[.int .u8 c] w fun e w' => e = .returned (.int .i64 (hexF c)) ∧ w = w' := by
  unfold hexF
  by_cases h1 : 48 ≤ c ∧ c ≤ 57
  · rw [if_pos h1]
    obtain ⟨a, b⟩ := h1
    go_enter Try.func20, Try.ntmps20
    go_wp2
    go_ret
    exact ⟨rfl, rfl⟩
  rw [if_neg h1]
  by_cases h2 : 97 ≤ c ∧ c ≤ 102
  · rw [if_pos h2]
    obtain ⟨a, b⟩ := h2
    have b1 : ¬ c ≤ 57 := by omega
    clear h1
    go_enter Try.func20, Try.ntmps20
    go_wp2
    go_ret
    exact ⟨rfl, rfl⟩
  rw [if_neg h2]
  by_cases h3 : 65 ≤ c ∧ c ≤ 70
  · rw [if_pos h3]
    obtain ⟨a, b⟩ := h3
    have b1 : ¬ c ≤ 57 := by omega
    have b2 : ¬ 97 ≤ c := by omega
    clear h1 h2
    go_enter Try.func20, Try.ntmps20
    go_wp2
    go_ret
    exact ⟨rfl, rfl⟩
  rw [if_neg h3]
  rcases (show c < 48 ∨ (57 < c ∧ c < 65) ∨ (70 < c ∧ c < 97) ∨ 102 < c by omega) with h | ⟨h, h'⟩ | ⟨h, h'⟩ | h
  all_goals
    clear h1 h2 h3
    go_enter Try.func20, Try.ntmps20
    go_wp2
    go_ret
    exact ⟨rfl, rfl⟩

set_option maxHeartbeats 800000 in
theorem unit_any (c0 c1 : Int) (w : World) : Calls Try.prog 17 #[.int .u8 c0, .int .u8 c1] w fun e w' => e = .returned (.int .i64 (unitF c0 c1)) ∧ w = w' := by
  obtain ⟨h0, e0⟩ : ∃ h, h = hexF c0 := ⟨_, rfl⟩
  obtain ⟨h1, e1⟩ : ∃ h, h = hexF c1 := ⟨_, rfl⟩
  have b0 := hexF_bd c0
  have b1 := hexF_bd c1
  have C0 : Hid (Calls Try.prog 20 #[.int .u8 c0] w fun e w' => e = .returned (.int .i64 h0) ∧ w = w') := by rw [e0]; exact hex_any c0 w
  have C1 : Hid (Calls Try.prog 20 #[.int .u8 c1] w fun e w' => e = .returned (.int .i64 h1) ∧ w = w') := by rw [e1]; exact hex_any c1 w
  unfold unitF
  rw [← e0] at b0 ⊢
  rw [← e1] at b1 ⊢
  obtain ⟨b01, b02⟩ := b0
  obtain ⟨b11, b12⟩ := b1
  clear e0 e1
  by_cases g0 : h0 < 0
  · rw [if_pos (.inl g0)]
    go_enter Try.func17, Try.ntmps17
    go_wp2_with fail
    refine Calls.mono C0.out ?_
    rintro e w' ⟨rfl, rfl⟩
    go_wp2_with fail
    refine Calls.mono C1.out ?_
    rintro e w' ⟨rfl, rfl⟩
    go_wp2
    go_ret
    exact ⟨rfl, rfl⟩
  by_cases g1 : h1 < 0
  · rw [if_pos (.inr g1)]
    go_enter Try.func17, Try.ntmps17
    go_wp2_with fail
    refine Calls.mono C0.out ?_
    rintro e w' ⟨rfl, rfl⟩
    go_wp2_with fail
    refine Calls.mono C1.out ?_
    rintro e w' ⟨rfl, rfl⟩
    go_wp2
    go_ret
    exact ⟨rfl, rfl⟩
  rw [if_neg (by omega)]
  by_cases g2 : 216 ≤ h0 * 16 + h1 ∧ h0 * 16 + h1 ≤ 219
  · rw [if_pos g2]
    obtain ⟨ga, gb⟩ := g2
    go_enter Try.func17, Try.ntmps17
    go_wp2_with fail
    refine Calls.mono C0.out ?_
    rintro e w' ⟨rfl, rfl⟩
    go_wp2_with fail
    refine Calls.mono C1.out ?_
    rintro e w' ⟨rfl, rfl⟩
    go_wp2
    go_ret
    exact ⟨rfl, rfl⟩
  rw [if_neg g2]
  by_cases g3 : 220 ≤ h0 * 16 + h1 ∧ h0 * 16 + h1 ≤ 223
  · rw [if_pos g3]
    obtain ⟨ga, gb⟩ := g3
    clear g2
    go_enter Try.func17, Try.ntmps17
    go_wp2_with fail
    refine Calls.mono C0.out ?_
    rintro e w' ⟨rfl, rfl⟩
    go_wp2_with fail
    refine Calls.mono C1.out ?_
    rintro e w' ⟨rfl, rfl⟩
    go_wp2
    go_ret
    exact ⟨rfl, rfl⟩
  rw [if_neg g3]
  rcases (show h0 * 16 + h1 < 216 ∨ 223 < h0 * 16 + h1 by omega) with ga | ga
  all_goals
    clear g2 g3
    go_enter Try.func17, Try.ntmps17
    go_wp2_with fail
    refine Calls.mono C0.out ?_
    rintro e w' ⟨rfl, rfl⟩
    go_wp2_with fail
    refine Calls.mono C1.out ?_
    rintro e w' ⟨rfl, rfl⟩
    go_wp2
    go_ret
    exact ⟨rfl, rfl⟩

end Go.Proofs.Qxb6606065a
