import Derived.Test.Qxb6606065aRows
import Derived.WalkKit
import Derived.WalkSpells
import Derived.WalkLawsBesides
namespace Go.Proofs.Qxb6606065a
open Go.RowKit

/-- The half of a surrogate pair that two hex digits tell. -/
def half2 (c1 : Int) : Int :=
  if c1 = 56 ∨ c1 = 57 ∨ c1 = 97 ∨ c1 = 98 ∨ c1 = 65 ∨ c1 = 66 then 1
  else if c1 = 99 ∨ c1 = 100 ∨ c1 = 101 ∨ c1 = 102 ∨ c1 = 67 ∨ c1 = 68 ∨ c1 = 69 ∨ c1 = 70 then 2 else 0

theorem ret_int {k : IntKind} {a b : Int} (h : a = b) : Ending.returned (.int k a) = .returned (.int k b) := by rw [h]

set_option maxHeartbeats 400000 in
theorem half_nil (a : Option Addr) (cap : Nat) (w : World) :
    Calls Try.prog 19 #[.slice a 0 cap] w fun e w' => e = .returned (.int .i64 3) ∧ w = w' := by
  go_enter Try.func19, Try.ntmps19
  go_wp2
  go_ret
  exact ⟨rfl, rfl⟩

set_option maxHeartbeats 400000 in
theorem half_not (b off n cap : Nat) (c0 : Int) (w : World) (hn : 1 ≤ n) (h0 : w.cell? ⟨b, off, none⟩ = some (.int .u8 c0)) (hc : ¬ (c0 = 100 ∨ c0 = 68)) :
    Calls Try.prog 19 #[.slice (some ⟨b, off, none⟩) n cap] w fun e w' => e = .returned (.int .i64 0) ∧ w = w' := by
  have hl : ¬ (n : Int) < 1 := by omega
  have hl0 : (0 : Int) < (n : Int) := by omega
  have g1 : (c0 != 100) = true := by simp; omega
  have g2 : (c0 != 68) = true := by simp; omega
  clear hc
  go_enter Try.func19, Try.ntmps19
  go_wp2
  go_ret
  exact ⟨rfl, rfl⟩

set_option maxHeartbeats 400000 in
theorem half_one (b off cap : Nat) (c0 : Int) (w : World) (h0 : w.cell? ⟨b, off, none⟩ = some (.int .u8 c0)) (hc : c0 = 100 ∨ c0 = 68) :
    Calls Try.prog 19 #[.slice (some ⟨b, off, none⟩) 1 cap] w fun e w' => e = .returned (.int .i64 3) ∧ w = w' := by
  rcases hc with rfl | rfl
  all_goals
    go_enter Try.func19, Try.ntmps19
    go_wp2
    go_ret
    exact ⟨rfl, rfl⟩

set_option maxHeartbeats 400000 in
theorem half_two (b off n cap : Nat) (c0 c1 : Int) (w : World) (hn : 2 ≤ n) (h0 : w.cell? ⟨b, off, none⟩ = some (.int .u8 c0)) (h1 : w.cell? ⟨b, off + 1, none⟩ = some (.int .u8 c1)) (hc : c0 = 100 ∨ c0 = 68) :
    Calls Try.prog 19 #[.slice (some ⟨b, off, none⟩) n cap] w fun e w' => e = .returned (.int .i64 (half2 c1)) ∧ w = w' := by
  have hl : ¬ (n : Int) < 1 := by omega
  have hl0 : (0 : Int) < (n : Int) := by omega
  have hl1 : (1 : Int) < (n : Int) := by omega
  have hl2 : ¬ (n : Int) < 2 := by omega
  rcases hc with rfl | rfl
  all_goals
    go_enter Try.func19, Try.ntmps19
    go_wp2
    all_goals
      go_ret
      exact ⟨ret_int (by simp_all [half2]), rfl⟩

end Go.Proofs.Qxb6606065a
