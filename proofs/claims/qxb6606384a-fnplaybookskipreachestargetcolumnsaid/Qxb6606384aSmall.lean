import Derived.Test.Qxb6606384aPlain
namespace Go.Proofs.Qxb6606384a
set_option linter.unusedVariables false
open Go.RowKit

theorem byteAt_eq (s : ByteArray) (p : Nat) (h : p < s.size) : byteAt s p = ((s[p]'h).toNat : Int) := dif_pos h

set_option maxHeartbeats 400000 in
theorem stop_any (x : Int) (w : World) (h0 : 0 ≤ x) (h1 : x ≤ 1073741824) : Calls Try.prog 19 #[.int .i64 x] w fun e w' => e = .returned (.int .i64 (stopF x)) ∧ w = w' := by
  go_enter Try.func19, Try.ntmps19
  go_wp2
  go_ret
  exact ⟨rfl, rfl⟩

set_option maxHeartbeats 400000 in
theorem step_any (x b : Int) (w : World) (h0 : 0 ≤ x) (h1 : x ≤ 1073741824) : Calls Try.prog 17 #[.int .i64 x, .int .u8 b] w fun e w' => e = .returned (.int .i64 (stepF x b)) ∧ w = w' := by
  unfold stepF
  by_cases hb : b = 9
  · rw [if_pos hb]
    have g : (b == 9) = true := by simpa using hb
    clear hb
    go_enter Try.func17, Try.ntmps17
    go_wp2_with (go_at_call 19; refine (stop_any _ _ h0 h1).mono ?_; rintro e w' ⟨rfl, rfl⟩)
    go_ret
    exact ⟨rfl, rfl⟩
  · rw [if_neg hb]
    have g : (b == 9) = false := by simpa using hb
    clear hb
    go_enter Try.func17, Try.ntmps17
    go_wp2
    go_ret
    exact ⟨rfl, rfl⟩

set_option maxHeartbeats 400000 in
theorem blank_any (b : Int) (w : World) : Calls Try.prog 16 #[.int .u8 b] w fun e w' => e = .returned (.bool (blankB b)) ∧ w = w' := by
  unfold blankB
  cases h : (b == 32)
  · go_enter Try.func16, Try.ntmps16
    go_wp2
    go_ret
    exact ⟨rfl, rfl⟩
  · go_enter Try.func16, Try.ntmps16
    go_wp2
    go_ret
    exact ⟨rfl, rfl⟩

/-- A guard has answered: a bool, the world as it was; true only where P holds. -/
def Guard (w : World) (P : Prop) (e : Ending) (w' : World) : Prop := ∃ β, e = .returned (.bool β) ∧ w = w' ∧ (β = true → P)

theorem guard_no {w : World} {P : Prop} : Guard w P (.returned (.bool false)) w := ⟨false, rfl, rfl, fun h => by cases h⟩
theorem guard_yes {w : World} {P : Prop} (h : P) : Guard w P (.returned (.bool true)) w := ⟨true, rfl, rfl, fun _ => h⟩

/-- zzShape, asked of a cursor of that shape. -/
theorem shape_same (s : ByteArray) (p : Nat) (a : Int) (w : World) (hp : p ≤ s.size) (h0 : 0 ≤ a) :
    Calls Try.prog 13 #[.string s, .int .i64 p, .int .i64 a, .int .i64 a] w fun e w' => e = .returned (.bool true) ∧ w = w' := by
  have g1 : decide ((p : Int) < 0) = false := decide_eq_false (by omega)
  have g2 : decide ((s.size : Int) < (p : Int)) = false := decide_eq_false (by omega)
  have g3 : decide (a < 0) = false := decide_eq_false (by omega)
  go_enter Try.func13, Try.ntmps13
  go_wp2
  go_ret
  exact ⟨rfl, rfl⟩

set_option maxHeartbeats 400000 in
theorem shape_tab (s : ByteArray) (p : Nat) (a c : Int) (w : World) (hp : p < s.size) (h0 : 0 ≤ a) (h1 : a ≤ 1073741824) (hc : a < c) (hb : byteAt s p = 9) (hs : c < stopF a) :
    Calls Try.prog 13 #[.string s, .int .i64 p, .int .i64 a, .int .i64 c] w fun e w' => e = .returned (.bool true) ∧ w = w' := by
  have g1 : decide ((p : Int) < 0) = false := decide_eq_false (by omega)
  have g2 : decide ((s.size : Int) < (p : Int)) = false := decide_eq_false (by omega)
  have g2' : (p : Int) < (s.size : Int) := by omega
  have g3 : decide (a < 0) = false := decide_eq_false (by omega)
  have g4 : (c == a) = false := by simp; omega
  have g5 : (((s[p]'hp).toNat : Int) == 9) = true := by rw [← byteAt_eq]; simpa using hb
  clear hb
  go_enter Try.func13, Try.ntmps13
  go_wp2_with (go_at_call 19; refine (stop_any _ _ h0 h1).mono ?_; rintro e w' ⟨rfl, rfl⟩)
  go_ret
  exact ⟨rfl, rfl⟩

theorem shape_true (s : ByteArray) (p : Nat) (a c : Int) (w : World) (h : Shape s p a c) (h1 : a ≤ 1073741824) :
    Calls Try.prog 13 #[.string s, .int .i64 p, .int .i64 a, .int .i64 c] w fun e w' => e = .returned (.bool true) ∧ w = w' := by
  obtain ⟨hp, h0, rfl | ⟨hc, hlt, hb, hs⟩⟩ := h
  · exact shape_same s p c w hp h0
  · exact shape_tab s p a c w hlt h0 h1 hc hb hs

end Go.Proofs.Qxb6606384a
