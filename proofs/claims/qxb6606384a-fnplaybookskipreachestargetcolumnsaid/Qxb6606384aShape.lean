import Derived.Test.Qxb6606384aSmall
namespace Go.Proofs.Qxb6606384a
open Go.RowKit
set_option linter.unusedVariables false

set_option maxHeartbeats 800000 in
theorem shape_any (s : ByteArray) (p a c : Int) (w : World) (hs : s.size ≤ 1048576) (h1 : a ≤ 536870912) :
    Calls Try.prog 13 #[.string s, .int .i64 p, .int .i64 a, .int .i64 c] w (Guard w (∃ n : Nat, p = n ∧ Shape s n a c)) := by
  by_cases p0 : p < 0
  · go_enter Try.func13, Try.ntmps13
    go_wp2
    go_ret
    exact guard_no
  have g1 : decide (p < 0) = false := decide_eq_false p0
  by_cases p1 : (s.size : Int) < p
  · clear p0
    go_enter Try.func13, Try.ntmps13
    go_wp2
    go_ret
    exact guard_no
  have g2 : decide ((s.size : Int) < p) = false := decide_eq_false p1
  obtain ⟨n, rfl⟩ : ∃ n : Nat, p = n := ⟨p.toNat, by omega⟩
  have hn : n ≤ s.size := by omega
  clear p0 p1
  by_cases a0 : a < 0
  · go_enter Try.func13, Try.ntmps13
    go_wp2
    go_ret
    exact guard_no
  have g3 : decide (a < 0) = false := decide_eq_false a0
  have h0 : 0 ≤ a := by omega
  clear a0
  by_cases e : c = a
  · subst e
    go_enter Try.func13, Try.ntmps13
    go_wp2
    go_ret
    exact guard_yes ⟨n, rfl, hn, h0, .inl rfl⟩
  have g4 : (c == a) = false := by simpa using e
  by_cases hc : a < c
  case neg =>
    have g5 : decide (a < c) = false := decide_eq_false hc
    clear e hc
    go_enter Try.func13, Try.ntmps13
    go_wp2
    go_ret
    exact guard_no
  clear e
  by_cases hlt : n < s.size
  case neg =>
    have g6 : decide ((n : Int) < (s.size : Int)) = false := decide_eq_false (by omega)
    have g6n : decide (n < s.size) = false := decide_eq_false hlt
    have g6' : (s.size : Int) ≤ (n : Int) := by omega
    clear hlt
    go_enter Try.func13, Try.ntmps13
    go_wp2
    go_ret
    exact guard_no
  have g6 : (n : Int) < (s.size : Int) := by omega
  by_cases hb : byteAt s n = 9
  case neg =>
    have g7 : (((s[n]'hlt).toNat : Int) == 9) = false := by rw [← byteAt_eq]; simpa using hb
    clear hb
    go_enter Try.func13, Try.ntmps13
    go_wp2
    go_ret
    exact guard_no
  have g7 : (((s[n]'hlt).toNat : Int) == 9) = true := by rw [← byteAt_eq]; simpa using hb
  have HB : Hid _ := hb
  clear hb
  by_cases hst : c < stopF a
  · go_enter Try.func13, Try.ntmps13
    go_wp2_with (go_at_call 19; refine (stop_any _ _ h0 (by omega)).mono ?_; rintro e w' ⟨rfl, rfl⟩)
    go_ret
    exact guard_yes ⟨n, rfl, hn, h0, .inr ⟨hc, hlt, HB.out, hst⟩⟩
  · have g8 : decide (c < stopF a) = false := decide_eq_false hst
    clear hst
    go_enter Try.func13, Try.ntmps13
    go_wp2_with (go_at_call 19; refine (stop_any _ _ h0 (by omega)).mono ?_; rintro e w' ⟨rfl, rfl⟩)
    go_ret
    exact guard_no

set_option maxHeartbeats 400000 in
theorem formed_any (s : ByteArray) (p a c : Int) (w : World) (hs : s.size ≤ 1048576) :
    Calls Try.prog 7 #[.string s, .int .i64 p, .int .i64 a, .int .i64 c] w (Guard w (a ≤ 536870912 ∧ ∃ n : Nat, p = n ∧ Shape s n a c)) := by
  by_cases h1 : a ≤ 536870912
  · have K : Hid _ := shape_any s p a c w hs h1
    go_enter Try.func7, Try.ntmps7
    go_wp2_with fail
    refine Calls.mono K.out ?_
    rintro e w' ⟨β, rfl, rfl, hP⟩
    have KP : Hid _ := hP
    clear hP
    cases β
    · go_wp2
      go_ret
      exact guard_no
    · go_wp2
      go_ret
      exact guard_yes ⟨h1, KP.out trivial⟩
  · have g : decide (a ≤ 536870912) = false := decide_eq_false h1
    clear h1
    go_enter Try.func7, Try.ntmps7
    go_wp2
    go_ret
    exact guard_no

set_option maxHeartbeats 400000 in
theorem size_ok6 (s : ByteArray) (a1 a2 a3 a4 a5 a6 : Int) (w : World) (h : s.size ≤ 1048576) : Calls Try.prog 6 #[.string s, .int .i64 a1, .int .i64 a2, .int .i64 a3, .int .i64 a4, .int .i64 a5, .int .i64 a6] w fun e w' => e = .returned (.bool true) ∧ w = w' := by
  have h1 : decide ((1048576 : Int) < (s.size : Int)) = false := decide_eq_false (by omega)
  have h2 : (s.size : Int) ≤ 1048576 := by omega
  go_enter Try.func6, Try.ntmps6
  go_wp2
  go_ret
  exact ⟨rfl, rfl⟩

set_option maxHeartbeats 400000 in
theorem size_no6 (s : ByteArray) (a1 a2 a3 a4 a5 a6 : Int) (w : World) (h : 1048576 < s.size) : Calls Try.prog 6 #[.string s, .int .i64 a1, .int .i64 a2, .int .i64 a3, .int .i64 a4, .int .i64 a5, .int .i64 a6] w fun e w' => e = .returned (.bool false) ∧ w = w' := by
  have h1 : (1048576 : Int) < (s.size : Int) := by omega
  go_enter Try.func6, Try.ntmps6
  go_wp2
  go_ret
  exact ⟨rfl, rfl⟩

set_option maxHeartbeats 400000 in
theorem size_ok11 (s : ByteArray) (a1 a2 a3 a4 a5 a6 : Int) (w : World) (h : s.size ≤ 1048576) : Calls Try.prog 11 #[.string s, .int .i64 a1, .int .i64 a2, .int .i64 a3, .int .i64 a4, .int .i64 a5, .int .i64 a6] w fun e w' => e = .returned (.bool true) ∧ w = w' := by
  have h1 : decide ((1048576 : Int) < (s.size : Int)) = false := decide_eq_false (by omega)
  have h2 : (s.size : Int) ≤ 1048576 := by omega
  go_enter Try.func11, Try.ntmps11
  go_wp2
  go_ret
  exact ⟨rfl, rfl⟩

set_option maxHeartbeats 400000 in
theorem size_no11 (s : ByteArray) (a1 a2 a3 a4 a5 a6 : Int) (w : World) (h : 1048576 < s.size) : Calls Try.prog 11 #[.string s, .int .i64 a1, .int .i64 a2, .int .i64 a3, .int .i64 a4, .int .i64 a5, .int .i64 a6] w fun e w' => e = .returned (.bool false) ∧ w = w' := by
  have h1 : (1048576 : Int) < (s.size : Int) := by omega
  go_enter Try.func11, Try.ntmps11
  go_wp2
  go_ret
  exact ⟨rfl, rfl⟩

end Go.Proofs.Qxb6606384a
