import Derived.Test.Qxb6606065aHalf
namespace Go.Proofs.Qxb6606065a
open Go.RowKit

def halfF : List Int → Int
  | [] => 3
  | [c0] => if c0 = 100 ∨ c0 = 68 then 3 else 0
  | c0 :: c1 :: _ => if c0 = 100 ∨ c0 = 68 then half2 c1 else 0

/-- The slice at 'a' reads as 'zs'. -/
def Reads (w : World) (a : Option Addr) (zs : List Int) : Prop :=
  zs = [] ∨ ∃ b off, a = some ⟨b, off, none⟩ ∧ ∀ i, i < zs.length → w.cell? ⟨b, off + i, none⟩ = some (.int .u8 (zs.getD i 0))

theorem half_any (a : Option Addr) (n cap : Nat) (zs : List Int) (w : World) (hn : n = zs.length) (h : Reads w a zs) :
    Calls Try.prog 19 #[.slice a n cap] w fun e w' => e = .returned (.int .i64 (halfF zs)) ∧ w = w' := by
  subst hn
  match zs, h with
  | [], _ => exact half_nil a cap w
  | [c0], h =>
    rcases h with h | ⟨b, off, rfl, hc⟩
    · simp at h
    have h0 : w.cell? ⟨b, off, none⟩ = some (.int .u8 c0) := by simpa using hc 0 (by simp)
    by_cases hd : c0 = 100 ∨ c0 = 68
    · simp only [halfF, if_pos hd]; exact half_one b off cap c0 w h0 hd
    · simp only [halfF, if_neg hd]; exact half_not b off _ cap c0 w (by simp) h0 hd
  | c0 :: c1 :: r, h =>
    rcases h with h | ⟨b, off, rfl, hc⟩
    · simp at h
    have h0 : w.cell? ⟨b, off, none⟩ = some (.int .u8 c0) := by simpa using hc 0 (by simp)
    have h1 : w.cell? ⟨b, off + 1, none⟩ = some (.int .u8 c1) := by simpa using hc 1 (by simp)
    by_cases hd : c0 = 100 ∨ c0 = 68
    · simp only [halfF, if_pos hd]; exact half_two b off _ cap c0 c1 w (by simp) h0 h1 hd
    · simp only [halfF, if_neg hd]; exact half_not b off _ cap c0 w (by simp) h0 hd

set_option maxHeartbeats 400000 in
theorem esc_short (a : Option Addr) (n cap : Nat) (w : World) (hn : n < 2) :
    Calls Try.prog 16 #[.slice a n cap] w fun e w' => e = .returned (.tuple #[.int .i64 0, .bool false]) ∧ w = w' := by
  have hl : (n : Int) < 2 := by omega
  go_enter Try.func16, Try.ntmps16
  go_wp2
  go_ret2
  exact ⟨rfl, rfl⟩

set_option maxHeartbeats 400000 in
theorem esc_plain (b off n cap : Nat) (c1 : Int) (w : World) (hn : 2 ≤ n) (h1 : w.cell? ⟨b, off + 1, none⟩ = some (.int .u8 c1)) (hc : c1 ≠ 117) :
    Calls Try.prog 16 #[.slice (some ⟨b, off, none⟩) n cap] w fun e w' => e = .returned (.tuple #[.int .i64 2, .bool false]) ∧ w = w' := by
  have hl : ¬ (n : Int) < 2 := by omega
  have hl1 : (1 : Int) < (n : Int) := by omega
  have g1 : (c1 != 117) = true := by simpa using hc
  clear hc
  go_enter Try.func16, Try.ntmps16
  go_wp2
  go_ret2
  exact ⟨rfl, rfl⟩

set_option maxHeartbeats 400000 in
theorem esc_soon (b off n cap : Nat) (w : World) (hn : 2 ≤ n) (hn6 : n < 6) (h1 : w.cell? ⟨b, off + 1, none⟩ = some (.int .u8 117)) :
    Calls Try.prog 16 #[.slice (some ⟨b, off, none⟩) n cap] w fun e w' => e = .returned (.tuple #[.int .i64 0, .bool false]) ∧ w = w' := by
  have hl : ¬ (n : Int) < 2 := by omega
  have hl1 : (1 : Int) < (n : Int) := by omega
  have hl6 : (n : Int) < 6 := by omega
  go_enter Try.func16, Try.ntmps16
  go_wp2
  go_ret2
  exact ⟨rfl, rfl⟩

/-- What the first two digits are told to be. -/
def H1 (b off cap : Nat) (r : Int) (w : World) : Prop :=
  Calls Try.prog 19 #[.slice (some ⟨b, off + 2, none⟩) 4 (cap - 2)] w fun e w' => e = .returned (.int .i64 r) ∧ w = w'

set_option maxHeartbeats 400000 in
theorem esc_none (b off n cap : Nat) (w : World) (hn : 6 ≤ n) (hcap : n ≤ cap) (h1 : w.cell? ⟨b, off + 1, none⟩ = some (.int .u8 117)) (H : H1 b off cap 0 w) :
    Calls Try.prog 16 #[.slice (some ⟨b, off, none⟩) n cap] w fun e w' => e = .returned (.tuple #[.int .i64 6, .bool false]) ∧ w = w' := by
  have hl : ¬ (n : Int) < 2 := by omega
  have hl1 : (1 : Int) < (n : Int) := by omega
  have hl6 : ¬ (n : Int) < 6 := by omega
  go_enter Try.func16, Try.ntmps16
  go_wp2_with fail
  refine Calls.mono H ?_
  rintro e w' ⟨rfl, rfl⟩
  go_wp2
  go_ret2
  exact ⟨rfl, rfl⟩

set_option maxHeartbeats 400000 in
theorem esc_low (b off n cap : Nat) (w : World) (hn : 6 ≤ n) (hcap : n ≤ cap) (h1 : w.cell? ⟨b, off + 1, none⟩ = some (.int .u8 117)) (H : H1 b off cap 2 w) :
    Calls Try.prog 16 #[.slice (some ⟨b, off, none⟩) n cap] w fun e w' => e = .returned (.tuple #[.int .i64 6, .bool true]) ∧ w = w' := by
  have hl : ¬ (n : Int) < 2 := by omega
  have hl1 : (1 : Int) < (n : Int) := by omega
  have hl6 : ¬ (n : Int) < 6 := by omega
  go_enter Try.func16, Try.ntmps16
  go_wp2_with fail
  refine Calls.mono H ?_
  rintro e w' ⟨rfl, rfl⟩
  go_wp2
  go_ret2
  exact ⟨rfl, rfl⟩

set_option maxHeartbeats 400000 in
theorem esc_six (b off cap : Nat) (w : World) (hcap : 6 ≤ cap) (h1 : w.cell? ⟨b, off + 1, none⟩ = some (.int .u8 117)) (H : H1 b off cap 1 w) :
    Calls Try.prog 16 #[.slice (some ⟨b, off, none⟩) 6 cap] w fun e w' => e = .returned (.tuple #[.int .i64 0, .bool false]) ∧ w = w' := by
  go_enter Try.func16, Try.ntmps16
  go_wp2_with fail
  refine Calls.mono H ?_
  rintro e w' ⟨rfl, rfl⟩
  go_wp2_with fail
  all_goals
    refine (half_nil _ _ _).mono ?_
    rintro e w' ⟨rfl, rfl⟩
    go_wp2
    go_ret2
    exact ⟨rfl, rfl⟩

set_option maxHeartbeats 400000 in
theorem esc_lone6 (b off n cap : Nat) (c6 : Int) (w : World) (hn : 7 ≤ n) (hcap : n ≤ cap) (h1 : w.cell? ⟨b, off + 1, none⟩ = some (.int .u8 117)) (h6 : w.cell? ⟨b, off + 6, none⟩ = some (.int .u8 c6)) (hc : c6 ≠ 92) (H : H1 b off cap 1 w) :
    Calls Try.prog 16 #[.slice (some ⟨b, off, none⟩) n cap] w fun e w' => e = .returned (.tuple #[.int .i64 6, .bool true]) ∧ w = w' := by
  have hl : ¬ (n : Int) < 2 := by omega
  have hl1 : (1 : Int) < (n : Int) := by omega
  have hl6 : ¬ (n : Int) < 6 := by omega
  have hl7 : (6 : Int) < (n : Int) := by omega
  have hcc : 6 < cap := by omega
  have g1 : (c6 != 92) = true := by simpa using hc
  clear hc
  go_enter Try.func16, Try.ntmps16
  go_wp2_with fail
  refine Calls.mono H ?_
  rintro e w' ⟨rfl, rfl⟩
  go_wp2
  go_ret2
  exact ⟨rfl, rfl⟩

set_option maxHeartbeats 400000 in
theorem esc_seven (b off cap : Nat) (w : World) (hcap : 7 ≤ cap) (h1 : w.cell? ⟨b, off + 1, none⟩ = some (.int .u8 117)) (h6 : w.cell? ⟨b, off + 6, none⟩ = some (.int .u8 92)) (H : H1 b off cap 1 w) :
    Calls Try.prog 16 #[.slice (some ⟨b, off, none⟩) 7 cap] w fun e w' => e = .returned (.tuple #[.int .i64 0, .bool false]) ∧ w = w' := by
  have hcc : 6 < cap := by omega
  go_enter Try.func16, Try.ntmps16
  go_wp2_with fail
  refine Calls.mono H ?_
  rintro e w' ⟨rfl, rfl⟩
  go_wp2_with fail
  all_goals
    refine (half_nil _ _ _).mono ?_
    rintro e w' ⟨rfl, rfl⟩
    go_wp2
    go_ret2
    exact ⟨rfl, rfl⟩

set_option maxHeartbeats 400000 in
theorem esc_lone7 (b off n cap : Nat) (c7 : Int) (w : World) (hn : 8 ≤ n) (hcap : n ≤ cap) (h1 : w.cell? ⟨b, off + 1, none⟩ = some (.int .u8 117)) (h6 : w.cell? ⟨b, off + 6, none⟩ = some (.int .u8 92)) (h7 : w.cell? ⟨b, off + 6 + 1, none⟩ = some (.int .u8 c7)) (hc : c7 ≠ 117) (H : H1 b off cap 1 w) :
    Calls Try.prog 16 #[.slice (some ⟨b, off, none⟩) n cap] w fun e w' => e = .returned (.tuple #[.int .i64 6, .bool true]) ∧ w = w' := by
  have hl : ¬ (n : Int) < 2 := by omega
  have hl1 : (1 : Int) < (n : Int) := by omega
  have hl6 : ¬ (n : Int) < 6 := by omega
  have hl7 : (6 : Int) < (n : Int) := by omega
  have hcc : 6 < cap := by omega
  have g1 : (c7 != 117) = true := by simpa using hc
  clear hc
  go_enter Try.func16, Try.ntmps16
  go_wp2_with fail
  refine Calls.mono H ?_
  rintro e w' ⟨rfl, rfl⟩
  go_wp2
  go_ret2
  exact ⟨rfl, rfl⟩

set_option maxHeartbeats 400000 in
theorem esc_eight (b off cap : Nat) (w : World) (hcap : 8 ≤ cap) (h1 : w.cell? ⟨b, off + 1, none⟩ = some (.int .u8 117)) (h6 : w.cell? ⟨b, off + 6, none⟩ = some (.int .u8 92)) (h7 : w.cell? ⟨b, off + 6 + 1, none⟩ = some (.int .u8 117)) (H : H1 b off cap 1 w) :
    Calls Try.prog 16 #[.slice (some ⟨b, off, none⟩) 8 cap] w fun e w' => e = .returned (.tuple #[.int .i64 0, .bool false]) ∧ w = w' := by
  have hcc : 6 < cap := by omega
  go_enter Try.func16, Try.ntmps16
  go_wp2_with fail
  refine Calls.mono H ?_
  rintro e w' ⟨rfl, rfl⟩
  go_wp2_with fail
  all_goals
    refine (half_nil _ _ _).mono ?_
    rintro e w' ⟨rfl, rfl⟩
    go_wp2
    go_ret2
    exact ⟨rfl, rfl⟩

/-- What the next escape's first two digits are told to be. -/
def H2 (b off k cap : Nat) (r : Int) (w : World) : Prop :=
  Calls Try.prog 19 #[.slice (some ⟨b, off + 6 + 2, none⟩) k (cap - 6 - 2)] w fun e w' => e = .returned (.int .i64 r) ∧ w = w'

/-- What the answer is behind a high half, a backslash and a u, when the next half is told to be r. -/
def escR (short : Bool) (r : Int) : Int × Bool :=
  if r = 3 then (0, false) else if r = 2 then (if short then (0, false) else (12, false)) else (6, true)

set_option maxHeartbeats 1000000 in
theorem esc_mid (b off n cap : Nat) (r : Int) (w : World) (hn : n = 9 ∨ n = 10 ∨ n = 11) (hcap : n ≤ cap) (h1 : w.cell? ⟨b, off + 1, none⟩ = some (.int .u8 117)) (h6 : w.cell? ⟨b, off + 6, none⟩ = some (.int .u8 92)) (h7 : w.cell? ⟨b, off + 6 + 1, none⟩ = some (.int .u8 117)) (H : H1 b off cap 1 w) (K : H2 b off (n - 8) cap r w) :
    Calls Try.prog 16 #[.slice (some ⟨b, off, none⟩) n cap] w fun e w' => e = .returned (.tuple #[.int .i64 (escR true r).1, .bool (escR true r).2]) ∧ w = w' := by
  have hcc : 6 < cap := by omega
  have hcc : 8 < cap := by omega
  by_cases e3 : r = 3
  · subst e3
    rcases hn with rfl | rfl | rfl
    all_goals
      go_enter Try.func16, Try.ntmps16
      go_wp2_with fail
      refine Calls.mono H ?_
      rintro e w' ⟨rfl, rfl⟩
      go_wp2_with fail
      refine Calls.mono K ?_
      rintro e w' ⟨rfl, rfl⟩
      go_wp2
      go_ret2
      exact ⟨rfl, rfl⟩
  · by_cases e2 : r = 2
    · subst e2
      clear e3
      rcases hn with rfl | rfl | rfl
      all_goals
        go_enter Try.func16, Try.ntmps16
        go_wp2_with fail
        refine Calls.mono H ?_
        rintro e w' ⟨rfl, rfl⟩
        go_wp2_with fail
        refine Calls.mono K ?_
        rintro e w' ⟨rfl, rfl⟩
        go_wp2
        go_ret2
        exact ⟨rfl, rfl⟩
    · have er : escR true r = (6, true) := by simp [escR, e3, e2]
      rw [er]
      have f3 : (r == 3) = false := by simpa using e3
      have f2 : (r == 2) = false := by simpa using e2
      clear e2 e3 er
      rcases hn with rfl | rfl | rfl
      all_goals
        go_enter Try.func16, Try.ntmps16
        go_wp2_with fail
        refine Calls.mono H ?_
        rintro e w' ⟨rfl, rfl⟩
        go_wp2_with fail
        refine Calls.mono K ?_
        rintro e w' ⟨rfl, rfl⟩
        go_wp2
        go_ret2
        exact ⟨rfl, rfl⟩

set_option maxHeartbeats 1000000 in
theorem esc_long (b off n cap : Nat) (r : Int) (w : World) (hn : 12 ≤ n) (hcap : n ≤ cap) (h1 : w.cell? ⟨b, off + 1, none⟩ = some (.int .u8 117)) (h6 : w.cell? ⟨b, off + 6, none⟩ = some (.int .u8 92)) (h7 : w.cell? ⟨b, off + 6 + 1, none⟩ = some (.int .u8 117)) (H : H1 b off cap 1 w) (K : H2 b off 4 cap r w) :
    Calls Try.prog 16 #[.slice (some ⟨b, off, none⟩) n cap] w fun e w' => e = .returned (.tuple #[.int .i64 (escR false r).1, .bool (escR false r).2]) ∧ w = w' := by
  have hl : ¬ (n : Int) < 2 := by omega
  have hl1 : (1 : Int) < (n : Int) := by omega
  have hl6 : ¬ (n : Int) < 6 := by omega
  have hl7 : (6 : Int) < (n : Int) := by omega
  have hcc : 6 < cap := by omega
  by_cases e3 : r = 3
  · subst e3
    go_enter Try.func16, Try.ntmps16
    go_wp2_with fail
    refine Calls.mono H ?_
    rintro e w' ⟨rfl, rfl⟩
    go_wp2_with fail
    all_goals
      try rw [show n - 6 - 2 = 4 from by omega]
      refine Calls.mono K ?_
      rintro e w' ⟨rfl, rfl⟩
      go_wp2
      go_ret2
      exact ⟨rfl, rfl⟩
  · by_cases e2 : r = 2
    · subst e2
      clear e3
      go_enter Try.func16, Try.ntmps16
      go_wp2_with fail
      refine Calls.mono H ?_
      rintro e w' ⟨rfl, rfl⟩
      go_wp2_with fail
      all_goals
        try rw [show n - 6 - 2 = 4 from by omega]
        refine Calls.mono K ?_
        rintro e w' ⟨rfl, rfl⟩
        go_wp2
        go_ret2
        exact ⟨rfl, rfl⟩
    · have er : escR false r = (6, true) := by simp [escR, e3, e2]
      rw [er]
      have f3 : (r == 3) = false := by simpa using e3
      have f2 : (r == 2) = false := by simpa using e2
      clear e2 e3 er
      go_enter Try.func16, Try.ntmps16
      go_wp2_with fail
      refine Calls.mono H ?_
      rintro e w' ⟨rfl, rfl⟩
      go_wp2_with fail
      all_goals
        try rw [show n - 6 - 2 = 4 from by omega]
        refine Calls.mono K ?_
        rintro e w' ⟨rfl, rfl⟩
        go_wp2
        go_ret2
        exact ⟨rfl, rfl⟩

end Go.Proofs.Qxb6606065a
