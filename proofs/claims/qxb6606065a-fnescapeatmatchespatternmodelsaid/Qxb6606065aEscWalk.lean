import Derived.Test.Qxb6606065aEscModel
namespace Go.Proofs.Qxb6606065a
open Go.RowKit

theorem allFit_succ {zs : List Int} {k : Nat} (h : allFit zs k) (hf : fitsF k (zs.getD (6 + k) 0) = true) : allFit zs (k + 1) := by
  intro j hj
  by_cases e : j = k
  · subst e; exact hf
  · exact h j (by omega)

set_option maxHeartbeats 400000 in
theorem fits_any (k : Nat) (c : Int) (w : World) (hk : k < 4) : Calls Try.prog 18 #[.int .i64 k, .int .u8 c] w fun e w' => e = .returned (.bool (fitsF k c)) ∧ w = w' := by
  rcases (show k = 0 ∨ k = 1 ∨ k = 2 ∨ k = 3 by omega) with rfl | rfl | rfl | rfl
  · show Calls Try.prog 18 #[.int .i64 0, .int .u8 c] w fun e w' => e = .returned (.bool (c == 92)) ∧ w = w'
    go_enter Try.func18, Try.ntmps18
    go_wp2
    go_ret
    exact ⟨rfl, rfl⟩
  · show Calls Try.prog 18 #[.int .i64 1, .int .u8 c] w fun e w' => e = .returned (.bool (c == 117)) ∧ w = w'
    go_enter Try.func18, Try.ntmps18
    go_wp2
    go_ret
    exact ⟨rfl, rfl⟩
  · show Calls Try.prog 18 #[.int .i64 2, .int .u8 c] w fun e w' => e = .returned (.bool (hexF c == 13)) ∧ w = w'
    go_enter Try.func18, Try.ntmps18
    go_wp2_with (go_at_call 20; refine (hex_any _ _).mono ?_; rintro e w' ⟨rfl, rfl⟩)
    go_ret
    exact ⟨rfl, rfl⟩
  · show Calls Try.prog 18 #[.int .i64 3, .int .u8 c] w fun e w' => e = .returned (.bool (decide (12 ≤ hexF c))) ∧ w = w'
    go_enter Try.func18, Try.ntmps18
    go_wp2_with (go_at_call 20; refine (hex_any _ _).mono ?_; rintro e w' ⟨rfl, rfl⟩)
    go_ret
    exact ⟨rfl, rfl⟩

set_option maxHeartbeats 400000 in
theorem em_short (a : Option Addr) (n cap : Nat) (w : World) (hn : n < 2) :
    Calls Try.prog 10 #[.slice a n cap] w fun e w' => e = .returned (.tuple #[.int .i64 0, .bool false]) ∧ w = w' := by
  have hl : (n : Int) < 2 := by omega
  go_enter Try.func10, Try.ntmps10
  go_wp2
  go_ret2
  exact ⟨rfl, rfl⟩

set_option maxHeartbeats 400000 in
theorem em_plain (b off n cap : Nat) (c1 : Int) (w : World) (hn : 2 ≤ n) (h1 : w.cell? ⟨b, off + 1, none⟩ = some (.int .u8 c1)) (hc : c1 ≠ 117) :
    Calls Try.prog 10 #[.slice (some ⟨b, off, none⟩) n cap] w fun e w' => e = .returned (.tuple #[.int .i64 2, .bool false]) ∧ w = w' := by
  have hl : ¬ (n : Int) < 2 := by omega
  have hl1 : (1 : Int) < (n : Int) := by omega
  have g1 : (c1 != 117) = true := by simpa using hc
  clear hc
  go_enter Try.func10, Try.ntmps10
  go_wp2
  go_ret2
  exact ⟨rfl, rfl⟩

set_option maxHeartbeats 400000 in
theorem em_soon (b off n cap : Nat) (w : World) (hn : 2 ≤ n) (hn6 : n < 6) (h1 : w.cell? ⟨b, off + 1, none⟩ = some (.int .u8 117)) :
    Calls Try.prog 10 #[.slice (some ⟨b, off, none⟩) n cap] w fun e w' => e = .returned (.tuple #[.int .i64 0, .bool false]) ∧ w = w' := by
  have hl : ¬ (n : Int) < 2 := by omega
  have hl1 : (1 : Int) < (n : Int) := by omega
  have hl6 : (n : Int) < 6 := by omega
  go_enter Try.func10, Try.ntmps10
  go_wp2
  go_ret2
  exact ⟨rfl, rfl⟩

/-- What the first two digits are told to be, in every world. -/
def U (c2 c3 r : Int) : Prop := ∀ w : World, Calls Try.prog 17 #[.int .u8 c2, .int .u8 c3] w fun e w' => e = .returned (.int .i64 r) ∧ w = w'

set_option maxHeartbeats 400000 in
theorem em_none (b off n cap : Nat) (c2 c3 : Int) (w : World) (hn : 6 ≤ n) (h1 : w.cell? ⟨b, off + 1, none⟩ = some (.int .u8 117))
    (h2 : w.cell? ⟨b, off + 2, none⟩ = some (.int .u8 c2)) (h3 : w.cell? ⟨b, off + 3, none⟩ = some (.int .u8 c3)) (H : U c2 c3 0) :
    Calls Try.prog 10 #[.slice (some ⟨b, off, none⟩) n cap] w fun e w' => e = .returned (.tuple #[.int .i64 6, .bool false]) ∧ ∃ q, w' = w.drewN q := by
  have hl : ¬ (n : Int) < 2 := by omega
  have hl1 : (1 : Int) < (n : Int) := by omega
  have hl2 : (2 : Int) < (n : Int) := by omega
  have hl3 : (3 : Int) < (n : Int) := by omega
  have hl6 : ¬ (n : Int) < 6 := by omega
  go_enter Try.func10, Try.ntmps10
  go_wp2
  go_quiet ((go_at_call 17; exact quiet_of_eq (H _)))
  go_wp2
  go_ret2
  exact ⟨rfl, _, rfl⟩

set_option maxHeartbeats 400000 in
theorem em_low (b off n cap : Nat) (c2 c3 : Int) (w : World) (hn : 6 ≤ n) (h1 : w.cell? ⟨b, off + 1, none⟩ = some (.int .u8 117))
    (h2 : w.cell? ⟨b, off + 2, none⟩ = some (.int .u8 c2)) (h3 : w.cell? ⟨b, off + 3, none⟩ = some (.int .u8 c3)) (H : U c2 c3 2) :
    Calls Try.prog 10 #[.slice (some ⟨b, off, none⟩) n cap] w fun e w' => e = .returned (.tuple #[.int .i64 6, .bool true]) ∧ ∃ q, w' = w.drewN q := by
  have hl : ¬ (n : Int) < 2 := by omega
  have hl1 : (1 : Int) < (n : Int) := by omega
  have hl2 : (2 : Int) < (n : Int) := by omega
  have hl3 : (3 : Int) < (n : Int) := by omega
  have hl6 : ¬ (n : Int) < 6 := by omega
  go_enter Try.func10, Try.ntmps10
  go_wp2
  go_quiet ((go_at_call 17; exact quiet_of_eq (H _)))
  go_wp2
  go_ret2
  exact ⟨rfl, _, rfl⟩

set_option maxHeartbeats 400000 in
theorem em_long (b off n cap : Nat) (c2 c3 : Int) (zs : List Int) (out : Int × Bool) (w : World) (hn : 10 < n) (hmax : n ≤ 1048576) (h1 : w.cell? ⟨b, off + 1, none⟩ = some (.int .u8 117))
    (h2 : w.cell? ⟨b, off + 2, none⟩ = some (.int .u8 c2)) (h3 : w.cell? ⟨b, off + 3, none⟩ = some (.int .u8 c3)) (H : U c2 c3 1)
    (hc : ∀ k, k < 4 → w.cell? ⟨b, off + (6 + k), none⟩ = some (.int .u8 (zs.getD (6 + k) 0)))
    (good : Hid (allFit zs 4 → out = if n < 12 then (0, false) else (12, false)))
    (bad : Hid (∀ k, k < 4 → fitsF k (zs.getD (6 + k) 0) = false → allFit zs k → out = (6, true))) :
    Calls Try.prog 10 #[.slice (some ⟨b, off, none⟩) n cap] w fun e w' => e = .returned (.tuple #[.int .i64 out.1, .bool out.2]) ∧ ∃ q, w' = w.drewN q := by
  have hl : ¬ (n : Int) < 2 := by omega
  have hl1 : (1 : Int) < (n : Int) := by omega
  have hl2 : (2 : Int) < (n : Int) := by omega
  have hl3 : (3 : Int) < (n : Int) := by omega
  have hl6 : ¬ (n : Int) < 6 := by omega
  have hl10 : (10 : Int) < (n : Int) := by omega
  have hlm : (n : Int) ≤ 1048576 := by omega
  have hl4 : (4 : Int) < (n : Int) - 6 := by omega
  go_enter Try.func10, Try.ntmps10
  go_wp2
  go_quiet ((go_at_call 17; exact quiet_of_eq (H _)))
  go_wp2
  go_loop [7] (fun i => ∃ k : Nat, k ≤ 4 ∧ i = .int .i64 k ∧ allFit zs k) (fun i => 4 - (intOf i).toNat)
  case atStart => exact ⟨0, by omega, rfl, fun j hj => by omega⟩
  case round =>
    obtain ⟨k, hk, rfl, hall⟩ := hrel
    by_cases hlt : k < 4
    · have hcx := hc k hlt
      by_cases hf : fitsF k (zs.getD (6 + k) 0) = true
      · have C : Hid (∀ W : World, Calls Try.prog 18 #[.int .i64 k, .int .u8 (zs.getD (6 + k) 0)] W fun e w' => e = .returned (.bool true) ∧ W = w') := by
          intro W; have := fits_any k (zs.getD (6 + k) 0) W hlt; rw [hf] at this; exact this
        go_wp2_with fail
        refine Calls.mono (C.out _) ?_
        rintro e w' ⟨rfl, rfl⟩
        go_wp2
        go_round
        case rel => exact ⟨k + 1, by omega, by go_num, allFit_succ hall hf⟩
        case measure => simp [intOf]; omega
      · have hf' : fitsF k (zs.getD (6 + k) 0) = false := by simpa using hf
        have C : Hid (∀ W : World, Calls Try.prog 18 #[.int .i64 k, .int .u8 (zs.getD (6 + k) 0)] W fun e w' => e = .returned (.bool false) ∧ W = w') := by
          intro W; have := fits_any k (zs.getD (6 + k) 0) W (by omega); rw [hf'] at this; exact this
        have e : Hid _ := bad.out k hlt hf' hall
        clear hf hf'
        go_wp2_with fail
        refine Calls.mono (C.out _) ?_
        rintro e w' ⟨rfl, rfl⟩
        go_wp2
        go_ret2
        exact ⟨by rw [e.out]; rfl, _, rfl⟩
    · have e : Hid _ := good.out (by rw [show 4 = k by omega]; exact hall)
      go_wp2
      · go_ret2
        exact ⟨by rw [e.out, if_pos (show n < 12 by omega)]; rfl, _, rfl⟩
      · go_ret2
        exact ⟨by rw [e.out, if_neg (show ¬ n < 12 by omega)]; rfl, _, rfl⟩

set_option maxHeartbeats 400000 in
theorem em_mid (b off n cap : Nat) (c2 c3 : Int) (zs : List Int) (out : Int × Bool) (w : World) (hn : 6 ≤ n) (hmax : n ≤ 10) (h1 : w.cell? ⟨b, off + 1, none⟩ = some (.int .u8 117))
    (h2 : w.cell? ⟨b, off + 2, none⟩ = some (.int .u8 c2)) (h3 : w.cell? ⟨b, off + 3, none⟩ = some (.int .u8 c3)) (H : U c2 c3 1)
    (hc : ∀ k, k < n - 6 → w.cell? ⟨b, off + (6 + k), none⟩ = some (.int .u8 (zs.getD (6 + k) 0)))
    (good : Hid (allFit zs (n - 6) → out = (0, false)))
    (bad : Hid (∀ k, k < n - 6 → fitsF k (zs.getD (6 + k) 0) = false → allFit zs k → out = (6, true))) :
    Calls Try.prog 10 #[.slice (some ⟨b, off, none⟩) n cap] w fun e w' => e = .returned (.tuple #[.int .i64 out.1, .bool out.2]) ∧ ∃ q, w' = w.drewN q := by
  have hl : ¬ (n : Int) < 2 := by omega
  have hl1 : (1 : Int) < (n : Int) := by omega
  have hl2 : (2 : Int) < (n : Int) := by omega
  have hl3 : (3 : Int) < (n : Int) := by omega
  have hl6 : ¬ (n : Int) < 6 := by omega
  have hl10 : (n : Int) ≤ 10 := by omega
  have hl6' : (6 : Int) ≤ (n : Int) := by omega
  go_enter Try.func10, Try.ntmps10
  go_wp2
  go_quiet ((go_at_call 17; exact quiet_of_eq (H _)))
  go_wp2
  go_loop [7] (fun i => ∃ k : Nat, k ≤ n - 6 ∧ i = .int .i64 k ∧ allFit zs k) (fun i => n - 6 - (intOf i).toNat)
  case atStart => exact ⟨0, by omega, rfl, fun j hj => by omega⟩
  case round =>
    obtain ⟨k, hk, rfl, hall⟩ := hrel
    by_cases hlt : k < n - 6
    · have hcx := hc k hlt
      by_cases hf : fitsF k (zs.getD (6 + k) 0) = true
      · have C : Hid (∀ W : World, Calls Try.prog 18 #[.int .i64 k, .int .u8 (zs.getD (6 + k) 0)] W fun e w' => e = .returned (.bool true) ∧ W = w') := by
          intro W; have := fits_any k (zs.getD (6 + k) 0) W (by omega); rw [hf] at this; exact this
        go_wp2_with fail
        refine Calls.mono (C.out _) ?_
        rintro e w' ⟨rfl, rfl⟩
        go_wp2
        go_round
        case rel => exact ⟨k + 1, by omega, by go_num, allFit_succ hall hf⟩
        case measure => simp [intOf]; omega
      · have hf' : fitsF k (zs.getD (6 + k) 0) = false := by simpa using hf
        have C : Hid (∀ W : World, Calls Try.prog 18 #[.int .i64 k, .int .u8 (zs.getD (6 + k) 0)] W fun e w' => e = .returned (.bool false) ∧ W = w') := by
          intro W; have := fits_any k (zs.getD (6 + k) 0) W (by omega); rw [hf'] at this; exact this
        have e : Hid _ := bad.out k hlt hf' hall
        clear hf hf'
        go_wp2_with fail
        refine Calls.mono (C.out _) ?_
        rintro e w' ⟨rfl, rfl⟩
        go_wp2
        go_ret2
        exact ⟨by rw [e.out]; rfl, _, rfl⟩
    · have e : Hid _ := good.out (by rw [show n - 6 = k by omega]; exact hall)
      go_wp2
      go_ret2
      exact ⟨by rw [e.out]; rfl, _, rfl⟩

end Go.Proofs.Qxb6606065a
