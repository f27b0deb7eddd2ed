import Derived.Test.Qxb6606065aModel
namespace Go.Proofs.Qxb6606065a
open Go.RowKit

theorem quiet_of_eq {P : Program} {f : FuncId} {args : Array Value} {w : World} {n : Nat} {v : Value}
    (h : Calls P f args (w.drewN n) fun e w' => e = .returned v ∧ w.drewN n = w') : Calls P f args (w.drewN n) fun e w'' => e = .returned v ∧ ∃ m, w'' = w.drewN m :=
  h.mono fun _ _ ⟨he, hm⟩ => ⟨he, n, hm.symm⟩

set_option maxHeartbeats 400000 in
theorem hm_nil (a : Option Addr) (cap : Nat) (w : World) :
    Calls Try.prog 15 #[.slice a 0 cap] w fun e w' => e = .returned (.int .i64 3) ∧ w = w' := by
  go_enter Try.func15, Try.ntmps15
  go_wp2
  go_ret
  exact ⟨rfl, rfl⟩

set_option maxHeartbeats 400000 in
theorem hm_not (b off n cap : Nat) (c0 : Int) (w : World) (hn : 1 ≤ n) (h0 : w.cell? ⟨b, off, none⟩ = some (.int .u8 c0)) (hc : hexF c0 ≠ 13) :
    Calls Try.prog 15 #[.slice (some ⟨b, off, none⟩) n cap] w fun e w' => e = .returned (.int .i64 0) ∧ w = w' := by
  have hl : ((n : Int) == 0) = false := by simp; omega
  have hl0 : (0 : Int) < (n : Int) := by omega
  have g1 : (hexF c0 != 13) = true := by simpa using hc
  clear hc
  go_enter Try.func15, Try.ntmps15
  go_wp2_with (go_at_call 20; refine (hex_any _ _).mono ?_; rintro e w' ⟨rfl, rfl⟩)
  go_ret
  exact ⟨rfl, rfl⟩

set_option maxHeartbeats 400000 in
theorem hm_one (b off cap : Nat) (c0 : Int) (w : World) (h0 : w.cell? ⟨b, off, none⟩ = some (.int .u8 c0)) (hc : hexF c0 = 13) :
    Calls Try.prog 15 #[.slice (some ⟨b, off, none⟩) 1 cap] w fun e w' => e = .returned (.int .i64 3) ∧ w = w' := by
  have C : Hid (Calls Try.prog 20 #[.int .u8 c0] w fun e w' => e = .returned (.int .i64 13) ∧ w = w') := by have := hex_any c0 w; rw [hc] at this; exact this
  clear hc
  go_enter Try.func15, Try.ntmps15
  go_wp2_with fail
  refine Calls.mono C.out ?_
  rintro e w' ⟨rfl, rfl⟩
  go_wp2
  go_ret
  exact ⟨rfl, rfl⟩

set_option maxHeartbeats 400000 in
theorem hm_two (b off n cap : Nat) (c0 c1 : Int) (w : World) (hn : 2 ≤ n) (h0 : w.cell? ⟨b, off, none⟩ = some (.int .u8 c0)) (h1 : w.cell? ⟨b, off + 1, none⟩ = some (.int .u8 c1)) (hc : hexF c0 = 13) :
    Calls Try.prog 15 #[.slice (some ⟨b, off, none⟩) n cap] w fun e w' => e = .returned (.int .i64 (unitF c0 c1)) ∧ ∃ q, w' = w.drewN q := by
  have C : Hid (Calls Try.prog 20 #[.int .u8 c0] w fun e w' => e = .returned (.int .i64 13) ∧ w = w') := by have := hex_any c0 w; rw [hc] at this; exact this
  clear hc
  have hl : ((n : Int) == 0) = false := by simp; omega
  have hl' : ((n : Int) == 1) = false := by simp; omega
  have hl0 : (0 : Int) < (n : Int) := by omega
  have hl1 : (1 : Int) < (n : Int) := by omega
  go_enter Try.func15, Try.ntmps15
  go_wp2_with fail
  refine Calls.mono C.out ?_
  rintro e w' ⟨rfl, rfl⟩
  go_wp2
  go_quiet ((go_at_call 17; exact quiet_of_eq (unit_any _ _ _)))
  go_wp2
  go_ret
  exact ⟨rfl, _, rfl⟩

theorem hm_any (a : Option Addr) (n cap : Nat) (zs : List Int) (w : World) (hn : n = zs.length) (h : Reads w a zs) :
    Calls Try.prog 15 #[.slice a n cap] w fun e w' => e = .returned (.int .i64 (halfF zs)) ∧ ∃ q, w' = w.drewN q := by
  subst hn
  match zs, h with
  | [], _ => refine (hm_nil a cap w).mono ?_; rintro e w' ⟨rfl, rfl⟩; exact ⟨rfl, 0, rfl⟩
  | [c0], h =>
    rcases h with h | ⟨b, off, rfl, hc⟩
    · simp at h
    have h0 : w.cell? ⟨b, off, none⟩ = some (.int .u8 c0) := by simpa using hc 0 (by simp)
    by_cases hd : c0 = 100 ∨ c0 = 68
    · simp only [halfF, if_pos hd]; refine (hm_one b off cap c0 w h0 ((hexF_13 c0).2 hd)).mono ?_; rintro e w' ⟨rfl, rfl⟩; exact ⟨rfl, 0, rfl⟩
    · simp only [halfF, if_neg hd]; refine (hm_not b off _ cap c0 w (by simp) h0 (fun h => hd ((hexF_13 c0).1 h))).mono ?_; rintro e w' ⟨rfl, rfl⟩; exact ⟨rfl, 0, rfl⟩
  | c0 :: c1 :: r, h =>
    rcases h with h | ⟨b, off, rfl, hc⟩
    · simp at h
    have h0 : w.cell? ⟨b, off, none⟩ = some (.int .u8 c0) := by simpa using hc 0 (by simp)
    have h1 : w.cell? ⟨b, off + 1, none⟩ = some (.int .u8 c1) := by simpa using hc 1 (by simp)
    by_cases hd : c0 = 100 ∨ c0 = 68
    · have eu := unitF_eq c0 c1
      rw [if_pos hd] at eu
      simp only [halfF, if_pos hd]
      rw [← eu]
      exact hm_two b off _ cap c0 c1 w (by simp) h0 h1 ((hexF_13 c0).2 hd)
    · simp only [halfF, if_neg hd]; refine (hm_not b off _ cap c0 w (by simp) h0 (fun h => hd ((hexF_13 c0).1 h))).mono ?_; rintro e w' ⟨rfl, rfl⟩; exact ⟨rfl, 0, rfl⟩

set_option maxHeartbeats 400000 in
theorem zzHalf_any (a : Option Addr) (n cap : Nat) (zs : List Int) (w : World) (hn : n = zs.length) (h : Reads w a zs) :
    Calls Try.prog 14 #[.slice a n cap] w fun e w' => e = .returned (.int .i64 (halfF zs)) ∧ w = w' := by
  have H : Hid _ := half_any a n cap zs w hn h
  clear h hn
  go_enter Try.func14, Try.ntmps14
  go_wp2_with fail
  refine Calls.mono H.out ?_
  rintro e w' ⟨rfl, rfl⟩
  go_wp2
  go_ret
  exact ⟨rfl, rfl⟩

end Go.Proofs.Qxb6606065a
