import Derived.Test.Qxb6606384aAdvances
namespace Go.Proofs.Qxb6606384a
open Go.RowKit
set_option linter.unusedVariables false

/-- What zzRunEnd answers. -/
def RunPost (s : ByteArray) (pos : Nat) (a : Int) (w : World) (e' : Ending) (w' : World) : Prop := ∃ l, e' = .returned (.int .i64 (R s pos a l)) ∧ w = w' ∧ Run s pos l ∧ pos + l ≤ s.size

theorem run_mk {s : ByteArray} {pos : Nat} {a x : Int} {w : World} {l : Nat} (hx : x = R s pos a l) (h : Run s pos l) (hl : pos + l ≤ s.size) : RunPost s pos a w (.returned (.int .i64 x)) w := ⟨l, by rw [hx], rfl, h, hl⟩

theorem bl_step {s : ByteArray} {pos i : Nat} (h : ∀ j, j < i → bl s pos j) (hb : bl s pos i) : ∀ j, j < i + 1 → bl s pos j := by
  intro j hj
  by_cases e : j = i
  · subst e; exact hb
  · exact h j (by omega)

set_option maxRecDepth 20000 in
set_option maxHeartbeats 1000000 in
theorem runEnd_any (s : ByteArray) (pos : Nat) (a : Int) (w : World) (hs : s.size ≤ 1048576) (hp : pos ≤ s.size) (h0 : 0 ≤ a) (h1 : a ≤ 536870912) :
    Calls Try.prog 15 #[.string s, .int .i64 pos, .int .i64 a] w (RunPost s pos a w) := by
  go_enter Try.func15, Try.ntmps15
  go_wp2
  go_loop [7, 8] (fun x y => ∃ i : Nat, pos + i ≤ s.size ∧ y = .int .i64 (pos + i : Nat) ∧ x = .int .i64 (R s pos a i) ∧ ∀ j, j < i → bl s pos j) (fun _ y => s.size - (intOf y).toNat)
  case atStart => exact ⟨0, by omega, rfl, rfl, fun j hj => by omega⟩
  case round =>
    obtain ⟨i, hi, rfl, rfl, hall⟩ := hrel
    have HALL : Hid _ := hall
    have rb := R_bd s pos a h0 i
    have RS : Hid _ := R_succ s pos a i
    obtain ⟨x, hx⟩ : ∃ x, x = R s pos a i := ⟨_, rfl⟩
    obtain ⟨q, hq⟩ : ∃ q, q = pos + i := ⟨_, rfl⟩
    have HX : Hid _ := hx
    have HQ : Hid _ := hq
    rw [← hx] at rb ⊢
    rw [← hq] at hi ⊢
    have rb1 : 0 ≤ x := by omega
    have rb2 : x ≤ 541065216 := by omega
    clear hall hx hq rb
    by_cases hlt : q < s.size
    · have hl : (q : Int) < (s.size : Int) := by omega
      have HB : Hid (byteAt s q = ((s[q]'hlt).toNat : Int)) := byteAt_eq s q hlt
      by_cases hb : blankB (byteAt s q) = true
      · have KB : Hid (Calls Try.prog 16 #[.int .u8 ((s[q]'hlt).toNat : Int)] w fun e' w' => e' = .returned (.bool true) ∧ w = w') := by
          have := blank_any (byteAt s q) w; rw [hb, byteAt_eq s q hlt] at this; exact this
        have KS : Hid (Calls Try.prog 17 #[.int .i64 x, .int .u8 ((s[q]'hlt).toNat : Int)] w fun e' w' => e' = .returned (.int .i64 (stepF x ((s[q]'hlt).toNat : Int))) ∧ w = w') := step_any _ _ w rb1 (by omega)
        have B : Hid _ := hb
        clear hb
        go_wp2_with fail
        refine Calls.mono KB.out ?_
        rintro e' w' ⟨rfl, rfl⟩
        go_wp2_with fail
        refine Calls.mono KS.out ?_
        rintro e' w' ⟨rfl, rfl⟩
        go_wp2
        go_round
        case rel =>
          have hq := HQ.out
          subst hq
          refine ⟨i + 1, by omega, eq_num (by omega), ?_, bl_step HALL.out ⟨hlt, B.out⟩⟩
          rw [RS.out, HB.out, ← HX.out]
        case measure => simp [intOf]; omega
      · have hbf : blankB (byteAt s q) = false := by simpa using hb
        have KB : Hid (Calls Try.prog 16 #[.int .u8 ((s[q]'hlt).toNat : Int)] w fun e' w' => e' = .returned (.bool false) ∧ w = w') := by
          have := blank_any (byteAt s q) w; rw [hbf, byteAt_eq s q hlt] at this; exact this
        have B : Hid _ := hb
        clear hb hbf
        go_wp2_with fail
        refine Calls.mono KB.out ?_
        rintro e' w' ⟨rfl, rfl⟩
        go_wp2
        go_ret
        have hq := HQ.out
        subst hq
        exact run_mk HX.out ⟨HALL.out, fun g => B.out g.2⟩ hi
    · have hl : decide ((q : Int) < (s.size : Int)) = false := decide_eq_false (by omega)
      have hl2 : decide (q < s.size) = false := decide_eq_false hlt
      have hl3 : (s.size : Int) ≤ (q : Int) := by omega
      go_wp2
      go_ret
      have hq := HQ.out
      subst hq
      exact run_mk HX.out ⟨HALL.out, fun g => hlt g.1⟩ hi

/-- How far the model moves on. -/
def advF (room k : Int) : Int := if room < (if k < 0 then 0 else k) then room else (if k < 0 then 0 else k)

/-- What the model answers. -/
def ModelPost (s : ByteArray) (pos : Nat) (a c k : Int) (w : World) (e' : Ending) (w' : World) : Prop :=
  ∃ l n, e' = .returned (.tuple #[.int .i64 (pos + n : Nat), .int .i64 (R s pos a n), .int .i64 (c + advF (R s pos a l - c) k)]) ∧ w = w' ∧ Run s pos l ∧ Ends s pos a (c + advF (R s pos a l - c) k) n ∧ pos + n ≤ s.size

theorem model_mk {s : ByteArray} {pos q : Nat} {a c k x reach : Int} {w : World} {l n : Nat} (hq : q = pos + n) (hx : x = R s pos a n) (hreach : reach = c + advF (R s pos a l - c) k) (h1 : Run s pos l) (h2 : Ends s pos a reach n) (h3 : pos + n ≤ s.size) :
    ModelPost s pos a c k w (.returned (.tuple #[.int .i64 (q : Int), .int .i64 x, .int .i64 reach])) w := by
  subst hq
  subst hx
  subst hreach
  exact ⟨l, n, rfl, rfl, h1, h2, h3⟩

theorem ends_step {s : ByteArray} {pos i : Nat} {a reach : Int} (h : ∀ j, j < i → bl s pos j ∧ R s pos a (j + 1) ≤ reach) (hb : bl s pos i) (hr : R s pos a (i + 1) ≤ reach) : ∀ j, j < i + 1 → bl s pos j ∧ R s pos a (j + 1) ≤ reach := by
  intro j hj
  by_cases e : j = i
  · subst e; exact ⟨hb, hr⟩
  · exact h j (by omega)

end Go.Proofs.Qxb6606384a
