import Derived.Test.Qxb6606384aZz
namespace Go.Proofs.Qxb6606384a
open Go.RowKit
set_option linter.unusedVariables false

theorem below_of {w w1 w2 : World} (h : Below w.heap.size w w1) (h' : Below w1.heap.size w1 w2) : Below w.heap.size w w2 := h.trans (h'.mono h.size)

set_option maxRecDepth 20000 in
set_option maxHeartbeats 2000000 in
theorem advances_walk (s : ByteArray) (p a c e r k : Int) (hk1 : -9223372036854775808 ≤ k) (hk2 : k ≤ 9223372036854775807) (w : World) :
    Calls Try.prog 5 #[.string s, .int .i64 p, .int .i64 a, .int .i64 c, .int .i64 e, .int .i64 r, .int .i64 k] w fun e' w' => e' = .returned (.bool true) ∧ Below w.heap.size w w' := by
  by_cases hs : s.size ≤ 1048576
  case neg =>
    go_enter Try.func5, Try.ntmps5
    go_wp2_with fail
    refine (size_no11 _ _ _ _ _ _ _ _ (by omega)).mono ?_
    rintro e' w' ⟨rfl, rfl⟩
    go_wp2
    go_ret
    exact ⟨rfl, Below.refl _ _⟩
  have hl1 : decide ((1048576 : Int) < (s.size : Int)) = false := decide_eq_false (by omega)
  have hl2 : (s.size : Int) ≤ 1048576 := by omega
  go_enter Try.func5, Try.ntmps5
  go_wp2_with fail
  refine (size_ok11 _ _ _ _ _ _ _ _ hs).mono ?_
  rintro e' w' ⟨rfl, rfl⟩
  go_wp2_with fail
  refine Calls.mono (formed_any s p a c w hs) ?_
  rintro e' w' ⟨β, rfl, rfl, hP⟩
  cases β
  · clear hP
    go_wp2
    go_ret
    exact ⟨rfl, Below.refl _ _⟩
  obtain ⟨ha, pos, rfl, sh⟩ := hP rfl
  have hcol := shape_col sh
  have h0 := sh.2.1
  have SH : Hid _ := sh
  have hc0 : 0 ≤ c := by omega
  have hc1 : c ≤ 536870915 := by omega
  clear hP sh hcol
  by_cases k0 : k < 0
  · go_wp2
    go_ret
    exact ⟨rfl, Below.refl _ _⟩
  have k0' : decide (k < 0) = false := decide_eq_false k0
  have k0'' : 0 ≤ k := by omega
  clear k0
  by_cases k1 : 9223372036854775807 - c < k
  · go_wp2
    go_ret
    exact ⟨rfl, Below.refl _ _⟩
  have k1' : decide (9223372036854775807 - c < k) = false := decide_eq_false k1
  have hck : c + k ≤ 9223372036854775807 := by omega
  clear k1
  go_wp2_with fail
  refine Calls.mono (zzIndent_any s pos a c e r k w hs ha SH.out) ?_
  rintro e' w1 ⟨i, rfl, hcnt, hb1⟩
  have KS : Hid _ := zzSkip_any s pos a c e r k w1 hs ha hck SH.out
  obtain ⟨x, hx⟩ : ∃ x, x = R s pos a i - c := ⟨_, rfl⟩
  have HX : Hid _ := hx
  rw [← hx]
  have HC : Hid _ := hcnt
  have B1 : Hid _ := hb1
  clear hcnt hb1 hx
  go_wp2_with fail
  refine Calls.mono KS.out ?_
  rintro e' w2 ⟨m, c', rfl, hsk, hb2⟩
  obtain ⟨hpl, hsh⟩ := skips_counts SH.out k0'' hsk HC.out
  rw [← HX.out] at hpl
  have hRm := R_bd s pos a h0 m
  have hml : pos + m ≤ s.size := hsh.1
  have KSh : Hid _ := shape_true s (pos + m) (R s pos a m) c' w2 hsh (by omega)
  have hcol2 := shape_col hsh
  obtain ⟨y, hy⟩ : ∃ y, y = R s pos a m := ⟨_, rfl⟩
  obtain ⟨q, hq⟩ : ∃ q, q = pos + m := ⟨_, rfl⟩
  rw [← hy] at KSh hRm hcol2 ⊢
  rw [← hq] at KSh ⊢
  have c'0 : 0 ≤ c' := by omega
  have c'1 : c' ≤ 541065220 := by omega
  have B2 : Hid (Below w.heap.size w w2) := below_of B1.out hb2
  clear hsk hb2 hsh hRm hml hcol2 hy hq KS
  by_cases hlt : x < k
  · rw [if_pos hlt] at hpl
    have g : (c' - c == x) = true := by simpa using hpl
    clear hpl
    go_wp2_with fail
    refine Calls.mono KSh.out ?_
    rintro e' w3 ⟨rfl, rfl⟩
    go_wp2
    go_ret
    exact ⟨rfl, B2.out⟩
  · rw [if_neg hlt] at hpl
    have g : (c' - c == k) = true := by simpa using hpl
    have hlt' : decide (x < k) = false := decide_eq_false hlt
    clear hpl hlt
    go_wp2_with fail
    refine Calls.mono KSh.out ?_
    rintro e' w3 ⟨rfl, rfl⟩
    go_wp2
    go_ret
    exact ⟨rfl, B2.out⟩

end Go.Proofs.Qxb6606384a
