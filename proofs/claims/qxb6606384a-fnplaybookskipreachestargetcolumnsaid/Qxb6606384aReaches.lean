import Derived.Test.Qxb6606384aModelWalk
namespace Go.Proofs.Qxb6606384a
open Go.RowKit
set_option linter.unusedVariables false

set_option maxRecDepth 20000 in
set_option maxHeartbeats 2000000 in
theorem reaches_walk (s : ByteArray) (p a c e r k : Int) (hk1 : -9223372036854775808 ≤ k) (hk2 : k ≤ 9223372036854775807) (w : World) :
    Calls Try.prog 3 #[.string s, .int .i64 p, .int .i64 a, .int .i64 c, .int .i64 e, .int .i64 r, .int .i64 k] w fun e' w' => e' = .returned (.bool true) ∧ Below w.heap.size w w' := by
  by_cases hs : s.size ≤ 1048576
  case neg =>
    go_enter Try.func3, Try.ntmps3
    go_wp2_with fail
    refine (size_no6 _ _ _ _ _ _ _ _ (by omega)).mono ?_
    rintro e' w' ⟨rfl, rfl⟩
    go_wp2
    go_ret
    exact ⟨rfl, Below.refl _ _⟩
  have hl1 : decide ((1048576 : Int) < (s.size : Int)) = false := decide_eq_false (by omega)
  have hl2 : (s.size : Int) ≤ 1048576 := by omega
  go_enter Try.func3, Try.ntmps3
  go_wp2_with fail
  refine (size_ok6 _ _ _ _ _ _ _ _ hs).mono ?_
  rintro e' w' ⟨rfl, rfl⟩
  go_wp2_with fail
  refine Calls.mono (formed_any s p a c w hs) ?_
  rintro e' w' ⟨β, rfl, rfl, hP⟩
  cases β
  · clear hP
    go_wp2
    go_ret
    exact ⟨rfl, Below.refl _ _⟩
  obtain ⟨ha, pos, rfl, sh⟩ := hP rfl
  have hcol := shape_col sh
  have h0 := sh.2.1
  have SH : Hid _ := sh
  have hc0 : 0 ≤ c := by omega
  have hc1 : c ≤ 536870915 := by omega
  clear hP sh hcol
  by_cases k1 : 9223372036854775807 - c < k
  · go_wp2
    go_ret
    exact ⟨rfl, Below.refl _ _⟩
  have k1' : decide (9223372036854775807 - c < k) = false := decide_eq_false k1
  have hck : c + k ≤ 9223372036854775807 := by omega
  clear k1
  go_wp2_with fail
  refine Calls.mono (zzSkip_any s pos a c e r k w hs ha hck SH.out) ?_
  rintro e' w1 ⟨m, c', rfl, hsk, hb1⟩
  have KM : Hid _ := model_any s pos a c k w1 hs ha hk1 hck SH.out
  have B1 : Hid _ := hb1
  have HSK : Hid _ := hsk
  clear hsk hb1
  go_wp2_with fail
  refine Calls.mono KM.out ?_
  rintro e' w2 ⟨l, n, rfl, rfl, hrun, hends, hn⟩
  obtain ⟨p1, p2⟩ := skips_model SH.out hrun HSK.out
  have p1' : c' = c + advF (R s pos a l - c) k := p1
  have hmn : m = n := ends_unique p2 hends
  subst hmn
  rw [← p1']
  obtain ⟨x, hx⟩ : ∃ x, x = R s pos a m := ⟨_, rfl⟩
  rw [← hx]
  clear p1 p2 p1' hrun hends hn hx KM
  go_wp2
  go_ret
  exact ⟨rfl, B1.out⟩

end Go.Proofs.Qxb6606384a
