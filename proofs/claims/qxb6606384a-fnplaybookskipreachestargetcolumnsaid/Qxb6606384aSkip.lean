import Derived.Test.Qxb6606384aCursor
namespace Go.Proofs.Qxb6606384a
open Go.RowKit
set_option linter.unusedVariables false

theorem skip_lt {b : Nat} {s : ByteArray} {pos : Nat} {a c e r k : Int} {w wr : World} {m : Nat} {cc kk : Int} (sh : Shape s pos a c) (h : SkipRel b s pos a c e r k w m cc kk wr) : cc < R s pos a (m + 1) := by
  obtain ⟨h1, h2, h3, h4, h5, h6⟩ := h
  by_cases e : m = 0
  · subst e
    rw [h3 rfl]
    exact shape_first sh 1 (Nat.le_refl _)
  · rw [(h4 (by omega)).1]
    exact R_lt s pos a sh.2.1 m

set_option maxRecDepth 20000 in
set_option maxHeartbeats 2000000 in
theorem skip_any (b : Nat) (s : ByteArray) (pos : Nat) (a c e r k : Int) (w : World) (hs : s.size ≤ 1048576) (h1 : a ≤ 536870912) (hck : c + k ≤ 9223372036854775807) (sh : Shape s pos a c) (h : Cur w b s pos a c e r) :
    Calls Try.prog 14 #[.pointer (some ⟨b, 0, none⟩), .int .i64 k] w (SkipPost b s pos a c e r k w) := by
  have h0 := sh.2.1
  have hp := sh.1
  have SH : Hid _ := sh
  have HC : Hid _ := h
  clear sh h
  go_enter Try.func14, Try.ntmps14
  go_wp2
  go_loopw [1] (fun kv wr => ∃ (m : Nat) (cc kk : Int), kv = .int .i64 kk ∧ pos + m ≤ s.size ∧ SkipRel b s pos a c e r k w m cc kk wr) (fun kv _ => (intOf kv).toNat)
  case atStart => exact ⟨0, c, k, rfl, by omega, rfl, fun j hj => by omega, fun _ => rfl, fun g => by omega, HC.out, Below.refl _ _⟩
  case round =>
    obtain ⟨m, cc, kk, rfl, hm, hrel⟩ := hrel
    have HR : Hid _ := hrel
    by_cases hk : 0 < kk
    case neg =>
      have g : decide (0 < kk) = false := decide_eq_false hk
      have g' : kk ≤ 0 := by omega
      clear hk hrel
      go_wp2
      go_quiet (fail)
      go_wp2
      go_end0
      exact skip_done HR.out g' _
    have rb := R_bd s pos a h0 m
    have hcc := skip_cc SH.out hrel
    have RS : Hid _ := R_succ s pos a m
    have HLT : Hid _ := skip_lt SH.out hrel
    have hsum : cc + kk ≤ 9223372036854775807 := by rw [hrel.1]; exact hck
    have hcur := hrel.2.2.2.2.1
    clear hrel
    obtain ⟨x, hx⟩ : ∃ x, x = R s pos a m := ⟨_, rfl⟩
    obtain ⟨q, hq⟩ : ∃ q, q = pos + m := ⟨_, rfl⟩
    have HX : Hid _ := hx
    have HQ : Hid _ := hq
    rw [← hx] at rb hcc hcur
    rw [← hq] at hm hcur
    obtain ⟨c0, c1, c2, c3, c4, c5⟩ := hcur.cells
    have f1 := hcur.free 1
    have f2 := hcur.free 2
    have f3 := hcur.free 3
    have rb1 : 0 ≤ x := by omega
    have rb2 : x ≤ 541065216 := by omega
    obtain ⟨hcc1, hcc2⟩ := hcc
    clear hx hq rb c4 c5 hcur
    by_cases hlt : q < s.size
    case neg =>
      have hl : decide ((q : Int) < (s.size : Int)) = false := decide_eq_false (by omega)
      have hl2 : decide (q < s.size) = false := decide_eq_false hlt
      have hl3 : (s.size : Int) ≤ (q : Int) := by omega
      go_wp2
      go_quiet (fail)
      go_wp2
      go_end0
      have hq := HQ.out
      subst hq
      exact skip_stuck SH.out HR.out hk (fun g => hlt g.1) _
    have hl : (q : Int) < (s.size : Int) := by omega
    by_cases b32 : byteAt s q = 32
    · have g1 : (((s[q]'hlt).toNat : Int) == 32) = true := by rw [← byteAt_eq]; simpa using b32
      have B : Hid _ := b32
      clear b32
      have hcn : cc < x + 1 := by have g := HLT.out; rw [RS.out, ← HX.out] at g; have hq := HQ.out; rw [← hq, B.out] at g; exact g
      have hnx : x + 1 ≤ cc + kk := by omega
      have hnx' : decide (cc + kk < x + 1) = false := decide_eq_false (by omega)
      go_wp2
      go_quiet (fail)
      go_wp2
      go_quiet (fail)
      go_wp2
      go_roundw
      case rel =>
        have hq := HQ.out
        subst hq
        refine ⟨m + 1, x + 1, _, rfl, by omega, skip_next SH.out HR.out hk (blank_sp hlt B.out) ?_ (by omega) hnx _⟩
        rw [RS.out, B.out, ← HX.out]; rfl
      case measure => simp [intOf]; omega
    have g1 : (((s[q]'hlt).toNat : Int) == 32) = false := by rw [← byteAt_eq]; simpa using b32
    have B1 : Hid _ := b32
    clear b32
    by_cases b9 : byteAt s q = 9
    case neg =>
      have g2 : (((s[q]'hlt).toNat : Int) == 9) = false := by rw [← byteAt_eq]; simpa using b9
      have B : Hid _ := b9
      clear b9
      go_wp2
      go_quiet (fail)
      go_wp2
      go_quiet (fail)
      go_wp2
      go_end0
      have hq := HQ.out
      subst hq
      exact skip_stuck SH.out HR.out hk (blank_not B1.out B.out) _
    have g2 : (((s[q]'hlt).toNat : Int) == 9) = true := by rw [← byteAt_eq]; simpa using b9
    have B : Hid _ := b9
    clear b9
    have hcn : cc < x + 4 - x % 4 := by have g := HLT.out; rw [RS.out, ← HX.out] at g; have hq := HQ.out; rw [← hq, B.out] at g; rw [← stop_eq]; exact g
    have hse := stop_eq x
    have hsg := stop_gt x
    by_cases hpart : cc + kk < x + 4 - x % 4
    · clear hse hsg
      go_wp2
      go_quiet (fail)
      go_wp2
      go_quiet (fail)
      go_wp2
      go_quiet (fail)
      go_wp2
      go_end0
      have hq := HQ.out
      subst hq
      refine skip_part SH.out HR.out hk (blank_tab hlt B.out) ?_ _
      rw [RS.out, B.out, ← HX.out]
      show cc + kk < stopF x
      rw [stop_eq]
      exact hpart
    · have hnx' : decide (cc + kk < x + 4 - x % 4) = false := decide_eq_false hpart
      have hnx : x + 4 - x % 4 ≤ cc + kk := by omega
      clear hse hsg hpart
      go_wp2
      go_quiet (fail)
      go_wp2
      go_quiet (fail)
      go_wp2
      go_quiet (fail)
      go_wp2
      go_roundw
      case rel =>
        have hq := HQ.out
        subst hq
        refine ⟨m + 1, x + 4 - x % 4, _, rfl, by omega, skip_next SH.out HR.out hk (blank_tab hlt B.out) ?_ (by omega) hnx _⟩
        rw [RS.out, B.out, ← HX.out, ← stop_eq]; rfl
      case measure => simp [intOf]; omega

end Go.Proofs.Qxb6606384a
