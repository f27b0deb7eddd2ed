import Derived.Test.Qxb6606384aModel
namespace Go.Proofs.Qxb6606384a
open Go.RowKit
set_option linter.unusedVariables false

theorem room_le {s : ByteArray} {pos l : Nat} {a c : Int} (hs : Shape s pos a c) (hr : Run s pos l) : c ≤ R s pos a l := by
  by_cases e : l = 0
  · subst e
    have := shape_noblank hs hr.2
    show c ≤ a
    omega
  · have := shape_first hs l (by omega); omega

set_option maxRecDepth 20000 in
set_option maxHeartbeats 2000000 in
theorem model_any (s : ByteArray) (pos : Nat) (a c k : Int) (w : World) (hs : s.size ≤ 1048576) (h1 : a ≤ 536870912) (hk1 : -9223372036854775808 ≤ k) (hck : c + k ≤ 9223372036854775807) (sh : Shape s pos a c) :
    Calls Try.prog 9 #[.string s, .int .i64 pos, .int .i64 a, .int .i64 c, .int .i64 k] w (ModelPost s pos a c k w) := by
  have h0 := sh.2.1
  have hp := sh.1
  have hcol := shape_col sh
  have SH : Hid _ := sh
  have hc0 : 0 ≤ c := by omega
  have hc1 : c ≤ 536870915 := by omega
  have KR : Hid _ := runEnd_any s pos a w hs hp h0 h1
  clear sh hcol
  by_cases k0 : k < 0
  · go_enter Try.func9, Try.ntmps9
    go_wp2_with fail
    refine Calls.mono KR.out ?_
    rintro e' w' ⟨l, rfl, rfl, hrun, hl⟩
    have rb := R_bd s pos a h0 l
    have hroom0 := room_le SH.out hrun
    obtain ⟨z, hz⟩ : ∃ z, z = R s pos a l := ⟨_, rfl⟩
    rw [← hz] at rb hroom0 ⊢
    have rb1 : 0 ≤ z := by omega
    have rb2 : z ≤ 541065216 := by omega
    have HZ : Hid _ := hz
    have HRUN : Hid _ := hrun
    clear hz hrun rb
    have hz0 : decide (z - c < 0) = false := decide_eq_false (by omega)
    have HREACH : Hid (c = c + advF (R s pos a l - c) k) := by show c = _; rw [← HZ.out]; unfold advF; rw [if_pos k0, if_neg (by omega)]; omega
    go_wp2
    go_loop [16, 17] (fun y x => ∃ n : Nat, pos + n ≤ s.size ∧ y = .int .i64 (pos + n : Nat) ∧ x = .int .i64 (R s pos a n) ∧ ∀ j, j < n → bl s pos j ∧ R s pos a (j + 1) ≤ c) (fun y _ => s.size - (intOf y).toNat)
    case atStart => exact ⟨0, by omega, rfl, rfl, fun j hj => by omega⟩
    case round =>
      obtain ⟨n, hn, rfl, rfl, hall⟩ := hrel
      have HALL : Hid _ := hall
      have rb := R_bd s pos a h0 n
      have RS : Hid _ := R_succ s pos a n
      obtain ⟨x, hx⟩ : ∃ x, x = R s pos a n := ⟨_, rfl⟩
      obtain ⟨q, hq⟩ : ∃ q, q = pos + n := ⟨_, rfl⟩
      have HX : Hid _ := hx
      have HQ : Hid _ := hq
      rw [← hx] at rb ⊢
      rw [← hq] at hn ⊢
      have xb1 : 0 ≤ x := by omega
      have xb2 : x ≤ 541065216 := by omega
      clear hall hx hq rb
      by_cases hlt : q < s.size
      · have hl : (q : Int) < (s.size : Int) := by omega
        have HB : Hid (byteAt s q = ((s[q]'hlt).toNat : Int)) := byteAt_eq s q hlt
        by_cases hb : blankB (byteAt s q) = true
        · obtain ⟨nb, hnb⟩ : ∃ nb, nb = stepF x ((s[q]'hlt).toNat : Int) := ⟨_, rfl⟩
          have KB : Hid (Calls Try.prog 16 #[.int .u8 ((s[q]'hlt).toNat : Int)] w fun e' w' => e' = .returned (.bool true) ∧ w = w') := by
            have := blank_any (byteAt s q) w; rw [hb, byteAt_eq s q hlt] at this; exact this
          have KS : Hid (Calls Try.prog 17 #[.int .i64 x, .int .u8 ((s[q]'hlt).toNat : Int)] w fun e' w' => e' = .returned (.int .i64 nb) ∧ w = w') := by rw [hnb]; exact step_any _ _ w xb1 (by omega)
          have HNB : Hid (nb = R s pos a (n + 1)) := by show nb = _; rw [RS.out, ← HX.out, ← HQ.out, HB.out]; exact hnb
          have B : Hid _ := hb
          clear hb hnb
          by_cases hfar : c < nb
          · go_wp2_with fail
            refine Calls.mono KB.out ?_
            rintro e' w' ⟨rfl, rfl⟩
            go_wp2_with fail
            refine Calls.mono KS.out ?_
            rintro e' w' ⟨rfl, rfl⟩
            go_wp2
            go_ret3
            exact model_mk HQ.out HX.out HREACH.out HRUN.out ⟨HALL.out, fun g => by have := g.2; rw [← HNB.out] at this; omega⟩ (by rw [← HQ.out]; exact hn)
          · have hfar' : decide (c < nb) = false := decide_eq_false hfar
            have hfar2 : nb ≤ c := by omega
            clear hfar
            go_wp2_with fail
            refine Calls.mono KB.out ?_
            rintro e' w' ⟨rfl, rfl⟩
            go_wp2_with fail
            refine Calls.mono KS.out ?_
            rintro e' w' ⟨rfl, rfl⟩
            go_wp2
            go_round
            case rel =>
              have hq := HQ.out
              subst hq
              exact ⟨n + 1, by omega, eq_num (by omega), by rw [HNB.out], ends_step HALL.out ⟨hlt, B.out⟩ (by rw [← HNB.out]; exact hfar2)⟩
            case measure => simp [intOf]; omega
        · have hbf : blankB (byteAt s q) = false := by simpa using hb
          have KB : Hid (Calls Try.prog 16 #[.int .u8 ((s[q]'hlt).toNat : Int)] w fun e' w' => e' = .returned (.bool false) ∧ w = w') := by
            have := blank_any (byteAt s q) w; rw [hbf, byteAt_eq s q hlt] at this; exact this
          have B : Hid _ := hb
          clear hb hbf
          go_wp2_with fail
          refine Calls.mono KB.out ?_
          rintro e' w' ⟨rfl, rfl⟩
          go_wp2
          go_ret3
          exact model_mk HQ.out HX.out HREACH.out HRUN.out ⟨HALL.out, fun g => by have := g.1.2; rw [← HQ.out] at this; exact B.out this⟩ (by rw [← HQ.out]; exact hn)
      · have hl : decide ((q : Int) < (s.size : Int)) = false := decide_eq_false (by omega)
        have hl2 : decide (q < s.size) = false := decide_eq_false hlt
        have hl3 : (s.size : Int) ≤ (q : Int) := by omega
        go_wp2
        go_ret3
        exact model_mk HQ.out HX.out HREACH.out HRUN.out ⟨HALL.out, fun g => by have := g.1.1; rw [← HQ.out] at this; exact hlt this⟩ (by rw [← HQ.out]; exact hn)
  · have k0' : decide (k < 0) = false := decide_eq_false k0
    have k0'' : 0 ≤ k := by omega
    clear k0
    go_enter Try.func9, Try.ntmps9
    go_wp2_with fail
    refine Calls.mono KR.out ?_
    rintro e' w' ⟨l, rfl, rfl, hrun, hl⟩
    have rb := R_bd s pos a h0 l
    have hroom0 := room_le SH.out hrun
    obtain ⟨z, hz⟩ : ∃ z, z = R s pos a l := ⟨_, rfl⟩
    rw [← hz] at rb hroom0 ⊢
    have rb1 : 0 ≤ z := by omega
    have rb2 : z ≤ 541065216 := by omega
    have HZ : Hid _ := hz
    have HRUN : Hid _ := hrun
    clear hz hrun rb
    by_cases hroom : z - c < k
    · have HREACH : Hid (c + (z - c) = c + advF (R s pos a l - c) k) := by show c + (z - c) = _; rw [← HZ.out]; unfold advF; rw [if_neg (show ¬ k < 0 by omega), if_pos hroom]
      go_wp2
      go_loop [16, 17] (fun y x => ∃ n : Nat, pos + n ≤ s.size ∧ y = .int .i64 (pos + n : Nat) ∧ x = .int .i64 (R s pos a n) ∧ ∀ j, j < n → bl s pos j ∧ R s pos a (j + 1) ≤ (c + (z - c))) (fun y _ => s.size - (intOf y).toNat)
      case atStart => exact ⟨0, by omega, rfl, rfl, fun j hj => by omega⟩
      case round =>
        obtain ⟨n, hn, rfl, rfl, hall⟩ := hrel
        have HALL : Hid _ := hall
        have rb := R_bd s pos a h0 n
        have RS : Hid _ := R_succ s pos a n
        obtain ⟨x, hx⟩ : ∃ x, x = R s pos a n := ⟨_, rfl⟩
        obtain ⟨q, hq⟩ : ∃ q, q = pos + n := ⟨_, rfl⟩
        have HX : Hid _ := hx
        have HQ : Hid _ := hq
        rw [← hx] at rb ⊢
        rw [← hq] at hn ⊢
        have xb1 : 0 ≤ x := by omega
        have xb2 : x ≤ 541065216 := by omega
        clear hall hx hq rb
        by_cases hlt : q < s.size
        · have hl : (q : Int) < (s.size : Int) := by omega
          have HB : Hid (byteAt s q = ((s[q]'hlt).toNat : Int)) := byteAt_eq s q hlt
          by_cases hb : blankB (byteAt s q) = true
          · obtain ⟨nb, hnb⟩ : ∃ nb, nb = stepF x ((s[q]'hlt).toNat : Int) := ⟨_, rfl⟩
            have KB : Hid (Calls Try.prog 16 #[.int .u8 ((s[q]'hlt).toNat : Int)] w fun e' w' => e' = .returned (.bool true) ∧ w = w') := by
              have := blank_any (byteAt s q) w; rw [hb, byteAt_eq s q hlt] at this; exact this
            have KS : Hid (Calls Try.prog 17 #[.int .i64 x, .int .u8 ((s[q]'hlt).toNat : Int)] w fun e' w' => e' = .returned (.int .i64 nb) ∧ w = w') := by rw [hnb]; exact step_any _ _ w xb1 (by omega)
            have HNB : Hid (nb = R s pos a (n + 1)) := by show nb = _; rw [RS.out, ← HX.out, ← HQ.out, HB.out]; exact hnb
            have B : Hid _ := hb
            clear hb hnb
            by_cases hfar : (c + (z - c)) < nb
            · go_wp2_with fail
              refine Calls.mono KB.out ?_
              rintro e' w' ⟨rfl, rfl⟩
              go_wp2_with fail
              refine Calls.mono KS.out ?_
              rintro e' w' ⟨rfl, rfl⟩
              go_wp2
              go_ret3
              exact model_mk HQ.out HX.out HREACH.out HRUN.out ⟨HALL.out, fun g => by have := g.2; rw [← HNB.out] at this; omega⟩ (by rw [← HQ.out]; exact hn)
            · have hfar' : decide ((c + (z - c)) < nb) = false := decide_eq_false hfar
              have hfar2 : nb ≤ (c + (z - c)) := by omega
              clear hfar
              go_wp2_with fail
              refine Calls.mono KB.out ?_
              rintro e' w' ⟨rfl, rfl⟩
              go_wp2_with fail
              refine Calls.mono KS.out ?_
              rintro e' w' ⟨rfl, rfl⟩
              go_wp2
              go_round
              case rel =>
                have hq := HQ.out
                subst hq
                exact ⟨n + 1, by omega, eq_num (by omega), by rw [HNB.out], ends_step HALL.out ⟨hlt, B.out⟩ (by rw [← HNB.out]; exact hfar2)⟩
              case measure => simp [intOf]; omega
          · have hbf : blankB (byteAt s q) = false := by simpa using hb
            have KB : Hid (Calls Try.prog 16 #[.int .u8 ((s[q]'hlt).toNat : Int)] w fun e' w' => e' = .returned (.bool false) ∧ w = w') := by
              have := blank_any (byteAt s q) w; rw [hbf, byteAt_eq s q hlt] at this; exact this
            have B : Hid _ := hb
            clear hb hbf
            go_wp2_with fail
            refine Calls.mono KB.out ?_
            rintro e' w' ⟨rfl, rfl⟩
            go_wp2
            go_ret3
            exact model_mk HQ.out HX.out HREACH.out HRUN.out ⟨HALL.out, fun g => by have := g.1.2; rw [← HQ.out] at this; exact B.out this⟩ (by rw [← HQ.out]; exact hn)
        · have hl : decide ((q : Int) < (s.size : Int)) = false := decide_eq_false (by omega)
          have hl2 : decide (q < s.size) = false := decide_eq_false hlt
          have hl3 : (s.size : Int) ≤ (q : Int) := by omega
          go_wp2
          go_ret3
          exact model_mk HQ.out HX.out HREACH.out HRUN.out ⟨HALL.out, fun g => by have := g.1.1; rw [← HQ.out] at this; exact hlt this⟩ (by rw [← HQ.out]; exact hn)
    · have hroom' : decide (z - c < k) = false := decide_eq_false hroom
      have hroom2 : k ≤ z - c := by omega
      have HREACH : Hid (c + k = c + advF (R s pos a l - c) k) := by show c + k = _; rw [← HZ.out]; unfold advF; rw [if_neg (show ¬ k < 0 by omega), if_neg hroom]
      clear hroom
      go_wp2
      go_loop [16, 17] (fun y x => ∃ n : Nat, pos + n ≤ s.size ∧ y = .int .i64 (pos + n : Nat) ∧ x = .int .i64 (R s pos a n) ∧ ∀ j, j < n → bl s pos j ∧ R s pos a (j + 1) ≤ (c + k)) (fun y _ => s.size - (intOf y).toNat)
      case atStart => exact ⟨0, by omega, rfl, rfl, fun j hj => by omega⟩
      case round =>
        obtain ⟨n, hn, rfl, rfl, hall⟩ := hrel
        have HALL : Hid _ := hall
        have rb := R_bd s pos a h0 n
        have RS : Hid _ := R_succ s pos a n
        obtain ⟨x, hx⟩ : ∃ x, x = R s pos a n := ⟨_, rfl⟩
        obtain ⟨q, hq⟩ : ∃ q, q = pos + n := ⟨_, rfl⟩
        have HX : Hid _ := hx
        have HQ : Hid _ := hq
        rw [← hx] at rb ⊢
        rw [← hq] at hn ⊢
        have xb1 : 0 ≤ x := by omega
        have xb2 : x ≤ 541065216 := by omega
        clear hall hx hq rb
        by_cases hlt : q < s.size
        · have hl : (q : Int) < (s.size : Int) := by omega
          have HB : Hid (byteAt s q = ((s[q]'hlt).toNat : Int)) := byteAt_eq s q hlt
          by_cases hb : blankB (byteAt s q) = true
          · obtain ⟨nb, hnb⟩ : ∃ nb, nb = stepF x ((s[q]'hlt).toNat : Int) := ⟨_, rfl⟩
            have KB : Hid (Calls Try.prog 16 #[.int .u8 ((s[q]'hlt).toNat : Int)] w fun e' w' => e' = .returned (.bool true) ∧ w = w') := by
              have := blank_any (byteAt s q) w; rw [hb, byteAt_eq s q hlt] at this; exact this
            have KS : Hid (Calls Try.prog 17 #[.int .i64 x, .int .u8 ((s[q]'hlt).toNat : Int)] w fun e' w' => e' = .returned (.int .i64 nb) ∧ w = w') := by rw [hnb]; exact step_any _ _ w xb1 (by omega)
            have HNB : Hid (nb = R s pos a (n + 1)) := by show nb = _; rw [RS.out, ← HX.out, ← HQ.out, HB.out]; exact hnb
            have B : Hid _ := hb
            clear hb hnb
            by_cases hfar : (c + k) < nb
            · go_wp2_with fail
              refine Calls.mono KB.out ?_
              rintro e' w' ⟨rfl, rfl⟩
              go_wp2_with fail
              refine Calls.mono KS.out ?_
              rintro e' w' ⟨rfl, rfl⟩
              go_wp2
              go_ret3
              exact model_mk HQ.out HX.out HREACH.out HRUN.out ⟨HALL.out, fun g => by have := g.2; rw [← HNB.out] at this; omega⟩ (by rw [← HQ.out]; exact hn)
            · have hfar' : decide ((c + k) < nb) = false := decide_eq_false hfar
              have hfar2 : nb ≤ (c + k) := by omega
              clear hfar
              go_wp2_with fail
              refine Calls.mono KB.out ?_
              rintro e' w' ⟨rfl, rfl⟩
              go_wp2_with fail
              refine Calls.mono KS.out ?_
              rintro e' w' ⟨rfl, rfl⟩
              go_wp2
              go_round
              case rel =>
                have hq := HQ.out
                subst hq
                exact ⟨n + 1, by omega, eq_num (by omega), by rw [HNB.out], ends_step HALL.out ⟨hlt, B.out⟩ (by rw [← HNB.out]; exact hfar2)⟩
              case measure => simp [intOf]; omega
          · have hbf : blankB (byteAt s q) = false := by simpa using hb
            have KB : Hid (Calls Try.prog 16 #[.int .u8 ((s[q]'hlt).toNat : Int)] w fun e' w' => e' = .returned (.bool false) ∧ w = w') := by
              have := blank_any (byteAt s q) w; rw [hbf, byteAt_eq s q hlt] at this; exact this
            have B : Hid _ := hb
            clear hb hbf
            go_wp2_with fail
            refine Calls.mono KB.out ?_
            rintro e' w' ⟨rfl, rfl⟩
            go_wp2
            go_ret3
            exact model_mk HQ.out HX.out HREACH.out HRUN.out ⟨HALL.out, fun g => by have := g.1.2; rw [← HQ.out] at this; exact B.out this⟩ (by rw [← HQ.out]; exact hn)
        · have hl : decide ((q : Int) < (s.size : Int)) = false := decide_eq_false (by omega)
          have hl2 : decide (q < s.size) = false := decide_eq_false hlt
          have hl3 : (s.size : Int) ≤ (q : Int) := by omega
          go_wp2
          go_ret3
          exact model_mk HQ.out HX.out HREACH.out HRUN.out ⟨HALL.out, fun g => by have := g.1.1; rw [← HQ.out] at this; exact hlt this⟩ (by rw [← HQ.out]; exact hn)

end Go.Proofs.Qxb6606384a
