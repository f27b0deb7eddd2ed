import Derived.Test.Qxb6003666aClone
namespace Go.Proofs.Qxb6003666a
open Go.RowKit
set_option linter.unusedVariables false

/-- A guard has answered: a bool, the world as it was; true only where P holds. -/
def Guard (w : World) (P : Prop) (e : Ending) (w' : World) : Prop := ∃ β, e = .returned (.bool β) ∧ w = w' ∧ (β = true → P)

theorem guard_no {w : World} {P : Prop} : Guard w P (.returned (.bool false)) w := ⟨false, rfl, rfl, fun h => by cases h⟩
theorem guard_yes {w : World} {P : Prop} (h : P) : Guard w P (.returned (.bool true)) w := ⟨true, rfl, rfl, fun _ => h⟩

/-- What the bound on total length vouches for. -/
def Small (n m : Nat) (Pf Ns Pr : Nat → ByteArray) : Prop := (∀ i, i < n → (Pf i).size ≤ 1048576 ∧ (Ns i).size ≤ 1048576) ∧ ∀ j, j < m → (Pr j).size ≤ 1048576

theorem op_cells {w : World} {b off n : Nat} {Kd : Nat → Int} {Pf Ns : Nat → ByteArray} (h : ∀ i, i < n * 3 → w.cell? ⟨b, off + i, none⟩ = some (opCell Kd Pf Ns i) ∧ b < w.heap.size) (k : Nat) (hk : k < n) :
    w.cell? ⟨b, off + k * 3, none⟩ = some (.int .u8 (Kd k)) ∧ w.cell? ⟨b, off + k * 3 + 1, none⟩ = some (.string (Pf k)) ∧ w.cell? ⟨b, off + k * 3 + 2, none⟩ = some (.string (Ns k)) ∧ b < w.heap.size := by
  have h0 := h (k * 3) (by omega)
  have h1 := h (k * 3 + 1) (by omega)
  have h2 := h (k * 3 + 2) (by omega)
  refine ⟨?_, ?_, ?_, h0.2⟩
  · rw [h0.1]; unfold opCell
    rw [if_pos (by omega), show k * 3 / 3 = k by omega]
  · rw [Nat.add_assoc, h1.1]; unfold opCell
    rw [if_neg (by omega), if_pos (by omega), show (k * 3 + 1) / 3 = k by omega]
  · rw [Nat.add_assoc, h2.1]; unfold opCell
    rw [if_neg (by omega), if_neg (by omega), show (k * 3 + 2) / 3 = k by omega]

set_option maxRecDepth 100000 in
set_option maxHeartbeats 2000000 in
theorem bytes_any (a : Option Addr) (n cap : Nat) (a2 : Option Addr) (m cap2 : Nat) (Kd : Nat → Int) (Pf Ns Pr : Nat → ByteArray) (w : World) (h1 : CellsR w a (n * 3) (opCell Kd Pf Ns)) (h2 : CellsR w a2 m (fun i => .string (Pr i))) :
    Calls Try.prog 16 #[.slice a n cap, .slice a2 m cap2] w (Guard w (Small n m Pf Ns Pr)) := by
  obtain ⟨b, off, ha, hc⟩ := cellsR_cells h1
  obtain ⟨b2, off2, ha2, hc2⟩ := cellsR_cells h2
  have HA : Hid _ := ha
  have HC : Hid _ := hc
  have HA2 : Hid _ := ha2
  have HC2 : Hid _ := hc2
  clear ha hc h1 ha2 hc2 h2
  by_cases hbig : (1048576 : Int) < (n : Int)
  · go_enter Try.func16, Try.ntmps16
    go_wp2
    go_ret
    exact guard_no
  have hl1 : decide ((1048576 : Int) < (n : Int)) = false := decide_eq_false hbig
  have hl2 : (n : Int) ≤ 1048576 := by omega
  clear hbig
  go_enter Try.func16, Try.ntmps16
  go_wp2
  go_loop [5, 6] (fun z i => ∃ k s : Nat, k ≤ n ∧ i = .int .i64 k ∧ z = .int .i64 s ∧ s ≤ 1048576 ∧ ∀ i, i < k → (Pf i).size ≤ 1048576 ∧ (Ns i).size ≤ 1048576) (fun _ i => n - (intOf i).toNat)
  case atStart => exact ⟨0, n, Nat.zero_le _, rfl, rfl, by omega, fun i hi => by omega⟩
  case round =>
    obtain ⟨k, s, hk, rfl, rfl, hs, hall⟩ := hrel
    have HALL : Hid _ := hall
    clear hall
    by_cases hlt : k < n
    · obtain ⟨_, c1, c2, _⟩ := op_cells HC.out k hlt
      obtain rfl := HA.out (by omega)
      obtain ⟨pf, hpf⟩ : ∃ x, x = Pf k := ⟨_, rfl⟩
      obtain ⟨nsx, hns⟩ : ∃ x, x = Ns k := ⟨_, rfl⟩
      rw [← hpf] at c1
      rw [← hns] at c2
      have HP : Hid _ := hpf
      have HN : Hid _ := hns
      have hl : (k : Int) < (n : Int) := by omega
      clear hpf hns
      go_wp2
      · go_ret
        exact guard_no
      · go_ret
        exact guard_no
      · go_ret
        exact guard_no
      · go_ret
        exact guard_no
      · go_round
        case rel =>
          refine ⟨k + 1, s + pf.size + nsx.size, by omega, by go_num, by go_num, by omega, fun i hi => ?_⟩
          by_cases e : i = k
          · subst e; rw [← HP.out, ← HN.out]; exact ⟨by omega, by omega⟩
          · exact HALL.out i (by omega)
        case measure => simp [intOf]; omega
    · have HM : Hid (∀ i, i < n → (Pf i).size ≤ 1048576 ∧ (Ns i).size ≤ 1048576) := fun i hi => HALL.out i (by omega)
      clear HALL
      by_cases hbig2 : (1048576 : Int) < (m : Int)
      · go_wp2
        go_ret
        exact guard_no
      have hm1 : decide ((1048576 : Int) < (m : Int)) = false := decide_eq_false hbig2
      have hm2 : (m : Int) ≤ 1048576 := by omega
      clear hbig2
      by_cases hbig3 : (1048576 : Int) < (s : Int) + (m : Int)
      · go_wp2
        go_ret
        exact guard_no
      have hm3 : decide ((1048576 : Int) < (s : Int) + (m : Int)) = false := decide_eq_false hbig3
      have hm4 : (s : Int) + (m : Int) ≤ 1048576 := by omega
      clear hbig3
      go_wp2
      go_loop [5, 7] (fun z i => ∃ j t : Nat, j ≤ m ∧ i = .int .i64 j ∧ z = .int .i64 t ∧ t ≤ 1048576 ∧ ∀ i, i < j → (Pr i).size ≤ 1048576) (fun _ i => m - (intOf i).toNat)
      case atStart => exact ⟨0, s + m, Nat.zero_le _, rfl, by go_num, by omega, fun i hi => by omega⟩
      case round =>
        obtain ⟨j, t, hj, rfl, rfl, ht, hall⟩ := hrel
        have HALL : Hid _ := hall
        clear hall
        by_cases hlt2 : j < m
        · have cj := (HC2.out j hlt2).1
          obtain rfl := HA2.out (by omega)
          obtain ⟨pr, hpr⟩ : ∃ x, x = Pr j := ⟨_, rfl⟩
          rw [← hpr] at cj
          have HP : Hid _ := hpr
          have hl3 : (j : Int) < (m : Int) := by omega
          clear hpr
          go_wp2
          · go_ret
            exact guard_no
          · go_ret
            exact guard_no
          · go_round
            case rel =>
              refine ⟨j + 1, t + pr.size, by omega, by go_num, by go_num, by omega, fun i hi => ?_⟩
              by_cases e : i = j
              · subst e; rw [← HP.out]; omega
              · exact HALL.out i (by omega)
            case measure => simp [intOf]; omega
        · have FIN : Hid (Small n m Pf Ns Pr) := ⟨HM.out, fun i hi => HALL.out i (by omega)⟩
          clear HM HALL
          go_wp2
          go_ret
          exact guard_yes FIN.out

end Go.Proofs.Qxb6003666a
