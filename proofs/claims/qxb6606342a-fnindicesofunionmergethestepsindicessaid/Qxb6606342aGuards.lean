import Derived.Test.Qxb6606342aInts
namespace Go.Proofs.Qxb6606342a
open Go.RowKit

/-- The rows of a grid as values. -/
def rowAt (A : Nat → Option Addr) (L C : Nat → Nat) (r : Nat) : Value := .slice (A r) (L r) (C r)

/-- A guard has answered: a bool, the world as it was; true only where P holds. -/
def Guard (w : World) (P : Prop) (e : Ending) (w' : World) : Prop := ∃ β, e = .returned (.bool β) ∧ w = w' ∧ (β = true → P)

theorem guard_no {w : World} {P : Prop} : Guard w P (.returned (.bool false)) w := ⟨false, rfl, rfl, fun h => by cases h⟩
theorem guard_yes {w : World} {P : Prop} (h : P) : Guard w P (.returned (.bool true)) w := ⟨true, rfl, rfl, fun _ => h⟩

set_option maxHeartbeats 800000 in
theorem bytes_any (n : Int) (a : Option Addr) (len cap : Nat) (a2 : Option Addr) (n2 c2 : Nat) (A : Nat → Option Addr) (L C : Nat → Nat) (w : World) (hr : Reads w a len (rowAt A L C)) :
    Calls Try.prog 12 #[.int .i64 n, .slice a len cap, .slice a2 n2 c2] w (Guard w True) := by
  obtain ⟨b, off, ha, hc⟩ := reads_cells hr
  have HA : Hid _ := ha
  have HC : Hid _ := hc
  clear ha hc hr
  by_cases hbig : (1048576 : Int) < (len : Int)
  · go_enter Try.func12, Try.ntmps12
    go_wp2
    go_ret
    first | exact guard_no | exact guard_yes trivial
  · have hl1 : decide ((1048576 : Int) < (len : Int)) = false := decide_eq_false hbig
    have hl2 : (len : Int) ≤ 1048576 := by omega
    clear hbig
    go_enter Try.func12, Try.ntmps12
    go_wp2
    go_loop [7, 8] (fun z i => ∃ k s : Nat, k ≤ len ∧ i = .int .i64 k ∧ z = .int .i64 s ∧ s ≤ 1048576) (fun _ i => len - (intOf i).toNat)
    case atStart => exact ⟨0, len, Nat.zero_le _, rfl, rfl, by omega⟩
    case round =>
      obtain ⟨k, s, hk, rfl, rfl, hs⟩ := hrel
      by_cases hlt : k < len
      · have hck : w.cell? ⟨b, off + k, none⟩ = some (.slice (A k) (L k) (C k)) := (HC.out k hlt).1
        obtain rfl := HA.out (by omega)
        obtain ⟨l, hl⟩ : ∃ l, l = L k := ⟨_, rfl⟩
        rw [← hl] at hck
        clear hl
        go_wp2
        · go_ret
          first | exact guard_no | exact guard_yes trivial
        · go_ret
          first | exact guard_no | exact guard_yes trivial
        · go_round
          case rel => exact ⟨k + 1, s + l, by omega, by go_num, by go_num, by omega⟩
          case measure => simp [intOf]; omega
      · go_wp2
        all_goals
          go_ret
          first | exact guard_no | exact guard_yes trivial

/-- What zzUnionFits vouches for. -/
def Fits (n : Int) (mlen ulen : Nat) (L : Nat → Nat) (Z : Nat → Int) : Prop :=
  0 ≤ n ∧ n ≤ 65536 ∧ ulen ≤ 4096 ∧ mlen ≤ 43690 ∧ (∀ r, r < mlen → L r ≤ 1048576) ∧ ∀ k, k < ulen → 0 ≤ Z k ∧ Z k < mlen ∧ (L (Z k).toNat : Int) ≤ n

set_option maxRecDepth 20000 in
set_option maxHeartbeats 1600000 in
theorem fits_any (n : Int) (a : Option Addr) (mlen mcap : Nat) (a2 : Option Addr) (ulen ucap : Nat) (A : Nat → Option Addr) (L C : Nat → Nat) (Z : Nat → Int) (w : World)
    (hr : Reads w a mlen (rowAt A L C)) (hu : Reads w a2 ulen (fun i => .int .i64 (Z i))) :
    Calls Try.prog 8 #[.int .i64 n, .slice a mlen mcap, .slice a2 ulen ucap] w (Guard w (Fits n mlen ulen L Z)) := by
  obtain ⟨b, off, ha, hc⟩ := reads_cells hr
  obtain ⟨b2, off2, ha2, hc2⟩ := reads_cells hu
  have HA : Hid _ := ha
  have HC : Hid _ := hc
  have HA2 : Hid _ := ha2
  have HC2 : Hid _ := hc2
  clear ha hc hr ha2 hc2 hu
  by_cases n0 : n < 0
  · go_enter Try.func8, Try.ntmps8
    go_wp2
    go_ret
    exact guard_no
  by_cases n1 : 65536 < n
  · go_enter Try.func8, Try.ntmps8
    go_wp2
    go_ret
    exact guard_no
  have d0 : decide (n < 0) = false := decide_eq_false n0
  have d1 : decide ((65536 : Int) < n) = false := decide_eq_false n1
  have n0' : 0 ≤ n := by omega
  have n1' : n ≤ 65536 := by omega
  clear n0 n1
  by_cases u1 : (4096 : Int) < (ulen : Int)
  · go_enter Try.func8, Try.ntmps8
    go_wp2
    go_ret
    exact guard_no
  have d2 : decide ((4096 : Int) < (ulen : Int)) = false := decide_eq_false u1
  have u1' : (ulen : Int) ≤ 4096 := by omega
  clear u1
  by_cases m1 : (43690 : Int) < (mlen : Int)
  · go_enter Try.func8, Try.ntmps8
    go_wp2
    go_ret
    exact guard_no
  have d3 : decide ((43690 : Int) < (mlen : Int)) = false := decide_eq_false m1
  have m1' : (mlen : Int) ≤ 43690 := by omega
  clear m1
  by_cases g1 : 1048576 - (mlen : Int) * 24 - (ulen : Int) * 8 < 0
  · go_enter Try.func8, Try.ntmps8
    go_wp2
    go_ret
    exact guard_no
  have d4 : decide (1048576 - (mlen : Int) * 24 - (ulen : Int) * 8 < 0) = false := decide_eq_false g1
  have g1' : 0 ≤ 1048576 - (mlen : Int) * 24 - (ulen : Int) * 8 := by omega
  clear g1
  go_enter Try.func8, Try.ntmps8
  go_wp2
  go_loop [7, 8] (fun z i => ∃ k s : Nat, k ≤ mlen ∧ i = .int .i64 k ∧ z = .int .i64 s ∧ s ≤ 1048576 ∧ ∀ r, r < k → L r ≤ 1048576) (fun _ i => mlen - (intOf i).toNat)
  case atStart => exact ⟨0, (1048576 - (mlen : Int) * 24 - (ulen : Int) * 8).toNat, Nat.zero_le _, rfl, by go_num, by omega, fun r hr => by omega⟩
  case round =>
    obtain ⟨k, s, hk, rfl, rfl, hs, hall⟩ := hrel
    have HALL : Hid _ := hall
    clear hall
    by_cases hlt : k < mlen
    · have hck : w.cell? ⟨b, off + k, none⟩ = some (.slice (A k) (L k) (C k)) := (HC.out k hlt).1
      obtain rfl := HA.out (by omega)
      obtain ⟨l, hl⟩ : ∃ l, l = L k := ⟨_, rfl⟩
      rw [← hl] at hck
      have HL : Hid _ := hl
      clear hl
      go_wp2
      · go_ret
        exact guard_no
      · go_round
        case rel =>
          refine ⟨k + 1, s - l, by omega, by go_num, by go_num, by omega, fun r hr => ?_⟩
          by_cases e : r = k
          · subst e; rw [← HL.out]; omega
          · exact HALL.out r (by omega)
        case measure => simp [intOf]; omega
    · have HM : Hid (∀ r, r < mlen → L r ≤ 1048576) := fun r hr => HALL.out r (by omega)
      clear HALL
      go_wp2
      go_loop [9] (fun i => ∃ k : Nat, k ≤ ulen ∧ i = .int .i64 k ∧ ∀ j, j < k → 0 ≤ Z j ∧ Z j < mlen ∧ (L (Z j).toNat : Int) ≤ n) (fun i => ulen - (intOf i).toNat)
      case atStart => exact ⟨0, Nat.zero_le _, rfl, fun r hr => by omega⟩
      case round =>
        obtain ⟨k2, hk2, rfl, hall⟩ := hrel
        have HALL : Hid _ := hall
        clear hall
        by_cases hlt2 : k2 < ulen
        · have hcu : w.cell? ⟨b2, off2 + k2, none⟩ = some (.int .i64 (Z k2)) := (HC2.out k2 hlt2).1
          obtain rfl := HA2.out (by omega)
          obtain ⟨z, hz⟩ : ∃ z, z = Z k2 := ⟨_, rfl⟩
          rw [← hz] at hcu
          have HZ : Hid _ := hz
          clear hz
          by_cases z0 : z < 0
          · go_wp2
            go_ret
            exact guard_no
          by_cases z1 : (mlen : Int) ≤ z
          · go_wp2
            go_ret
            exact guard_no
          obtain ⟨j, rfl⟩ : ∃ j : Nat, z = j := ⟨z.toNat, by omega⟩
          have hjm : j < mlen := by omega
          have hcj : w.cell? ⟨b, off + j, none⟩ = some (.slice (A j) (L j) (C j)) := (HC.out j hjm).1
          obtain rfl := HA.out (by omega)
          obtain ⟨l, hl⟩ : ∃ l, l = L j := ⟨_, rfl⟩
          rw [← hl] at hcj
          have HL : Hid _ := hl
          clear hl
          go_wp2
          · go_ret
            exact guard_no
          · go_round
            case rel =>
              refine ⟨k2 + 1, by omega, by go_num, fun r hr => ?_⟩
              by_cases e : r = k2
              · subst e; rw [← HZ.out, Int.toNat_natCast, ← HL.out]; omega
              · exact HALL.out r (by omega)
            case measure => simp [intOf]; omega
        · have FIN : Hid (Fits n mlen ulen L Z) := ⟨n0', n1', by omega, by omega, HM.out, fun j hj => HALL.out j (by omega)⟩
          clear HM HALL
          go_wp2
          go_ret
          exact guard_yes FIN.out

end Go.Proofs.Qxb6606342a
