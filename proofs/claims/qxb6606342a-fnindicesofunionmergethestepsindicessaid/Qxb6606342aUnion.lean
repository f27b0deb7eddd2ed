import Derived.Test.Qxb6606342aGrid
namespace Go.Proofs.Qxb6606342a
open Go.RowKit

/-- Whether one of the first k used steps is met by x. -/
def orF (L : Nat → Nat) (B : Nat → Nat → Bool) (J : Nat → Nat) : Nat → Nat → Bool
  | 0, _ => false
  | k + 1, x => orF L B J k x || (decide (x < L (J k)) && B (J k) x)

/-- What the row 'in' holds: behind k whole steps, and m places of the next. -/
def InUpto (L : Nat → Nat) (B : Nat → Nat → Bool) (J : Nat → Nat) (nn k m : Nat) (xs : List Value) : Prop :=
  ∀ x, x < nn → xs[x]? = some (.bool (orF L B J k x || (decide (x < m) && B (J k) x)))

theorem in_start (L : Nat → Nat) (B : Nat → Nat → Bool) (J : Nat → Nat) (nn : Nat) : InUpto L B J nn 0 0 (madeCells (Value.bool false).cells (nn * 1)).toList := by
  intro x hx
  show (madeCells #[Value.bool false] (nn * 1)).toList[x]? = _
  rw [toList_madeCells_one]
  simp [orF, hx]

theorem in_store {L : Nat → Nat} {B : Nat → Nat → Bool} {J : Nat → Nat} {nn k m : Nat} {xs : List Value} (h : InUpto L B J nn k m xs) (hl : xs.length = nn) (hm : m < nn) :
    InUpto L B J nn k (m + 1) (xs.set m (.bool (orF L B J k m || B (J k) m))) := by
  intro x hx
  by_cases e : x = m
  · subst e; simp [hl, hx]
  · rw [List.getElem?_set_ne (by omega), h x hx]
    have : decide (x < m + 1) = decide (x < m) := by simp; omega
    rw [this]

theorem in_next {L : Nat → Nat} {B : Nat → Nat → Bool} {J : Nat → Nat} {nn k : Nat} {xs : List Value} (h : InUpto L B J nn k (L (J k)) xs) : InUpto L B J nn (k + 1) 0 xs := by
  intro x hx
  rw [h x hx]
  simp [orF]

set_option maxRecDepth 20000 in
set_option maxHeartbeats 1600000 in
theorem union_any (nn : Nat) (a : Option Addr) (mlen mcap : Nat) (a2 : Option Addr) (ulen ucap : Nat) (A : Nat → Option Addr) (L C : Nat → Nat) (B : Nat → Nat → Bool) (Z : Nat → Int) (w : World)
    (hr : Reads w a mlen (rowAt A L C)) (hB : ∀ r, r < mlen → Reads w (A r) (L r) (fun i => .bool (B r i))) (hu : Reads w a2 ulen (fun i => .int .i64 (Z i))) (hF : Fits nn mlen ulen L Z) :
    Calls Try.prog 19 #[.int .i64 nn, .slice a mlen mcap, .slice a2 ulen ucap] w fun e w' => e = .returned (.slice (some ⟨w.heap.size, 0, none⟩) nn nn) ∧ Below w.heap.size w w' ∧ ∀ x, x < nn → w'.cell? ⟨w.heap.size, 0 + x, none⟩ = some (.bool (orF L B (fun i => (Z i).toNat) ulen x)) := by
  obtain ⟨b, off, ha, hc⟩ := reads_cells hr
  obtain ⟨b2, off2, ha2, hc2⟩ := reads_cells hu
  have HA : Hid _ := ha
  have HC : Hid _ := hc
  have HA2 : Hid _ := ha2
  have HC2 : Hid _ := hc2
  have HB : Hid _ := hB
  obtain ⟨f1, f2, f3, f4, f5, f6⟩ := hF
  have HF : Hid _ := f6
  have hnn : nn ≤ 65536 := by omega
  obtain ⟨J, hJ⟩ : ∃ J : Nat → Nat, J = fun i => (Z i).toNat := ⟨_, rfl⟩
  have HJ : Hid _ := hJ
  rw [← hJ]
  clear ha hc hr ha2 hc2 hu hB f5 f6 f1 f2 hJ
  obtain ⟨i0, hi, hz0, hz1, hz2⟩ := info_parts Try.info4
  go_enter Try.func19, Try.ntmps19
  go_wp2_with (at_make; refine wpList_make_full _ rfl _ _ 27 rfl w.heap.size 4 i0 (.bool false) 1 Try.underlying27 hi hz0 hz1 .i64 .i64 _ _ nn rfl rfl rfl rfl (by rw [hz2]; omega) (by unfold maxLen; omega) (Nat.le_refl _) ?_; intro w0 hown0 hgrow0)
  go_loopw [16] (fun i wr => ∃ (k : Nat) (xs : List Value), k ≤ ulen ∧ i = .int .i64 k ∧ wr.ownsRow w.heap.size 4 1 (.slice (some ⟨w.heap.size, 0, none⟩) nn nn) nn xs ∧ InUpto L B J nn k 0 xs ∧ Below w.heap.size w wr)
    (fun i _ => ulen - (intOf i).toNat)
  case atStart => exact ⟨0, _, Nat.zero_le _, rfl, hown0, in_start L B J nn, (Below.refl _ _).grown hgrow0 (Nat.le_refl _) (fun k h => by cases h)⟩
  case round =>
    obtain ⟨k, xs, hk, rfl, hown, hin, hnx⟩ := hrel
    clear hown0 hgrow0
    by_cases hlt : k < ulen
    · have hcu : wr.cell? ⟨b2, off2 + k, none⟩ = some (.int .i64 (Z k)) := by rw [hnx.cell (HC2.out k hlt).2]; exact (HC2.out k hlt).1
      obtain rfl := HA2.out (by omega)
      obtain ⟨z0, z1, z2⟩ := HF.out k hlt
      obtain ⟨j, hj⟩ : ∃ j : Nat, Z k = j := ⟨(Z k).toNat, by omega⟩
      have hJk : J k = j := by rw [HJ.out]; show (Z k).toNat = j; omega
      rw [hj] at hcu z1 z2
      rw [Int.toNat_natCast] at z2
      have hjm : j < mlen := by omega
      have hcm : wr.cell? ⟨b, off + j, none⟩ = some (.slice (A j) (L j) (C j)) := by rw [hnx.cell (HC.out j hjm).2]; exact (HC.out j hjm).1
      obtain rfl := HA.out (by omega)
      obtain ⟨br, offr, har, hcr⟩ := reads_cells (HB.out j hjm)
      obtain ⟨aj, haj⟩ : ∃ x, x = A j := ⟨_, rfl⟩
      obtain ⟨lj, hlj⟩ : ∃ x, x = L j := ⟨_, rfl⟩
      obtain ⟨cj, hcj⟩ : ∃ x, x = C j := ⟨_, rfl⟩
      rw [← haj, ← hlj, ← hcj] at hcm
      rw [← hlj] at z2 har hcr
      rw [← haj] at har
      have HAR : Hid _ := har
      have HCR : Hid _ := hcr
      have HJK : Hid _ := hJk
      have HLJ : Hid _ := hlj
      have KO : Hid _ := hown
      have KI : Hid _ := hin
      have KN : Hid _ := hnx
      clear haj hlj hcj har hcr hJk hown hin hnx hj z0
      go_wp2
      go_loopw [25] (fun i wr' => ∃ (m : Nat) (xs' : List Value), m ≤ lj ∧ i = .int .i64 m ∧ wr'.ownsRow w.heap.size 4 1 (.slice (some ⟨w.heap.size, 0, none⟩) nn nn) nn xs' ∧ InUpto L B J nn k m xs' ∧ Below w.heap.size w wr')
        (fun i _ => lj - (intOf i).toNat)
      case atStart => exact ⟨0, _, Nat.zero_le _, rfl, KO.out, KI.out, KN.out⟩
      case round =>
        obtain ⟨m, xs', hm, rfl, hown, hin, hnx⟩ := hrel
        by_cases hmlt : m < lj
        · have hcrow : wr.cell? ⟨br, offr + m, none⟩ = some (.bool (B j m)) := (hnx.cell (HCR.out m hmlt).2).trans (HCR.out m hmlt).1
          obtain rfl := HAR.out (by omega)
          have hmn : m < nn := by omega
          have hxl : xs'.length = nn := by simpa using hown.1
          have hcy : wr.cell? ⟨w.heap.size, m, none⟩ = some (.bool (orF L B J k m)) := by
            rw [hown.cellAt m (by omega), hin m hmn]
            simp
          have hfy : wr.frozen? ⟨w.heap.size, m, none⟩ = false := hown.frozenAt m
          have hst := hown.stored m (.bool (orF L B J k m || B j m))
          have hst1 := in_store hin hxl hmn
          rw [HJK.out] at hst1
          have B2 := hnx.setCell (p := ⟨w.heap.size, m, none⟩) (Nat.le_refl _) (.bool (orF L B J k m || B j m))
          have R : Hid _ := And.intro hst.1 (And.intro hst1 B2)
          obtain ⟨o, ho⟩ : ∃ o, o = orF L B J k m := ⟨_, rfl⟩
          obtain ⟨c, hcb⟩ : ∃ c, c = B j m := ⟨_, rfl⟩
          rw [← ho] at hcy R
          rw [← hcb] at hcrow R
          clear hst hst1 B2 hown hin hnx hxl ho hcb KO KI KN
          cases o
          · simp only [Bool.false_or] at R
            go_wp2
            go_roundw
            case rel => exact ⟨m + 1, _, by omega, by go_num, R.out.1, R.out.2.1, R.out.2.2⟩
            case measure => simp [intOf]; omega
          · simp only [Bool.true_or] at R
            go_wp2
            go_roundw
            case rel => exact ⟨m + 1, _, by omega, by go_num, R.out.1, R.out.2.1, R.out.2.2⟩
            case measure => simp [intOf]; omega
        · have FIN : Hid (InUpto L B J nn (k + 1) 0 xs') := by
            refine in_next ?_
            rw [HJK.out, ← HLJ.out, show lj = m by omega]
            exact hin
          clear hin KO KI KN
          go_wp2
          go_roundw
          case rel => exact ⟨k + 1, _, by omega, by go_num, hown, FIN.out, hnx⟩
          case measure => simp [intOf]; omega
    · obtain rfl : k = ulen := by omega
      go_wp2
      go_ret
      refine ⟨rfl, hnx, fun x hx => ?_⟩
      rw [Nat.zero_add, hown.cellAt x (by omega), hin x hx]
      simp

set_option maxHeartbeats 400000 in
theorem zzUnion_any (nn : Nat) (a : Option Addr) (mlen mcap : Nat) (a2 : Option Addr) (ulen ucap : Nat) (A : Nat → Option Addr) (L C : Nat → Nat) (B : Nat → Nat → Bool) (Z : Nat → Int) (w : World)
    (hr : Reads w a mlen (rowAt A L C)) (hB : ∀ r, r < mlen → Reads w (A r) (L r) (fun i => .bool (B r i))) (hu : Reads w a2 ulen (fun i => .int .i64 (Z i))) (hF : Fits nn mlen ulen L Z) :
    Calls Try.prog 11 #[.int .i64 nn, .slice a mlen mcap, .slice a2 ulen ucap] w fun e w' => e = .returned (.slice (some ⟨w.heap.size, 0, none⟩) nn nn) ∧ Below w.heap.size w w' ∧ Reads w' (some ⟨w.heap.size, 0, none⟩) nn (fun x => .bool (orF L B (fun i => (Z i).toNat) ulen x)) := by
  have H : Hid _ := union_any nn a mlen mcap a2 ulen ucap A L C B Z w hr hB hu hF
  clear hr hB hu hF
  go_enter Try.func11, Try.ntmps11
  go_wp2_with fail
  refine Calls.mono H.out ?_
  rintro e w' ⟨rfl, hbel, hcell⟩
  have R : Hid _ := And.intro hbel hcell
  clear hbel hcell
  go_wp2
  go_ret
  exact ⟨rfl, R.out.1, .inr ⟨_, 0, rfl, R.out.2⟩⟩

end Go.Proofs.Qxb6606342a
