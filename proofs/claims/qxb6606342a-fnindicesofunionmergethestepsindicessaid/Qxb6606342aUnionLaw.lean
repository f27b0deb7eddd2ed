import Derived.Test.Qxb6606342aUnion
namespace Go.Proofs.Qxb6606342a.fnIndicesOfUnionMergeTheStepsIndices
open Go.RowKit

theorem orF_succ (L : Nat → Nat) (B : Nat → Nat → Bool) (J : Nat → Nat) (k : Nat) : orB (orF L B J k) (fun x => decide (x < L (J k)) && B (J k) x) = orF L B J (k + 1) := rfl

theorem trues_zero (L : Nat → Nat) (B : Nat → Nat → Bool) (J : Nat → Nat) (nn : Nat) : trues (orF L B J 0) nn = [] :=
  trues_jump (orF L B J 0) 0 nn (Nat.zero_le _) (fun _ _ _ => rfl)

theorem below_of {w w1 w2 : World} (h : Below w.heap.size w w1) (h' : Below w1.heap.size w1 w2) : Below w.heap.size w w2 := h.trans (h'.mono h.size)

set_option maxRecDepth 20000 in
set_option maxHeartbeats 2000000 in
theorem walk (n : Int) (a1 : Option Addr) (mlen mcap : Nat) (A : Nat → Option Addr) (L C : Nat → Nat) (B : Nat → Nat → Bool) (a2 : Option Addr) (ulen ucap : Nat) (Z : Nat → Int) (w : World)
    (hg : IsGrid w a1 mlen mcap A L C B) (hu : IsInts w a2 ulen ucap Z) :
    Calls Try.prog 4 #[.int .i64 n, .slice a1 mlen mcap, .slice a2 ulen ucap] w fun e w' => e = .returned (.bool true) ∧ Below w.heap.size w w' := by
  have HG : Hid _ := hg
  have HU : Hid _ := hu
  clear hg hu
  go_enter Try.func4, Try.ntmps4
  go_wp2_with fail
  refine Calls.mono (bytes_any n a1 mlen mcap a2 ulen ucap A L C w (reads_of_grid HG.out)) ?_
  rintro e w' ⟨β, rfl, rfl, _⟩
  cases β
  · go_wp2
    go_ret
    exact ⟨rfl, Below.refl _ _⟩
  go_wp2_with fail
  refine Calls.mono (fits_any n a1 mlen mcap a2 ulen ucap A L C Z w (reads_of_grid HG.out) (reads_of_ints HU.out)) ?_
  rintro e w' ⟨β, rfl, rfl, hF⟩
  cases β
  · clear hF
    go_wp2
    go_ret
    exact ⟨rfl, Below.refl _ _⟩
  have HF : Hid _ := hF rfl
  clear hF
  obtain ⟨nn, rfl⟩ : ∃ nn : Nat, n = nn := ⟨n.toNat, by have := HF.out.1; omega⟩
  have hnn : nn ≤ 65536 := by have := HF.out.2.1; omega
  have hul : ulen ≤ 4096 := HF.out.2.2.1
  have hml : mlen ≤ 43690 := HF.out.2.2.2.1
  go_wp2_with fail
  refine Calls.mono (cloneM_any a1 mlen mcap A L C B w HG.out hml HF.out.2.2.2.2.1) ?_
  rintro e w1 ⟨m', mc', A', C', rfl, hb1, hrm, hrows⟩
  have KU : Hid _ := cloneI_any a2 ulen ucap Z w1 (isInts_below HU.out hb1) (by omega)
  have M1 : Hid _ := And.intro hb1 (And.intro hrm hrows)
  clear hb1 hrm hrows HG HU
  go_wp2_with fail
  refine Calls.mono KU.out ?_
  rintro e w2 ⟨u', uc', rfl, hb2, hru⟩
  have B2 : Hid (Below w.heap.size w w2) := below_of M1.out.1 hb2
  have RM : Hid (Reads w2 m' mlen (rowAt A' L C')) := reads_below M1.out.2.1 hb2
  have RR : Hid (∀ r, r < mlen → Reads w2 (A' r) (L r) (fun i => .bool (B r i))) := fun r hr => reads_below (M1.out.2.2 r hr) hb2
  have RU : Hid _ := hru
  obtain ⟨b, off, ha, hc⟩ := reads_cells RM.out
  obtain ⟨b2, off2, ha2, hc2⟩ := reads_cells RU.out
  have HA : Hid _ := ha
  have HC : Hid _ := hc
  have HA2 : Hid _ := ha2
  have HC2 : Hid _ := hc2
  obtain ⟨J, hJ⟩ : ∃ J : Nat → Nat, J = fun i => (Z i).toNat := ⟨_, rfl⟩
  have HJ : Hid _ := hJ
  clear ha hc ha2 hc2 hru hb2 M1 KU hJ
  go_wp2
  go_loopw [7, 8] (fun acc i wr => ∃ k : Nat, k ≤ ulen ∧ i = .int .i64 k ∧ Row wr acc (trues (orF L B J k) nn) ∧ Below w2.heap.size w2 wr) (fun _ i _ => ulen - (intOf i).toNat)
  case atStart =>
    refine ⟨0, Nat.zero_le _, rfl, ?_, Below.refl _ _⟩
    have e0 : trues (orF L B J 0) nn = [] := trues_zero L B J nn
    rw [e0]
    exact ⟨none, 0, rfl, Nat.le_refl _, .inl rfl⟩
  case round =>
    obtain ⟨k, hk, rfl, ⟨aa, ac, hacc, hac, hra⟩, hnx⟩ := hrel
    rw [hacc]
    clear hacc
    by_cases hlt : k < ulen
    · have hcu : wr.cell? ⟨b2, off2 + k, none⟩ = some (.int .i64 (Z k)) := by rw [hnx.cell (HC2.out k hlt).2]; exact (HC2.out k hlt).1
      obtain rfl := HA2.out (by omega)
      obtain ⟨z0, z1, z2⟩ := HF.out.2.2.2.2.2 k hlt
      obtain ⟨j, hj⟩ : ∃ j : Nat, Z k = j := ⟨(Z k).toNat, by omega⟩
      have hJk : J k = j := by rw [HJ.out]; show (Z k).toNat = j; omega
      rw [hj] at hcu z1 z2
      rw [Int.toNat_natCast] at z2
      have hjm : j < mlen := by omega
      have hcm : wr.cell? ⟨b, off + j, none⟩ = some (.slice (A' j) (L j) (C' j)) := by rw [hnx.cell (HC.out j hjm).2]; exact (HC.out j hjm).1
      obtain rfl := HA.out (by omega)
      have KI : Hid _ := zzIndices_any (A' j) (L j) (C' j) (B j) wr (by omega) (reads_below (RR.out j hjm) hnx)
      have RA : Hid _ := hra
      have NX : Hid _ := hnx
      have JK : Hid _ := hJk
      have LJ : Hid (L j ≤ nn) := by show L j ≤ nn; omega
      clear hra hnx hJk hj z0 z2
      go_wp2_with fail
      refine Calls.mono KI.out ?_
      rintro e w3 ⟨v, rfl, hL, hb3⟩
      obtain ⟨av, cv, hv, hcv, hrv⟩ := row_of_lists hL
      rw [hv]
      have hsh := trues_short (B j) (L j) nn LJ.out
      have KM : Hid _ := merge_any aa av _ _ ac cv (orF L B J k) (fun x => decide (x < L j) && B j x) nn w3 hnn rfl (by rw [hsh]) (reads_below RA.out hb3) (by rw [hsh]; exact hrv)
      have B3 : Hid (Below w2.heap.size w2 w3) := below_of NX.out hb3
      clear hL hb3 hv hcv hrv KI hsh
      go_wp2_with fail
      refine Calls.mono KM.out ?_
      rintro e w4 ⟨v', rfl, hrow, hb4⟩
      have R : Hid _ := And.intro hrow (below_of B3.out hb4)
      clear hrow hb4
      go_wp2
      go_roundw
      case rel =>
        refine ⟨k + 1, by omega, by go_num, ?_, R.out.2⟩
        have := R.out.1
        rw [← orF_succ, JK.out]
        exact this
      case measure => simp [intOf]; omega
    · obtain rfl : k = ulen := by omega
      have KU : Hid _ := zzUnion_any nn m' mlen mc' u' k uc' A' L C' B Z wr (reads_below RM.out hnx) (fun r hr => reads_below (RR.out r hr) hnx) (reads_below RU.out hnx) HF.out
      have RA : Hid _ := hra
      have B3 : Hid (Below w.heap.size w wr) := below_of B2.out hnx
      clear hra hnx
      go_wp2_with fail
      refine Calls.mono KU.out ?_
      rintro e w3 ⟨rfl, hb3, hr3⟩
      have KI : Hid _ := zzIndices_any _ nn nn _ w3 (by omega) hr3
      have B4 : Hid _ := hb3
      clear hb3 hr3 KU
      go_wp2_with fail
      refine Calls.mono KI.out ?_
      rintro e w4 ⟨v, rfl, hL, hb4⟩
      have B5 : Hid (Below wr.heap.size wr w4) := below_of B4.out hb4
      have hrow := row_of_lists hL
      rw [← HJ.out] at hrow
      have KE : Hid _ := eq_any v (.slice aa (trues (orF L B J k) nn).length ac) (trues (orF L B J k) nn) w4 (by have := trues_len (orF L B J k) nn; omega) hrow ⟨aa, ac, rfl, hac, reads_below RA.out B5.out⟩
      clear hL hb4 hrow KI
      go_wp2_with fail
      refine Calls.mono KE.out ?_
      rintro e w5 ⟨rfl, q, rfl⟩
      go_wp2
      go_ret
      exact ⟨rfl, below_drewN (below_of B3.out B5.out) q⟩

end Go.Proofs.Qxb6606342a.fnIndicesOfUnionMergeTheStepsIndices
