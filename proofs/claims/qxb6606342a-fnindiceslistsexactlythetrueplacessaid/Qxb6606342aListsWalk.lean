import Derived.Test.Qxb6606342aBools
namespace Go.Proofs.Qxb6606342a.fnIndicesListsExactlyTheTruePlaces
open Go.RowKit

/-! ### THE PLAIN LAW -/
theorem trues_prefix (B : Nat → Bool) (k n : Nat) (h : k ≤ n) : ∃ r, trues B n = trues B k ++ r ∧ ∀ x ∈ r, k ≤ x ∧ B x = true := by
  induction n with
  | zero => obtain rfl : k = 0 := by omega
            exact ⟨[], by simp, by simp⟩
  | succ n ih =>
    by_cases e : k = n + 1
    · subst e; exact ⟨[], by simp, by simp⟩
    · obtain ⟨r, h1, h2⟩ := ih (by omega)
      refine ⟨r ++ (if B n then [n] else []), by rw [trues_succ, h1, List.append_assoc], fun x hx => ?_⟩
      rcases List.mem_append.1 hx with hx | hx
      · exact h2 x hx
      · by_cases hb : B n = true
        · simp [hb] at hx; subst hx; exact ⟨by omega, hb⟩
        · simp [hb] at hx

theorem at_true (B : Nat → Bool) (k n : Nat) (h : k < n) (hb : B k = true) : (trues B k).length < (trues B n).length ∧ (trues B n).getD (trues B k).length 0 = k := by
  obtain ⟨r, h1, _⟩ := trues_prefix B (k + 1) n h
  have h2 : trues B n = trues B k ++ (k :: r) := by rw [h1, trues_succ, hb]; simp
  rw [h2]
  simp

theorem at_false (B : Nat → Bool) (k n : Nat) (h : k < n) (hb : B k = false) (hl : (trues B k).length < (trues B n).length) : (trues B n).getD (trues B k).length 0 ≠ k := by
  obtain ⟨r, h1, h2⟩ := trues_prefix B k n (by omega)
  rw [h1] at hl ⊢
  match r, h2, hl with
  | [], _, hl => simp at hl
  | x :: r, h2, _ =>
    intro e
    have e' : x = k := by simpa using e
    have := (h2 x (by simp)).2
    rw [e', hb] at this
    simp at this

theorem len_le (B : Nat → Bool) (k n : Nat) (h : k ≤ n) : (trues B k).length ≤ (trues B n).length := by
  obtain ⟨r, h1, _⟩ := trues_prefix B k n h
  rw [h1]; simp

theorem n23 (w : World) (a : Option Addr) (n c n' c' : Nat) : (binOp .neq 23 (.slice a n c) (.slice none n' c')).run Try.prog w = .ok (.bool (!a.isNone)) w := run_neq_slice_nil_any w _ _ a n c n' c' Try.underlying23

set_option maxHeartbeats 1000000 in
theorem walk (a0 : Option Addr) (len0 cap0 : Nat) (B : Nat → Bool) (w : World) (w0 : IsBools w a0 len0 cap0 B) :
    Calls Try.prog 5 #[.slice a0 len0 cap0] w fun e w' => e = .returned (.bool true) ∧ Below w.heap.size w w' := by
  by_cases hlen : len0 ≤ 1048576
  · have hcl : Hid _ := cloneB_any a0 len0 cap0 B w w0 hlen
    clear w0
    have hl1 : decide ((1048576 : Int) < (len0 : Int)) = false := decide_eq_false (by omega)
    have hl2 : (len0 : Int) ≤ 1048576 := by omega
    have hn := n23
    go_enter Try.func5, Try.ntmps5
    go_wp2_with fail
    refine (size_ok16 _ _ _ _ hlen).mono ?_
    rintro e w' ⟨rfl, rfl⟩
    go_wp2_with fail
    refine Calls.mono hcl.out ?_
    rintro e w1 ⟨a', cap', rfl, hcap', hbel, hrd, hbk⟩
    have KK : Hid _ := zzIndices_any a' len0 cap' B w1 hlen hrd
    have HR : Hid _ := And.intro hrd hbk
    clear hrd hbk
    go_wp2_with fail
    refine Calls.mono KK.out ?_
    rintro e w2 ⟨v, rfl, hL, hbel2⟩
    have HB : Hid (Below w.heap.size w w2) := hbel.trans (hbel2.mono hbel.size)
    -- the clone's cells, as they stand now
    obtain ⟨b, off, hcell⟩ : ∃ b off, 0 < len0 → a' = some ⟨b, off, none⟩ ∧ ∀ i, i < len0 → w2.cell? ⟨b, off + i, none⟩ = some (.bool (B i)) := by
      rcases HR.out.1 with h | ⟨b, off, h, hc⟩
      · exact ⟨0, 0, fun g => by omega⟩
      · exact ⟨b, off, fun g => ⟨h, fun i hi => (hbel2.cell (World.block_lt_of_cell? w1 _ (hc i hi))).trans (hc i hi)⟩⟩
    have HL := trues_len B len0
    rcases hL with ⟨hnone, hv⟩ | ⟨hsome, g, cp, hv, hg1, hg2, hcp, hx⟩
    · rw [hv]
      have HF : Hid (∀ k, k < len0 → B k = false) := fun k hk => by
        by_cases hb : B k = true
        · have := (at_true B k len0 hk hb).1; rw [hnone] at this; simp at this
        · simpa using hb
      clear hnone hv HL hbel hbel2
      by_cases h0 : 0 < len0
      · have hcl2 := (hcell h0).2
        have ha : Hid (a' = some ⟨b, off, none⟩) := (hcell h0).1
        clear hcell
        rw [ha.out]
        go_wp2
        go_loop [4, 5] (fun j x => ∃ k : Nat, k ≤ len0 ∧ x = .int .i64 k ∧ j = .int .i64 0) (fun _ x => len0 - (intOf x).toNat)
        case atStart => exact ⟨0, by omega, rfl, rfl⟩
        case round =>
          obtain ⟨k, hk, rfl, rfl⟩ := hrel
          by_cases hlt : k < len0
          · have hck : w2.cell? ⟨b, off + k, none⟩ = some (.bool false) := by rw [hcl2 k hlt, HF.out k hlt]
            clear hcl2
            go_wp2
            go_round
            case rel => exact ⟨k + 1, by omega, by go_num, rfl⟩
            case measure => simp [intOf]; omega
          · go_wp2
            go_ret
            exact ⟨rfl, HB.out⟩
      · obtain rfl : len0 = 0 := by omega
        go_wp2
        refine wp_loop_rounds 1 ?_
        rw [rounds_succ]
        go_wp2
        go_ret
        exact ⟨rfl, HB.out⟩
    · rw [hv]
      have h0 : 0 < len0 := by
        have : 0 < (trues B len0).length := List.length_pos_iff.2 hsome
        omega
      have hcl2 := (hcell h0).2
      have ha : Hid (a' = some ⟨b, off, none⟩) := (hcell h0).1
      clear hcell hv hbel hbel2
      rw [ha.out]
      obtain ⟨m, hm⟩ : ∃ m, m = (trues B len0).length := ⟨_, rfl⟩
      have hm0 : ((m : Int) == 0) = false := by
        have : 0 < (trues B len0).length := List.length_pos_iff.2 hsome
        simp; omega
      have HT : Hid (∀ k, k < len0 → B k = true → (trues B k).length < m ∧ (trues B len0).getD (trues B k).length 0 = k) := fun k hk hb => by rw [hm]; exact at_true B k len0 hk hb
      have HF : Hid (∀ k, k < len0 → B k = false → (trues B k).length < m → (trues B len0).getD (trues B k).length 0 ≠ k) := fun k hk hb hl => by rw [hm] at hl; exact at_false B k len0 hk hb hl
      have HM : Hid (∀ k, k ≤ len0 → (trues B k).length ≤ m) := fun k hk => by rw [hm]; exact len_le B k len0 hk
      have HX : Hid _ := hx
      have HMM : Hid _ := hm
      have hml : m ≤ 1048576 := by omega
      rw [← hm]
      clear hx hm HL hsome hcp
      go_wp2
      go_loop [4, 5] (fun j x => ∃ k : Nat, k ≤ len0 ∧ x = .int .i64 k ∧ j = .int .i64 (trues B k).length) (fun _ x => len0 - (intOf x).toNat)
      case atStart => exact ⟨0, by omega, rfl, rfl⟩
      case round =>
        obtain ⟨k, hk, rfl, rfl⟩ := hrel
        have HS : Hid _ := trues_succ B k
        have hjm := HM.out k hk
        by_cases hlt : k < len0
        · have hck := hcl2 k hlt
          clear hcl2
          obtain ⟨jn, hj⟩ : ∃ jn, jn = (trues B k).length := ⟨_, rfl⟩
          rw [← hj] at hjm ⊢
          have HJ : Hid _ := hj
          by_cases hb : B k = true
          · have h1 := HT.out k hlt hb
            have hxc := HX.out jn (by rw [← HMM.out, hj]; exact h1.1)
            rw [hj, h1.2, ← hj, Nat.zero_add] at hxc
            have hjl : jn < m := by rw [hj]; exact h1.1
            rw [hb] at hck
            have HB2 : Hid _ := hb
            clear h1 hb hj
            go_wp2
            go_round
            case rel => exact ⟨k + 1, by omega, by go_num, by rw [HS.out, HB2.out]; simp; rw [← HJ.out]⟩
            case measure => simp [intOf]; omega
          · have hbf : B k = false := by simpa using hb
            rw [hbf] at hck
            have HB2 : Hid _ := hbf
            have HF2 := HF.out k hlt hbf
            clear hb hbf
            have fin : (trues B (k + 1)).length = jn := by rw [HS.out, HB2.out]; simp; exact HJ.out.symm
            have FIN : Hid _ := fin
            clear fin
            by_cases hjl : jn < m
            · have hxc := HX.out jn (by rw [← HMM.out]; exact hjl)
              have hne := HF2 (by rw [← hj]; exact hjl)
              rw [← hj] at hne
              rw [Nat.zero_add] at hxc
              obtain ⟨t, ht⟩ : ∃ t, t = (trues B len0).getD jn 0 := ⟨_, rfl⟩
              rw [← ht] at hxc hne
              have hte : ((t : Int) == (k : Int)) = false := by simp; omega
              clear HF2 hj ht hne
              go_wp2
              go_round
              case rel => exact ⟨k + 1, by omega, by go_num, by rw [FIN.out]⟩
              case measure => simp [intOf]; omega
            · have hjl' : decide ((jn : Int) < (m : Int)) = false := decide_eq_false (by omega)
              clear HF2 hj
              go_wp2
              go_round
              case rel => exact ⟨k + 1, by omega, by go_num, by rw [FIN.out]⟩
              case measure => simp [intOf]; omega
        · obtain rfl : k = len0 := by omega
          rw [← HMM.out]
          go_wp2
          go_ret
          exact ⟨by simp, HB.out⟩
  · go_enter Try.func5, Try.ntmps5
    go_wp2_with fail
    refine (size_no16 _ _ _ _ (by omega)).mono ?_
    rintro e w' ⟨rfl, rfl⟩
    go_wp2
    go_ret
    exact ⟨rfl, Below.refl _ _⟩

end Go.Proofs.Qxb6606342a.fnIndicesListsExactlyTheTruePlaces
