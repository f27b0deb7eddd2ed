import Derived.Test.Qxb6606342aMerge
namespace Go.Proofs.Qxb6606342a
open Go.RowKit

theorem q23 (w : World) (a : Option Addr) (n c n' c' : Nat) : (binOp .eql 23 (.slice a n c) (.slice none n' c')).run Try.prog w = .ok (.bool a.isNone) w := Lib.run_eql_slice_nil w _ _ a n c n' c' Try.underlying23

/-! ### zzEqInts of two slices that list the same numbers -/
set_option maxHeartbeats 400000 in
theorem eq_empty (a1 a2 : Option Addr) (c1 c2 : Nat) (w : World) :
    Calls Try.prog 15 #[.slice a1 0 c1, .slice a2 0 c2] w fun e w' => e = .returned (.bool true) ∧ w = w' := by
  go_enter Try.func15, Try.ntmps15
  go_wp2
  refine wp_loop_rounds 1 ?_
  rw [rounds_succ]
  go_wp2
  go_ret
  exact ⟨rfl, rfl⟩

set_option maxHeartbeats 400000 in
theorem eq_some (b1 o1 b2 o2 n c1 c2 : Nat) (f : Nat → Int) (w : World) (hn : n ≤ 65536) (h1 : ∀ i, i < n → w.cell? ⟨b1, o1 + i, none⟩ = some (.int .i64 (f i))) (h2 : ∀ i, i < n → w.cell? ⟨b2, o2 + i, none⟩ = some (.int .i64 (f i))) :
    Calls Try.prog 15 #[.slice (some ⟨b1, o1, none⟩) n c1, .slice (some ⟨b2, o2, none⟩) n c2] w fun e w' => e = .returned (.bool true) ∧ ∃ q, w' = w.drewN q := by
  have H1 : Hid _ := h1
  have H2 : Hid _ := h2
  clear h1 h2
  go_enter Try.func15, Try.ntmps15
  go_wp2
  go_loopw [5] (fun i wr => ∃ (k : Nat) (q : Nat), k ≤ n ∧ i = .int .i64 k ∧ wr = w.drewN q) (fun i _ => n - (intOf i).toNat)
  case atStart => exact ⟨0, 0, Nat.zero_le _, rfl, rfl⟩
  case round =>
    obtain ⟨k, q, hk, rfl, rfl⟩ := hrel
    by_cases hlt : k < n
    · have g1 := H1.out k hlt
      have g2 := H2.out k hlt
      have hl : (k : Int) < (n : Int) := by omega
      go_wp2
      go_quiet (fail)
      go_wp2
      go_roundw
      case rel => exact ⟨k + 1, _, by omega, by go_num, rfl⟩
      case measure => simp [intOf]; omega
    · go_wp2
      go_ret
      exact ⟨rfl, q, rfl⟩

theorem eq_any (v1 v2 : Value) (l : List Nat) (w : World) (hl : l.length ≤ 65536) (h1 : Row w v1 l) (h2 : Row w v2 l) :
    Calls Try.prog 15 #[v1, v2] w fun e w' => e = .returned (.bool true) ∧ ∃ q, w' = w.drewN q := by
  obtain ⟨a1, c1, rfl, _, r1⟩ := h1
  obtain ⟨a2, c2, rfl, _, r2⟩ := h2
  by_cases h0 : l.length = 0
  · rw [h0]
    refine (eq_empty a1 a2 c1 c2 w).mono ?_
    rintro e w' ⟨rfl, rfl⟩
    exact ⟨rfl, 0, rfl⟩
  · rcases r1 with h | ⟨b1, o1, rfl, hc1⟩
    · omega
    rcases r2 with h | ⟨b2, o2, rfl, hc2⟩
    · omega
    exact eq_some b1 o1 b2 o2 l.length c1 c2 (fun i => ((l.getD i 0 : Nat) : Int)) w hl hc1 hc2

/-! ### zzCloneInts -/
set_option maxHeartbeats 400000 in
theorem cloneI_nil (w : World) : Calls Try.prog 10 #[.slice none 0 0] w fun e w' => e = .returned (.slice none 0 0) ∧ w = w' := by
  have q := q23
  go_enter Try.func10, Try.ntmps10
  go_wp2
  go_ret
  exact ⟨rfl, rfl⟩

set_option maxHeartbeats 400000 in
theorem cloneI_empty (x : Addr) (cap : Nat) (w : World) :
    Calls Try.prog 10 #[.slice (some x) 0 cap] w fun e w' => e = .returned (.slice (some ⟨w.heap.size, 0, none⟩) 0 0) ∧ Below w.heap.size w w' := by
  have q := q23
  obtain ⟨i0, hi, hz0, hz1, hz2⟩ := info_parts Try.info3
  go_enter Try.func10, Try.ntmps10
  go_wp2_with (at_make; refine wpList_make_full _ rfl _ _ 23 rfl w.heap.size 3 i0 (.int .i64 0) 1 Try.underlying23 hi hz0 hz1 .i64 .i64 _ _ 0 rfl rfl (by omega) (by omega) (by rw [hz2]; omega) (by unfold maxLen; omega) (Nat.le_refl _) ?_; intro w0 hown0 hgrow0)
  refine wp_loop_rounds 1 ?_
  rw [rounds_succ]
  go_wp2
  go_ret
  exact ⟨rfl, (Below.refl _ _).grown hgrow0 (Nat.le_refl _) (fun k h => by cases h)⟩

set_option maxHeartbeats 400000 in
theorem cloneI_some (b off len cap : Nat) (Z : Nat → Int) (w : World) (hlen : len ≤ 1048576) (hb : b < w.heap.size) (hc : ∀ i, i < len → w.cell? ⟨b, off + i, none⟩ = some (.int .i64 (Z i))) :
    Calls Try.prog 10 #[.slice (some ⟨b, off, none⟩) len cap] w fun e w' => e = .returned (.slice (some ⟨w.heap.size, 0, none⟩) len len) ∧ Below w.heap.size w w' ∧ ∀ i, i < len → w'.cell? ⟨w.heap.size, 0 + i, none⟩ = some (.int .i64 (Z i)) := by
  have q := q23
  obtain ⟨i0, hi, hz0, hz1, hz2⟩ := info_parts Try.info3
  go_enter Try.func10, Try.ntmps10
  go_wp2_with (at_make; refine wpList_make_full _ rfl _ _ 23 rfl w.heap.size 3 i0 (.int .i64 0) 1 Try.underlying23 hi hz0 hz1 .i64 .i64 _ _ len rfl rfl rfl rfl (by rw [hz2]; omega) (by unfold maxLen; omega) (Nat.le_refl _) ?_; intro w0 hown0 hgrow0)
  go_loopw [4] (fun i wr => ∃ (k : Nat) (xs : List Value), k ≤ len ∧ i = .int .i64 k ∧ wr.ownsRow w.heap.size 3 1 (.slice (some ⟨w.heap.size, 0, none⟩) len len) len xs ∧ Upto (fun i => .int .i64 (Z i)) k xs ∧ Below w.heap.size w wr)
    (fun i _ => len - (intOf i).toNat)
  case atStart => exact ⟨0, _, Nat.zero_le _, rfl, hown0, fun j hj => by omega, (Below.refl _ _).grown hgrow0 (Nat.le_refl _) (fun k h => by cases h)⟩
  case round =>
    obtain ⟨k, xs, hk, rfl, hown, hhalf, hnx⟩ := hrel
    have hxl : xs.length = len := by simpa using hown.1
    by_cases hlt : k < len
    · have hcx : wr.cell? ⟨b, off + k, none⟩ = some (.int .i64 (Z k)) := (hnx.cell (by exact hb)).trans (hc k hlt)
      obtain ⟨y, hy⟩ : ∃ y, xs[k]? = some y := ⟨xs[k], List.getElem?_eq_getElem (by omega)⟩
      have hcy : wr.cell? ⟨w.heap.size, k, none⟩ = some y := (hown.cellAt k (by omega)).trans hy
      have hfy : wr.frozen? ⟨w.heap.size, k, none⟩ = false := hown.frozenAt k
      have hst := hown.stored k (.int .i64 (Z k))
      have hst1 := upto_step hhalf hxl hlt
      have B2 := hnx.setCell (p := ⟨w.heap.size, k, none⟩) (Nat.le_refl _) (.int .i64 (Z k))
      have R : Hid _ := And.intro hst.1 (And.intro hst1 B2)
      clear hst hst1 B2 hown hhalf hnx hxl hy hc
      go_wp2
      go_roundw
      case rel => exact ⟨k + 1, _, by omega, by go_num, R.out.1, R.out.2.1, R.out.2.2⟩
      case measure => simp [intOf]; omega
    · go_wp2
      go_ret
      refine ⟨rfl, hnx, fun i hi => ?_⟩
      rw [Nat.zero_add, hown.cellAt i (by omega)]
      exact hhalf i (by omega)

/-- WHAT THE WALK IS TOLD OF A SLICE OF INTEGERS. -/
def IsInts (w : World) (a : Option Addr) (len cap : Nat) (Z : Nat → Int) : Prop :=
  (a = none ∧ len = 0 ∧ cap = 0) ∨ ∃ x, a = some x ∧ len ≤ cap ∧ ∀ i, i < cap → w.cell? (x.add i) = some (.int .i64 (Z i))

theorem cloneI_any (a : Option Addr) (len cap : Nat) (Z : Nat → Int) (w : World) (hr : IsInts w a len cap Z) (hlen : len ≤ 1048576) :
    Calls Try.prog 10 #[.slice a len cap] w fun e w' => ∃ a' cap', e = .returned (.slice a' len cap') ∧ Below w.heap.size w w' ∧ Reads w' a' len (fun i => .int .i64 (Z i)) := by
  rcases hr with ⟨rfl, rfl, rfl⟩ | ⟨x, rfl, hl, hc⟩
  · refine (cloneI_nil w).mono ?_
    rintro e w' ⟨rfl, rfl⟩
    exact ⟨none, 0, rfl, Below.refl _ _, .inl rfl⟩
  · by_cases h0 : len = 0
    · subst h0
      refine (cloneI_empty x cap w).mono ?_
      rintro e w' ⟨rfl, hb⟩
      exact ⟨_, 0, rfl, hb, .inl rfl⟩
    · obtain ⟨b, off, rfl, hb⟩ := plain_of_cell (hc 0 (by omega))
      refine (cloneI_some b off len cap Z w hlen hb (fun i hi => by rw [← addr_plain]; exact hc i (by omega))).mono ?_
      rintro e w' ⟨rfl, hb, hcell⟩
      exact ⟨_, len, rfl, hb, .inr ⟨_, 0, rfl, hcell⟩⟩

end Go.Proofs.Qxb6606342a
