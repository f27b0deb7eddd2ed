import Derived.Test.Qxb6606342aRows
import Derived.WalkKit
import Derived.WalkSpells
import Derived.WalkLawsBesides
namespace Go.Proofs.Qxb6606342a
open Go.RowKit

theorem Try.info4 : (Try.prog.info? 4).map (fun i => (i.zero, i.size, i.bytes)) = some (some (.bool false), 1, 1) := by kernel_rfl
theorem Try.info3 : (Try.prog.info? 3).map (fun i => (i.zero, i.size, i.bytes)) = some (some (.int .i64 0), 1, 8) := by kernel_rfl

/-- The slice at 'a' reads, cell by cell, as f, up to n. -/
def Reads (w : World) (a : Option Addr) (n : Nat) (f : Nat → Value) : Prop :=
  n = 0 ∨ ∃ b off, a = some ⟨b, off, none⟩ ∧ ∀ i, i < n → w.cell? ⟨b, off + i, none⟩ = some (f i)

/-- The true places below n. -/
def trues (B : Nat → Bool) (n : Nat) : List Nat := (List.range n).filter B

theorem trues_succ (B : Nat → Bool) (n : Nat) : trues B (n + 1) = trues B n ++ if B n then [n] else [] := by
  unfold trues
  rw [List.range_succ, List.filter_append]
  by_cases h : B n = true <;> simp [h]

theorem trues_len (B : Nat → Bool) (n : Nat) : (trues B n).length ≤ n := by
  unfold trues
  have := List.length_filter_le B (List.range n)
  simpa using this

/-- The numbers as values. -/
def ints (l : List Nat) : List Value := l.map fun (x : Nat) => Value.int .i64 (x : Int)

theorem ints_append (a b : List Nat) : ints (a ++ b) = ints a ++ ints b := by simp [ints]
theorem ints_length (a : List Nat) : (ints a).length = a.length := by simp [ints]

/-- What a clone owns behind k rounds. -/
def Upto (f : Nat → Value) (k : Nat) (xs : List Value) : Prop := ∀ j, j < k → xs[j]? = some (f j)

theorem upto_step {f : Nat → Value} {k n : Nat} {xs : List Value} (h : Upto f k xs) (hx : xs.length = n) (hk : k < n) : Upto f (k + 1) (xs.set k (f k)) := by
  intro j hj
  by_cases e : j = k
  · subst e; simp [hx, hk]
  · rw [List.getElem?_set_ne (by omega)]; exact h j (by omega)

theorem q27 (w : World) (a : Option Addr) (n c n' c' : Nat) : (binOp .eql 27 (.slice a n c) (.slice none n' c')).run Try.prog w = .ok (.bool a.isNone) w := Lib.run_eql_slice_nil w _ _ a n c n' c' Try.underlying27

set_option maxHeartbeats 400000 in
theorem cloneB_nil (w : World) : Calls Try.prog 17 #[.slice none 0 0] w fun e w' => e = .returned (.slice none 0 0) ∧ w = w' := by
  have q := q27
  go_enter Try.func17, Try.ntmps17
  go_wp2
  go_ret
  exact ⟨rfl, rfl⟩

set_option maxHeartbeats 400000 in
theorem cloneB_empty (x : Addr) (cap : Nat) (w : World) :
    Calls Try.prog 17 #[.slice (some x) 0 cap] w fun e w' => e = .returned (.slice (some ⟨w.heap.size, 0, none⟩) 0 0) ∧ Below w.heap.size w w' ∧ w.heap.size < w'.heap.size := by
  have q := q27
  obtain ⟨i0, hi, hz0, hz1, hz2⟩ := info_parts Try.info4
  go_enter Try.func17, Try.ntmps17
  go_wp2_with (at_make; refine wpList_make_full _ rfl _ _ 27 rfl w.heap.size 4 i0 (.bool false) 1 Try.underlying27 hi hz0 hz1 .i64 .i64 _ _ 0 rfl rfl (by omega) (by omega) (by rw [hz2]; omega) (by unfold maxLen; omega) (Nat.le_refl _) ?_; intro w0 hown0 hgrow0)
  refine wp_loop_rounds 1 ?_
  rw [rounds_succ]
  go_wp2
  go_ret
  exact ⟨rfl, (Below.refl _ _).grown hgrow0 (Nat.le_refl _) (fun k h => by cases h), (hown0.lt _ rfl).2⟩

set_option maxHeartbeats 400000 in
theorem cloneB_some (b off len cap : Nat) (B : Nat → Bool) (w : World) (hlen : len ≤ 1048576) (hb : b < w.heap.size) (hc : ∀ i, i < len → w.cell? ⟨b, off + i, none⟩ = some (.bool (B i))) :
    Calls Try.prog 17 #[.slice (some ⟨b, off, none⟩) len cap] w fun e w' => e = .returned (.slice (some ⟨w.heap.size, 0, none⟩) len len) ∧ Below w.heap.size w w' ∧ w.heap.size < w'.heap.size ∧ ∀ i, i < len → w'.cell? ⟨w.heap.size, i, none⟩ = some (.bool (B i)) := by
  have q := q27
  obtain ⟨i0, hi, hz0, hz1, hz2⟩ := info_parts Try.info4
  go_enter Try.func17, Try.ntmps17
  go_wp2_with (at_make; refine wpList_make_full _ rfl _ _ 27 rfl w.heap.size 4 i0 (.bool false) 1 Try.underlying27 hi hz0 hz1 .i64 .i64 _ _ len rfl rfl rfl rfl (by rw [hz2]; omega) (by unfold maxLen; omega) (Nat.le_refl _) ?_; intro w0 hown0 hgrow0)
  go_loopw [4] (fun i wr => ∃ (k : Nat) (xs : List Value), k ≤ len ∧ i = .int .i64 k ∧ wr.ownsRow w.heap.size 4 1 (.slice (some ⟨w.heap.size, 0, none⟩) len len) len xs ∧ Upto (fun i => .bool (B i)) k xs ∧ Below w.heap.size w wr)
    (fun i _ => len - (intOf i).toNat)
  case atStart => exact ⟨0, _, Nat.zero_le _, rfl, hown0, fun j hj => by omega, (Below.refl _ _).grown hgrow0 (Nat.le_refl _) (fun k h => by cases h)⟩
  case round =>
    obtain ⟨k, xs, hk, rfl, hown, hhalf, hnx⟩ := hrel
    have hxl : xs.length = len := by simpa using hown.1
    by_cases hlt : k < len
    · have hcx : wr.cell? ⟨b, off + k, none⟩ = some (.bool (B k)) := (hnx.cell (by exact hb)).trans (hc k hlt)
      obtain ⟨y, hy⟩ : ∃ y, xs[k]? = some y := ⟨xs[k], List.getElem?_eq_getElem (by omega)⟩
      have hcy : wr.cell? ⟨w.heap.size, k, none⟩ = some y := (hown.cellAt k (by omega)).trans hy
      have hfy : wr.frozen? ⟨w.heap.size, k, none⟩ = false := hown.frozenAt k
      have hst := hown.stored k (.bool (B k))
      have hst1 := upto_step hhalf hxl hlt
      have B2 := hnx.setCell (p := ⟨w.heap.size, k, none⟩) (Nat.le_refl _) (.bool (B k))
      have R : Hid _ := And.intro hst.1 (And.intro hst1 B2)
      clear hst hst1 B2 hown hhalf hnx hxl hy hc
      go_wp2
      go_roundw
      case rel => exact ⟨k + 1, _, by omega, by go_num, R.out.1, R.out.2.1, R.out.2.2⟩
      case measure => simp [intOf]; omega
    · go_wp2
      go_ret
      refine ⟨rfl, hnx, (hown.lt _ rfl).2, fun i hi => ?_⟩
      rw [hown.cellAt i (by omega)]
      exact hhalf i (by omega)

theorem addr_plain (b o i : Nat) : (⟨b, o, none⟩ : Addr).add i = ⟨b, o + i, none⟩ := by unfold Addr.add; split <;> simp_all

/-- WHAT THE WALK IS TOLD OF A SLICE OF BOOLS. -/
def IsBools (w : World) (a : Option Addr) (len cap : Nat) (B : Nat → Bool) : Prop :=
  (a = none ∧ len = 0 ∧ cap = 0) ∨ ∃ x, a = some x ∧ len ≤ cap ∧ ∀ i, i < cap → w.cell? (x.add i) = some (.bool (B i))

theorem plain_of_cell {w : World} {x : Addr} {v : Value} (h : w.cell? (x.add 0) = some v) : ∃ b off, x = ⟨b, off, none⟩ ∧ b < w.heap.size := by
  obtain ⟨b, off, spot⟩ := x
  have hspot : spot = none := by simpa [Addr.add] using World.cell?_spot h
  subst hspot
  exact ⟨b, off, rfl, by simpa [Addr.add] using World.block_lt_of_cell? w _ h⟩

theorem cloneB_any (a : Option Addr) (len cap : Nat) (B : Nat → Bool) (w : World) (hr : IsBools w a len cap B) (hlen : len ≤ 1048576) :
    Calls Try.prog 17 #[.slice a len cap] w fun e w' => ∃ a' cap', e = .returned (.slice a' len cap') ∧ len ≤ cap' ∧ Below w.heap.size w w' ∧ Reads w' a' len (fun i => .bool (B i)) ∧ (∀ x, a' = some x → w.heap.size ≤ x.block ∧ x.block < w'.heap.size) := by
  rcases hr with ⟨rfl, rfl, rfl⟩ | ⟨x, rfl, hl, hc⟩
  · refine (cloneB_nil w).mono ?_
    rintro e w' ⟨rfl, rfl⟩
    exact ⟨none, 0, rfl, Nat.le_refl _, Below.refl _ _, .inl rfl, fun x h => by cases h⟩
  · by_cases h0 : len = 0
    · subst h0
      refine (cloneB_empty x cap w).mono ?_
      rintro e w' ⟨rfl, hb, hs⟩
      exact ⟨_, 0, rfl, Nat.le_refl _, hb, .inl rfl, fun x h => by cases h; exact ⟨Nat.le_refl _, hs⟩⟩
    · obtain ⟨b, off, rfl, hb⟩ := plain_of_cell (hc 0 (by omega))
      refine (cloneB_some b off len cap B w hlen hb (fun i hi => by rw [← addr_plain]; exact hc i (by omega))).mono ?_
      rintro e w' ⟨rfl, hb, hs, hcell⟩
      exact ⟨_, len, rfl, Nat.le_refl _, hb, .inr ⟨_, 0, rfl, fun i hi => by rw [Nat.zero_add]; exact hcell i hi⟩, fun x h => by cases h; exact ⟨Nat.le_refl _, hs⟩⟩

set_option maxHeartbeats 400000 in
theorem indices_empty (a : Option Addr) (cap : Nat) (w : World) : Calls Try.prog 20 #[.slice a 0 cap] w fun e w' => e = .returned (.slice none 0 0) ∧ w = w' := by
  go_enter Try.func20, Try.ntmps20
  go_wp2
  refine wp_loop_rounds 1 ?_
  rw [rounds_succ]
  go_wp2
  go_ret
  exact ⟨rfl, rfl⟩

set_option maxHeartbeats 800000 in
theorem indices_some (b off len cap : Nat) (B : Nat → Bool) (w : World) (hlen : len ≤ 1048576) (hb : b < w.heap.size) (hc : ∀ i, i < len → w.cell? ⟨b, off + i, none⟩ = some (.bool (B i))) :
    Calls Try.prog 20 #[.slice (some ⟨b, off, none⟩) len cap] w fun e w' => ∃ v, e = .returned v ∧ w'.ownsRow w.heap.size 3 1 v (trues B len).length (ints (trues B len)) ∧ Below w.heap.size w w' ∧ (trues B len = [] → v = .slice none 0 0) := by
  obtain ⟨i0, hi, hz0, hz1, hz2⟩ := info_parts Try.info3
  go_enter Try.func20, Try.ntmps20
  go_wp2
  go_loopw [3, 8] (fun v i wr => ∃ (k : Nat), k ≤ len ∧ i = .int .i64 k ∧ wr.ownsRow w.heap.size 3 1 v (trues B k).length (ints (trues B k)) ∧ Below w.heap.size w wr ∧ (trues B k = [] → v = .slice none 0 0))
    (fun _ i _ => len - (intOf i).toNat)
  case atStart => exact ⟨0, Nat.zero_le _, rfl, World.ownsRow_nil _ _ _ _, Below.refl _ _, fun _ => rfl⟩
  case round =>
    obtain ⟨k, hk, rfl, hown, hnx, hnil⟩ := hrel
    have hN : Hid _ := hnil
    clear hnil
    by_cases hlt : k < len
    · have hcx : wr.cell? ⟨b, off + k, none⟩ = some (.bool (B k)) := (hnx.cell (by exact hb)).trans (hc k hlt)
      have htl := trues_len B k
      have hsz := hnx.size
      have HS : Hid _ := trues_succ B k
      obtain ⟨bk, hbk⟩ : ∃ x, x = B k := ⟨_, rfl⟩
      rw [← hbk] at hcx
      have HB : Hid _ := hbk
      clear hbk hc
      cases bk
      · go_wp2
        go_roundw
        case rel =>
          have e : trues B (k + 1) = trues B k := by rw [HS.out, ← HB.out]; simp
          exact ⟨k + 1, by omega, by go_num, by rw [e]; exact hown, hnx, by rw [e]; exact hN.out⟩
        case measure => simp [intOf]; omega
      · go_wp2_with (at_builtin; refine wpList_append_own _ rfl _ _ 23 rfl w.heap.size 3 i0 (.int .i64 0) 1 8 Try.underlying23 hi hz0 hz1 hz2 rfl (by decide) _ _ _ rfl (hown.alloc _) ⟨wr.heap.size, 0, none⟩ 1 1 [.int .i64 k] rfl rfl (cell_one_new _ _ _) (by intro u hu; simp at hu; subst hu; rfl) (by unfold maxLen; omega) (by omega) (by simp; omega) ?_; intro v1 w1 hown1 hgrow1 hnil1)
        go_roundw
        case rel =>
          have e : trues B (k + 1) = trues B k ++ [k] := by rw [HS.out, ← HB.out]; simp
          exact ⟨k + 1, by omega, by go_num, by rw [e, ints_append, List.length_append]; exact hown1, (hnx.alloc (by omega) _).grown hgrow1 (by simp; omega) (fun j hj => (hown.lt j hj).1), fun h => by rw [e] at h; simp at h⟩
        case measure => simp [intOf]; omega
    · have hkl : k = len := by omega
      go_wp2
      go_ret
      subst hkl
      exact ⟨_, rfl, hown, hnx, hN.out⟩

/-- The slice v lists the numbers l: nil where there are none. -/
def Lists (base : Nat) (w : World) (v : Value) (l : List Nat) : Prop :=
  (l = [] ∧ v = .slice none 0 0) ∨ (l ≠ [] ∧ ∃ g cap, v = .slice (some ⟨g, 0, none⟩) l.length cap ∧ base ≤ g ∧ g < w.heap.size ∧ l.length ≤ cap ∧ ∀ j, j < l.length → w.cell? ⟨g, 0 + j, none⟩ = some (.int .i64 (l.getD j 0 : Nat)))

theorem lists_of_owns {base : Nat} {w : World} {v : Value} {l : List Nat} (h : w.ownsRow base 3 1 v l.length (ints l)) (hn : l = [] → v = .slice none 0 0) : Lists base w v l := by
  by_cases e : l = []
  · exact .inl ⟨e, hn e⟩
  · refine .inr ⟨e, ?_⟩
    rcases h.2 with ⟨_, h0⟩ | ⟨g, cap, cur, rfl, hb, hg, hc, _⟩
    · exact absurd (List.eq_nil_of_length_eq_zero h0) e
    · refine ⟨g, cap, rfl, hb, (h.lt _ rfl).2, hc, fun j hj => ?_⟩
      rw [Nat.zero_add, h.cellAt j (by omega)]
      simp [ints, hj]

theorem indices_any (a : Option Addr) (len cap : Nat) (B : Nat → Bool) (w : World) (hlen : len ≤ 1048576) (hr : Reads w a len (fun i => .bool (B i))) :
    Calls Try.prog 20 #[.slice a len cap] w fun e w' => ∃ v, e = .returned v ∧ Lists w.heap.size w' v (trues B len) ∧ Below w.heap.size w w' := by
  rcases hr with rfl | ⟨b, off, rfl, hc⟩
  · refine (indices_empty a cap w).mono ?_
    rintro e w' ⟨rfl, rfl⟩
    exact ⟨_, rfl, .inl ⟨rfl, rfl⟩, Below.refl _ _⟩
  · by_cases h0 : len = 0
    · subst h0
      refine (indices_empty _ cap w).mono ?_
      rintro e w' ⟨rfl, rfl⟩
      exact ⟨_, rfl, .inl ⟨rfl, rfl⟩, Below.refl _ _⟩
    · have hb : b < w.heap.size := World.block_lt_of_cell? w _ (hc 0 (by omega))
      refine (indices_some b off len cap B w hlen hb hc).mono ?_
      rintro e w' ⟨v, rfl, hown, hbel, hn⟩
      exact ⟨v, rfl, lists_of_owns hown hn, hbel⟩

set_option maxHeartbeats 400000 in
theorem zzIndices_any (a : Option Addr) (len cap : Nat) (B : Nat → Bool) (w : World) (hlen : len ≤ 1048576) (hr : Reads w a len (fun i => .bool (B i))) :
    Calls Try.prog 14 #[.slice a len cap] w fun e w' => ∃ v, e = .returned v ∧ Lists w.heap.size w' v (trues B len) ∧ Below w.heap.size w w' := by
  have H : Hid _ := indices_any a len cap B w hlen hr
  clear hr hlen
  go_enter Try.func14, Try.ntmps14
  go_wp2_with fail
  refine Calls.mono H.out ?_
  rintro e w' ⟨v, rfl, hL, hB⟩
  have KL : Hid _ := And.intro hL hB
  clear hL hB
  go_wp2
  go_ret
  exact ⟨v, rfl, KL.out.1, KL.out.2⟩

set_option maxHeartbeats 400000 in
theorem size_ok16 (a : Option Addr) (n cap : Nat) (w : World) (h : n ≤ 1048576) : Calls Try.prog 16 #[.slice a n cap] w fun e w' => e = .returned (.bool true) ∧ w = w' := by
  have h1 : ¬ (1048576 : Int) < (n : Int) := by omega
  have h2 : (n : Int) ≤ 1048576 := by omega
  go_enter Try.func16, Try.ntmps16
  go_wp2
  go_ret
  exact ⟨rfl, rfl⟩

set_option maxHeartbeats 400000 in
theorem size_no16 (a : Option Addr) (n cap : Nat) (w : World) (h : 1048576 < n) : Calls Try.prog 16 #[.slice a n cap] w fun e w' => e = .returned (.bool false) ∧ w = w' := by
  have h1 : (1048576 : Int) < (n : Int) := by omega
  go_enter Try.func16, Try.ntmps16
  go_wp2
  go_ret
  exact ⟨rfl, rfl⟩

end Go.Proofs.Qxb6606342a
