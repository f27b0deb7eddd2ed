import Derived.Test.Qxb6606342aGuards
import Derived.Deep.Grids
namespace Go.Proofs.Qxb6606342a
open Go.RowKit

theorem Try.info27 : (Try.prog.info? 27).map (fun i => (i.zero, i.size, i.bytes)) = some (some (.slice none 0 0), 1, 24) := by kernel_rfl

theorem q22 (w : World) (a : Option Addr) (n c n' c' : Nat) : (binOp .eql 22 (.slice a n c) (.slice none n' c')).run Try.prog w = .ok (.bool a.isNone) w := Lib.run_eql_slice_nil w _ _ a n c n' c' Try.underlying22

theorem owns_below {w w1 : World} {base : Nat} {e : TypeId} {size : Nat} {v : Value} {n : Nat} {xs : List Value} (h : w.ownsRow base e size v n xs) (hb : Below w.heap.size w w1) : w1.ownsRow base e size v n xs := by
  refine ⟨h.1, ?_⟩
  rcases h.2 with hn | ⟨g, cap, cur, rfl, hbs, hg, rest⟩
  · exact .inl hn
  · exact .inr ⟨g, cap, cur, rfl, hbs, by rw [hb.block g (Array.getElem?_eq_some_iff.1 hg).1]; exact hg, rest⟩

theorem reads_setCell {w : World} {a : Option Addr} {n : Nat} {f : Nat → Value} {p : Addr} {u : Value} (h : Reads w a n f) (hne : ∀ x, a = some x → x.block ≠ p.block) : Reads (w.setCell p u) a n f := by
  rcases h with h | ⟨b, off, h, hc⟩
  · exact .inl h
  · refine .inr ⟨b, off, h, fun i hi => ?_⟩
    rw [World.cell?_of_block (w := w) (Below.heap_setCell w p u b (hne _ h))]
    exact hc i hi

/-- What is known of the first k rows of a clone whose own row holds xs. -/
def RowsUpto (w : World) (base : Nat) (L : Nat → Nat) (B : Nat → Nat → Bool) (k : Nat) (xs : List Value) : Prop :=
  ∀ r, r < k → ∃ A' C', xs[r]? = some (.slice A' (L r) C') ∧ Reads w A' (L r) (fun i => .bool (B r i)) ∧ ∀ x, A' = some x → base < x.block

theorem rows_below {w w1 : World} {base : Nat} {L : Nat → Nat} {B : Nat → Nat → Bool} {k : Nat} {xs : List Value} (h : RowsUpto w base L B k xs) (hb : Below w.heap.size w w1) : RowsUpto w1 base L B k xs := by
  intro r hr
  obtain ⟨A', C', h1, h2, h3⟩ := h r hr
  exact ⟨A', C', h1, reads_below h2 hb, h3⟩

theorem rows_store {w : World} {base : Nat} {L : Nat → Nat} {B : Nat → Nat → Bool} {k n : Nat} {xs : List Value} {A' : Option Addr} {C' : Nat} (h : RowsUpto w base L B k xs) (hx : xs.length = n) (hk : k < n)
    (hr : Reads w A' (L k) (fun i => .bool (B k i))) (hA : ∀ x, A' = some x → base < x.block) : RowsUpto (w.setCell ⟨base, k, none⟩ (.slice A' (L k) C')) base L B (k + 1) (xs.set k (.slice A' (L k) C')) := by
  intro r hr'
  by_cases e : r = k
  · subst e
    exact ⟨A', C', by simp [hx, hk], reads_setCell hr (fun x hx => by have := hA x hx; show x.block ≠ base; omega), hA⟩
  · obtain ⟨A1, C1, h1, h2, h3⟩ := h r (by omega)
    refine ⟨A1, C1, by rw [List.getElem?_set_ne (by omega)]; exact h1, reads_setCell h2 (fun x hx => by have := h3 x hx; show x.block ≠ base; omega), h3⟩

/-- WHAT THE WALK IS TOLD OF A GRID OF BOOLS. -/
def IsGrid (w : World) (a : Option Addr) (len cap : Nat) (A : Nat → Option Addr) (L C : Nat → Nat) (B : Nat → Nat → Bool) : Prop :=
  (a = none ∧ len = 0 ∧ cap = 0) ∨ ∃ x, a = some x ∧ len ≤ cap ∧ ∀ r, r < cap → w.cell? (x.add r) = some (rowAt A L C r) ∧ IsBools w (A r) (L r) (C r) (B r)

theorem isBools_below {w w1 : World} {a : Option Addr} {len cap : Nat} {B : Nat → Bool} (h : IsBools w a len cap B) (hb : Below w.heap.size w w1) : IsBools w1 a len cap B := by
  rcases h with h | ⟨x, h1, h2, h3⟩
  · exact .inl h
  · exact .inr ⟨x, h1, h2, fun i hi => (hb.cell (World.block_lt_of_cell? w _ (h3 i hi))).trans (h3 i hi)⟩

theorem reads_of_grid {w : World} {a : Option Addr} {len cap : Nat} {A : Nat → Option Addr} {L C : Nat → Nat} {B : Nat → Nat → Bool} (h : IsGrid w a len cap A L C B) : Reads w a len (rowAt A L C) := by
  rcases h with ⟨_, h, _⟩ | ⟨x, rfl, hl, hc⟩
  · exact .inl h
  · by_cases h0 : len = 0
    · exact .inl h0
    · obtain ⟨b, off, rfl, _⟩ := plain_of_cell (hc 0 (by omega)).1
      exact .inr ⟨b, off, rfl, fun i hi => by rw [← addr_plain]; exact (hc i (by omega)).1⟩

theorem reads_of_ints {w : World} {a : Option Addr} {len cap : Nat} {Z : Nat → Int} (h : IsInts w a len cap Z) : Reads w a len (fun i => .int .i64 (Z i)) := by
  rcases h with ⟨_, h, _⟩ | ⟨x, rfl, hl, hc⟩
  · exact .inl h
  · by_cases h0 : len = 0
    · exact .inl h0
    · obtain ⟨b, off, rfl, _⟩ := plain_of_cell (hc 0 (by omega))
      exact .inr ⟨b, off, rfl, fun i hi => by rw [← addr_plain]; exact hc i (by omega)⟩

theorem isInts_below {w w1 : World} {a : Option Addr} {len cap : Nat} {Z : Nat → Int} (h : IsInts w a len cap Z) (hb : Below w.heap.size w w1) : IsInts w1 a len cap Z := by
  rcases h with h | ⟨x, h1, h2, h3⟩
  · exact .inl h
  · exact .inr ⟨x, h1, h2, fun i hi => (hb.cell (World.block_lt_of_cell? w _ (h3 i hi))).trans (h3 i hi)⟩

set_option maxHeartbeats 400000 in
theorem cloneM_nil (w : World) : Calls Try.prog 9 #[.slice none 0 0] w fun e w' => e = .returned (.slice none 0 0) ∧ w = w' := by
  have q := q22
  go_enter Try.func9, Try.ntmps9
  go_wp2
  go_ret
  exact ⟨rfl, rfl⟩

set_option maxHeartbeats 400000 in
theorem cloneM_empty (x : Addr) (cap : Nat) (w : World) :
    Calls Try.prog 9 #[.slice (some x) 0 cap] w fun e w' => e = .returned (.slice (some ⟨w.heap.size, 0, none⟩) 0 0) ∧ Below w.heap.size w w' := by
  have q := q22
  obtain ⟨i0, hi, hz0, hz1, hz2⟩ := info_parts Try.info27
  go_enter Try.func9, Try.ntmps9
  go_wp2_with (at_make; refine wpList_make_full _ rfl _ _ 22 rfl w.heap.size 27 i0 (.slice none 0 0) 1 Try.underlying22 hi hz0 hz1 .i64 .i64 _ _ 0 rfl rfl (by omega) (by omega) (by rw [hz2]; omega) (by unfold maxLen; omega) (Nat.le_refl _) ?_; intro w0 hown0 hgrow0)
  refine wp_loop_rounds 1 ?_
  rw [rounds_succ]
  go_wp2
  go_ret
  exact ⟨rfl, (Below.refl _ _).grown hgrow0 (Nat.le_refl _) (fun k h => by cases h)⟩

set_option maxHeartbeats 800000 in
theorem cloneM_some (b off len cap : Nat) (A : Nat → Option Addr) (L C : Nat → Nat) (B : Nat → Nat → Bool) (w : World) (hlen : len ≤ 43690) (hL : ∀ r, r < len → L r ≤ 1048576) (hb : b < w.heap.size)
    (hc : ∀ i, i < len → w.cell? ⟨b, off + i, none⟩ = some (rowAt A L C i)) (hB : ∀ r, r < len → IsBools w (A r) (L r) (C r) (B r)) :
    Calls Try.prog 9 #[.slice (some ⟨b, off, none⟩) len cap] w fun e w' => e = .returned (.slice (some ⟨w.heap.size, 0, none⟩) len len) ∧ Below w.heap.size w w' ∧ ∃ xs, (∀ r, r < len → w'.cell? ⟨w.heap.size, 0 + r, none⟩ = xs[r]?) ∧ RowsUpto w' w.heap.size L B len xs := by
  have q := q22
  obtain ⟨i0, hi, hz0, hz1, hz2⟩ := info_parts Try.info27
  have HL : Hid _ := hL
  have HC : Hid _ := hc
  have HB : Hid _ := hB
  clear hL hc hB
  go_enter Try.func9, Try.ntmps9
  go_wp2_with (at_make; refine wpList_make_full _ rfl _ _ 22 rfl w.heap.size 27 i0 (.slice none 0 0) 1 Try.underlying22 hi hz0 hz1 .i64 .i64 _ _ len rfl rfl rfl rfl (by rw [hz2]; omega) (by unfold maxLen; omega) (Nat.le_refl _) ?_; intro w0 hown0 hgrow0)
  go_loopw [4] (fun i wr => ∃ (k : Nat) (xs : List Value), k ≤ len ∧ i = .int .i64 k ∧ wr.ownsRow w.heap.size 27 1 (.slice (some ⟨w.heap.size, 0, none⟩) len len) len xs ∧ RowsUpto wr w.heap.size L B k xs ∧ Below w.heap.size w wr)
    (fun i _ => len - (intOf i).toNat)
  case atStart => exact ⟨0, _, Nat.zero_le _, rfl, hown0, fun j hj => by omega, (Below.refl _ _).grown hgrow0 (Nat.le_refl _) (fun k h => by cases h)⟩
  case round =>
    obtain ⟨k, xs, hk, rfl, hown, hrows, hnx⟩ := hrel
    clear hown0 hgrow0
    have hxl : xs.length = len := by simpa using hown.1
    by_cases hlt : k < len
    · have hcx : wr.cell? ⟨b, off + k, none⟩ = some (.slice (A k) (L k) (C k)) := (hnx.cell (by exact hb)).trans (HC.out k hlt)
      have KB : Hid _ := cloneB_any (A k) (L k) (C k) (B k) wr (isBools_below (HB.out k hlt) (by exact hnx)) (HL.out k hlt)
      have KO : Hid _ := hown
      have KR : Hid _ := hrows
      have KN : Hid _ := hnx
      have KX : Hid _ := hxl
      have hg := (hown.lt _ rfl).2
      obtain ⟨ak, hak⟩ : ∃ x, x = A k := ⟨_, rfl⟩
      obtain ⟨lk, hlk⟩ : ∃ x, x = L k := ⟨_, rfl⟩
      obtain ⟨ck, hck⟩ : ∃ x, x = C k := ⟨_, rfl⟩
      rw [← hak, ← hlk, ← hck] at hcx KB
      have E1 : Hid _ := hlk
      clear hak hlk hck hown hrows hnx hxl
      go_wp2_with fail
      refine Calls.mono KB.out ?_
      rintro e w1 ⟨a', cap', rfl, hcap', hbel, hrd, hbk⟩
      have o1 := owns_below KO.out hbel
      obtain ⟨y, hy⟩ : ∃ y, xs[k]? = some y := ⟨xs[k]'(by rw [KX.out]; exact hlt), List.getElem?_eq_getElem (by rw [KX.out]; exact hlt)⟩
      have hcy : w1.cell? ⟨w.heap.size, k, none⟩ = some y := (o1.cellAt k (by omega)).trans hy
      have hfy : w1.frozen? ⟨w.heap.size, k, none⟩ = false := o1.frozenAt k
      have hst := o1.stored k (.slice a' lk cap')
      have B1 : Below w.heap.size w w1 := KN.out.trans (hbel.mono KN.out.size)
      have B2 := B1.setCell (p := ⟨w.heap.size, k, none⟩) (Nat.le_refl _) (.slice a' lk cap')
      have R : Hid _ := And.intro hst.1 B2
      have R2 : Hid (RowsUpto (w1.setCell ⟨w.heap.size, k, none⟩ (.slice a' lk cap')) w.heap.size L B (k + 1) (xs.set k (.slice a' lk cap'))) := by
        have e1 := E1.out
        subst e1
        exact rows_store (rows_below KR.out hbel) KX.out hlt hrd (fun x hx => by have := (hbk x hx).1; omega)
      clear hst B1 B2 o1 hrd hbk hbel hy
      go_wp2
      go_roundw
      case rel => exact ⟨k + 1, _, by omega, by go_num, R.out.1, R2.out, R.out.2⟩
      case measure => simp [intOf]; omega
    · obtain rfl : k = len := by omega
      go_wp2
      go_ret
      exact ⟨rfl, hnx, xs, fun r hr => by rw [Nat.zero_add]; exact hown.cellAt r (by omega), hrows⟩

/-- The deep clone of a grid reads as the grid. -/
theorem cloneM_any (a : Option Addr) (len cap : Nat) (A : Nat → Option Addr) (L C : Nat → Nat) (B : Nat → Nat → Bool) (w : World) (hg : IsGrid w a len cap A L C B) (hlen : len ≤ 43690) (hL : ∀ r, r < len → L r ≤ 1048576) :
    Calls Try.prog 9 #[.slice a len cap] w fun e w' => ∃ a' cap' A' C', e = .returned (.slice a' len cap') ∧ Below w.heap.size w w' ∧ Reads w' a' len (rowAt A' L C') ∧ ∀ r, r < len → Reads w' (A' r) (L r) (fun i => .bool (B r i)) := by
  rcases hg with ⟨rfl, rfl, rfl⟩ | ⟨x, rfl, hl, hc⟩
  · refine (cloneM_nil w).mono ?_
    rintro e w' ⟨rfl, rfl⟩
    exact ⟨none, 0, A, C, rfl, Below.refl _ _, .inl rfl, fun r hr => by omega⟩
  · by_cases h0 : len = 0
    · subst h0
      refine (cloneM_empty x cap w).mono ?_
      rintro e w' ⟨rfl, hb⟩
      exact ⟨_, 0, A, C, rfl, hb, .inl rfl, fun r hr => by omega⟩
    · obtain ⟨b, off, rfl, hb⟩ := plain_of_cell (hc 0 (by omega)).1
      refine (cloneM_some b off len cap A L C B w hlen hL hb (fun i hi => by rw [← addr_plain]; exact (hc i (by omega)).1) (fun r hr => (hc r (by omega)).2)).mono ?_
      rintro e w' ⟨rfl, hb, xs, h1, h2⟩
      obtain ⟨A', hA'⟩ := Deep.choose_lt (α := Option Addr × Nat) (n := len) (p := fun r p => xs[r]? = some (.slice p.1 (L r) p.2) ∧ Reads w' p.1 (L r) (fun i => .bool (B r i))) (fun r hr => by
        obtain ⟨A', C', g1, g2, _⟩ := h2 r hr
        exact ⟨(A', C'), g1, g2⟩)
      refine ⟨_, len, fun r => (A' r).1, fun r => (A' r).2, rfl, hb, .inr ⟨_, 0, rfl, fun r hr => ?_⟩, fun r hr => (hA' r hr).2⟩
      rw [h1 r hr, (hA' r hr).1]
      rfl

end Go.Proofs.Qxb6606342a
