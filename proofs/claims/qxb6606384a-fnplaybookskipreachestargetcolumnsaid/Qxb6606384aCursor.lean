import Derived.Test.Qxb6606384aShape
import Derived.Deep.QuietTactic
import Derived.BigQuiet
namespace Go.Proofs.Qxb6606384a
open Go.RowKit
set_option linter.unusedVariables false

/-- A cursor in memory. -/
def Cur (w : World) (b : Nat) (s : ByteArray) (p a c e r : Int) : Prop :=
  w.heap[b]? = some (.cells #[.string s, .int .i64 p, .int .i64 a, .int .i64 c, .int .i64 e, .int .i64 r] 33 (0, 0))

theorem Cur.cells {w : World} {b : Nat} {s : ByteArray} {p a c e r : Int} (h : Cur w b s p a c e r) :
    w.cell? ⟨b, 0, none⟩ = some (.string s) ∧ w.cell? ⟨b, 1, none⟩ = some (.int .i64 p) ∧ w.cell? ⟨b, 2, none⟩ = some (.int .i64 a) ∧ w.cell? ⟨b, 3, none⟩ = some (.int .i64 c) ∧
      w.cell? ⟨b, 4, none⟩ = some (.int .i64 e) ∧ w.cell? ⟨b, 5, none⟩ = some (.int .i64 r) :=
  ⟨cell_of_row w b 0 _ _ _ h, cell_of_row w b 1 _ _ _ h, cell_of_row w b 2 _ _ _ h, cell_of_row w b 3 _ _ _ h, cell_of_row w b 4 _ _ _ h, cell_of_row w b 5 _ _ _ h⟩

theorem Cur.free {w : World} {b : Nat} {s : ByteArray} {p a c e r : Int} (h : Cur w b s p a c e r) (j : Nat) : w.frozen? ⟨b, j, none⟩ = false := frozen_of_row w b j _ _ h

theorem Cur.col {w : World} {b : Nat} {s : ByteArray} {p a c e r : Int} (h : Cur w b s p a c e r) (c' : Int) : Cur (w.setCell ⟨b, 3, none⟩ (.int .i64 c')) b s p a c' e r :=
  heap_setCell_same w b 3 _ _ _ h

theorem Cur.next {w : World} {b : Nat} {s : ByteArray} {p a c e r : Int} (h : Cur w b s p a c e r) (p' a' c' : Int) :
    Cur (((w.setCell ⟨b, 1, none⟩ (.int .i64 p')).setCell ⟨b, 2, none⟩ (.int .i64 a')).setCell ⟨b, 3, none⟩ (.int .i64 c')) b s p' a' c' e r :=
  heap_setCell_same _ b 3 _ _ _ (heap_setCell_same _ b 2 _ _ _ (heap_setCell_same w b 1 _ _ _ h))

theorem eq_num {x : Int} {n : Nat} (e : x = (n : Int)) : Value.int .i64 x = .int .i64 (n : Int) := by rw [e]

theorem blank_sp {s : ByteArray} {pos m : Nat} (h : pos + m < s.size) (hb : byteAt s (pos + m) = 32) : bl s pos m := ⟨h, by rw [hb]; rfl⟩
theorem blank_tab {s : ByteArray} {pos m : Nat} (h : pos + m < s.size) (hb : byteAt s (pos + m) = 9) : bl s pos m := ⟨h, by rw [hb]; rfl⟩
theorem blank_not {s : ByteArray} {pos m : Nat} (h1 : byteAt s (pos + m) ≠ 32) (h2 : byteAt s (pos + m) ≠ 9) : ¬ bl s pos m := by
  rintro ⟨_, h⟩
  simp [blankB] at h
  rcases h with h | h
  · exact h1 h
  · exact h2 h

/-- What indent leaves. -/
def Indents (s : ByteArray) (pos : Nat) (a c k : Int) (w : World) (e : Ending) (w' : World) : Prop :=
  ∃ i, e = .returned (.int .i64 (R s pos a i - c)) ∧ w = w' ∧ Counts s pos a c k i

theorem indents_mk {s : ByteArray} {pos : Nat} {a c k : Int} {w : World} {i : Nat} {x : Int} (hx : x = R s pos a i) (h : Counts s pos a c k i) : Indents s pos a c k w (.returned (.int .i64 (x - c))) w :=
  ⟨i, by rw [hx], rfl, h⟩

theorem counts_step {s : ByteArray} {pos : Nat} {a c k : Int} {i : Nat} (h : ∀ j, j < i → bl s pos j ∧ R s pos a j - c < k) (hb : bl s pos i) (hk : R s pos a i - c < k) : ∀ j, j < i + 1 → bl s pos j ∧ R s pos a j - c < k := by
  intro j hj
  by_cases e : j = i
  · subst e; exact ⟨hb, hk⟩
  · exact h j (by omega)

set_option maxRecDepth 20000 in
set_option maxHeartbeats 1000000 in
theorem indent_any (b : Nat) (s : ByteArray) (pos : Nat) (a c e r k : Int) (w : World) (hs : s.size ≤ 1048576) (h1 : a ≤ 536870912) (sh : Shape s pos a c) (h : Cur w b s pos a c e r) :
    Calls Try.prog 18 #[.pointer (some ⟨b, 0, none⟩), .int .i64 k] w (Indents s pos a c k w) := by
  obtain ⟨c0, c1, c2, c3, c4, c5⟩ := h.cells
  have h0 := sh.2.1
  have hp := sh.1
  obtain ⟨hc1, hc2⟩ := shape_col sh
  clear h sh c4 c5
  go_enter Try.func18, Try.ntmps18
  go_wp2
  go_loop [5, 6] (fun x y => ∃ i : Nat, pos + i ≤ s.size ∧ y = .int .i64 (pos + i : Nat) ∧ x = .int .i64 (R s pos a i) ∧ ∀ j, j < i → bl s pos j ∧ R s pos a j - c < k) (fun _ y => s.size - (intOf y).toNat)
  case atStart => exact ⟨0, by omega, rfl, rfl, fun j hj => by omega⟩
  case round =>
    obtain ⟨i, hi, rfl, rfl, hall⟩ := hrel
    have HALL : Hid _ := hall
    have rb := R_bd s pos a h0 i
    have RS : Hid _ := R_succ s pos a i
    obtain ⟨x, hx⟩ : ∃ x, x = R s pos a i := ⟨_, rfl⟩
    obtain ⟨q, hq⟩ : ∃ q, q = pos + i := ⟨_, rfl⟩
    have HX : Hid _ := hx
    have HQ : Hid _ := hq
    rw [← hx] at rb ⊢
    rw [← hq] at hi ⊢
    have rb1 : 0 ≤ x := by omega
    have rb2 : x ≤ 541065216 := by omega
    clear hall hx hq rb
    by_cases hlt : q < s.size
    · have hl : (q : Int) < (s.size : Int) := by omega
      by_cases hk : x - c < k
      · by_cases b32 : byteAt s q = 32
        · have g1 : (((s[q]'hlt).toNat : Int) == 32) = true := by rw [← byteAt_eq]; simpa using b32
          have B : Hid _ := b32
          clear b32
          go_wp2
          go_round
          case rel =>
            have hq := HQ.out
            subst hq
            refine ⟨i + 1, by omega, eq_num (by omega), ?_, counts_step HALL.out (blank_sp hlt B.out) (by rw [← HX.out]; exact hk)⟩
            rw [RS.out, B.out, ← HX.out]; rfl
          case measure => simp [intOf]; omega
        · have g1 : (((s[q]'hlt).toNat : Int) == 32) = false := by rw [← byteAt_eq]; simpa using b32
          have B1 : Hid _ := b32
          clear b32
          by_cases b9 : byteAt s q = 9
          · have g2 : (((s[q]'hlt).toNat : Int) == 9) = true := by rw [← byteAt_eq]; simpa using b9
            have B : Hid _ := b9
            clear b9
            go_wp2
            go_round
            case rel =>
              have hq := HQ.out
              subst hq
              refine ⟨i + 1, by omega, eq_num (by omega), ?_, counts_step HALL.out (blank_tab hlt B.out) (by rw [← HX.out]; exact hk)⟩
              rw [RS.out, B.out, ← HX.out]
              show Value.int .i64 _ = Value.int .i64 (stopF x)
              rw [stop_eq]
              go_num
            case measure => simp [intOf]; omega
          · have g2 : (((s[q]'hlt).toNat : Int) == 9) = false := by rw [← byteAt_eq]; simpa using b9
            have B : Hid _ := b9
            clear b9
            go_wp2
            go_ret
            have hq := HQ.out
            subst hq
            exact indents_mk HX.out ⟨HALL.out, .inl (blank_not B1.out B.out)⟩
      · have hk' : decide (x - c < k) = false := decide_eq_false hk
        have hk2 : k ≤ x - c := by omega
        clear hk
        go_wp2
        go_ret
        exact indents_mk HX.out ⟨HALL.out, .inr (by rw [← HX.out]; exact hk2)⟩
    · have hl : decide ((q : Int) < (s.size : Int)) = false := decide_eq_false (by omega)
      have hl2 : decide (q < s.size) = false := decide_eq_false hlt
      have hl3 : (s.size : Int) ≤ (q : Int) := by omega
      go_wp2
      go_ret
      have hq := HQ.out
      subst hq
      exact indents_mk HX.out ⟨HALL.out, .inl (fun g => hlt g.1)⟩

/-- What skip leaves. -/
def SkipPost (b : Nat) (s : ByteArray) (pos : Nat) (a c e r k : Int) (w : World) (e' : Ending) (w' : World) : Prop :=
  e' = .returned (.tuple #[]) ∧ ∃ m c', Skips s pos a c k m c' ∧ Cur w' b s (pos + m : Nat) (R s pos a m) c' e r ∧ Below b w w'

/-- The loop's own relation. -/
def SkipRel (b : Nat) (s : ByteArray) (pos : Nat) (a c e r k : Int) (w : World) (m : Nat) (cc kk : Int) (wr : World) : Prop :=
  cc + kk = c + k ∧ (∀ j, j < m → bl s pos j ∧ R s pos a (j + 1) ≤ c + k) ∧ (m = 0 → cc = c) ∧ (1 ≤ m → cc = R s pos a m ∧ 0 < k) ∧ Cur wr b s (pos + m : Nat) (R s pos a m) cc e r ∧ Below b w wr

theorem skip_done {b : Nat} {s : ByteArray} {pos : Nat} {a c e r k : Int} {w wr : World} {m : Nat} {cc kk : Int} (h : SkipRel b s pos a c e r k w m cc kk wr) (hk : kk ≤ 0) (q : Nat) : SkipPost b s pos a c e r k w (.returned (.tuple #[])) (wr.drewN q) := by
  obtain ⟨h1, h2, h3, h4, h5, h6⟩ := h
  refine ⟨rfl, m, cc, ?_, h5, below_drewN h6 q⟩
  by_cases e : m = 0
  · subst e
    have := h3 rfl
    exact .inl ⟨by omega, rfl, this⟩
  · obtain ⟨g1, g2⟩ := h4 (by omega)
    have := (h2 (m - 1) (by omega)).2
    rw [show m - 1 + 1 = m from by omega] at this
    exact .inr ⟨g2, h2, .inl ⟨by omega, by omega, by omega⟩⟩

theorem skip_stuck {b : Nat} {s : ByteArray} {pos : Nat} {a c e r k : Int} {w wr : World} {m : Nat} {cc kk : Int} (sh : Shape s pos a c) (h : SkipRel b s pos a c e r k w m cc kk wr) (hk : 0 < kk) (hb : ¬ bl s pos m) (q : Nat) : SkipPost b s pos a c e r k w (.returned (.tuple #[])) (wr.drewN q) := by
  obtain ⟨h1, h2, h3, h4, h5, h6⟩ := h
  refine ⟨rfl, m, cc, ?_, h5, below_drewN h6 q⟩
  have hcc : cc = R s pos a m := by
    by_cases e : m = 0
    · subst e
      rw [h3 rfl]
      exact shape_noblank sh hb
    · exact (h4 (by omega)).1
  refine .inr ⟨?_, h2, .inr (.inr ⟨hb, hcc, by omega⟩)⟩
  by_cases e : m = 0
  · have := h3 e; omega
  · exact (h4 (by omega)).2

theorem skip_kpos {b : Nat} {s : ByteArray} {pos : Nat} {a c e r k : Int} {w wr : World} {m : Nat} {cc kk : Int} (h : SkipRel b s pos a c e r k w m cc kk wr) (hk : 0 < kk) : 0 < k := by
  obtain ⟨h1, h2, h3, h4, h5, h6⟩ := h
  by_cases e : m = 0
  · have := h3 e; omega
  · exact (h4 (by omega)).2

theorem skip_cc {b : Nat} {s : ByteArray} {pos : Nat} {a c e r k : Int} {w wr : World} {m : Nat} {cc kk : Int} (sh : Shape s pos a c) (h : SkipRel b s pos a c e r k w m cc kk wr) : R s pos a m ≤ cc ∧ cc ≤ R s pos a m + 3 := by
  obtain ⟨h1, h2, h3, h4, h5, h6⟩ := h
  by_cases e : m = 0
  · subst e
    have := h3 rfl
    have := shape_col sh
    show a ≤ cc ∧ cc ≤ a + 3
    omega
  · have := (h4 (by omega)).1; omega

theorem skip_part {b : Nat} {s : ByteArray} {pos : Nat} {a c e r k : Int} {w wr : World} {m : Nat} {cc kk : Int} (sh : Shape s pos a c) (h : SkipRel b s pos a c e r k w m cc kk wr) (hk : 0 < kk) (hb : bl s pos m) (hx : cc + kk < R s pos a (m + 1)) (q : Nat) :
    SkipPost b s pos a c e r k w (.returned (.tuple #[])) ((wr.drewN q).setCell ⟨b, 3, none⟩ (.int .i64 (cc + kk))) := by
  have hc := skip_cc sh h
  have hkp := skip_kpos h hk
  obtain ⟨h1, h2, h3, h4, h5, h6⟩ := h
  refine ⟨rfl, m, cc + kk, .inr ⟨hkp, h2, .inr (.inl ⟨h1, hb, by omega, by omega⟩)⟩, ?_, ?_⟩
  · exact Cur.col (w := wr.drewN q) h5 _
  · exact (below_drewN h6 q).setCell (Nat.le_refl _) _

theorem skip_next {b : Nat} {s : ByteArray} {pos : Nat} {a c e r k : Int} {w wr : World} {m : Nat} {cc kk nx p' : Int} (sh : Shape s pos a c) (h : SkipRel b s pos a c e r k w m cc kk wr) (hk : 0 < kk) (hb : bl s pos m) (hnx : nx = R s pos a (m + 1)) (hp : p' = ((pos + (m + 1) : Nat) : Int)) (hx : nx ≤ cc + kk) (q : Nat) :
    SkipRel b s pos a c e r k w (m + 1) nx (kk - (nx - cc)) ((((wr.drewN q).setCell ⟨b, 1, none⟩ (.int .i64 p')).setCell ⟨b, 2, none⟩ (.int .i64 nx)).setCell ⟨b, 3, none⟩ (.int .i64 nx)) := by
  have hkp := skip_kpos h hk
  obtain ⟨h1, h2, h3, h4, h5, h6⟩ := h
  refine ⟨by omega, fun j hj => ?_, fun g => by omega, fun _ => ⟨hnx, hkp⟩, ?_, ?_⟩
  · by_cases e : j = m
    · subst e; exact ⟨hb, by omega⟩
    · exact h2 j (by omega)
  · rw [← hp, ← hnx]
    exact Cur.next (w := wr.drewN q) h5 _ _ _
  · exact (((below_drewN h6 q).setCell (Nat.le_refl _) _).setCell (Nat.le_refl _) _).setCell (Nat.le_refl _) _

end Go.Proofs.Qxb6606384a
