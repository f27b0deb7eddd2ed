import Derived.Test.Qxb6606342aPlain
import Derived.Deep.QuietTactic
import Derived.BigQuiet
namespace Go.Proofs.Qxb6606342a
open Go.RowKit

/-- The numbers of a list, by place, as values. -/
def numAt (l : List Nat) (i : Nat) : Value := .int .i64 (l.getD i 0 : Nat)

/-- The slice v lists the numbers l. -/
def Row (w : World) (v : Value) (l : List Nat) : Prop := ∃ a cap, v = .slice a l.length cap ∧ l.length ≤ cap ∧ Reads w a l.length (numAt l)

theorem reads_below {w w' : World} {a : Option Addr} {n : Nat} {f : Nat → Value} (h : Reads w a n f) (hb : Below w.heap.size w w') : Reads w' a n f := by
  rcases h with h | ⟨b, off, h, hc⟩
  · exact .inl h
  · exact .inr ⟨b, off, h, fun i hi => (hb.cell (World.block_lt_of_cell? w _ (hc i hi))).trans (hc i hi)⟩

theorem row_below {w w' : World} {v : Value} {l : List Nat} (h : Row w v l) (hb : Below w.heap.size w w') : Row w' v l := by
  obtain ⟨a, cap, h1, h2, h3⟩ := h
  exact ⟨a, cap, h1, h2, reads_below h3 hb⟩

theorem row_of_lists {base : Nat} {w : World} {v : Value} {l : List Nat} (h : Lists base w v l) : Row w v l := by
  rcases h with ⟨rfl, rfl⟩ | ⟨_, g, cap, rfl, _, _, hc, hx⟩
  · exact ⟨none, 0, rfl, Nat.le_refl _, .inl rfl⟩
  · exact ⟨_, cap, rfl, hc, .inr ⟨g, 0, rfl, hx⟩⟩

theorem row_of_owns {base : Nat} {w : World} {v : Value} {l : List Nat} (h : w.ownsRow base 3 1 v l.length (ints l)) : Row w v l := by
  rcases h.2 with ⟨rfl, h0⟩ | ⟨g, cap, cur, rfl, hb, hg, hc, _⟩
  · have : l = [] := List.eq_nil_of_length_eq_zero h0
    subst this
    exact ⟨none, 0, rfl, Nat.le_refl _, .inl rfl⟩
  · refine ⟨_, cap, rfl, hc, .inr ⟨g, 0, rfl, fun j hj => ?_⟩⟩
    rw [Nat.zero_add, h.cellAt j (by omega)]
    simp [ints, numAt, hj]

/-- Cells, with the address given where there is one. -/
theorem reads_cells {w : World} {a : Option Addr} {n : Nat} {f : Nat → Value} (h : Reads w a n f) :
    ∃ b off, (0 < n → a = some ⟨b, off, none⟩) ∧ ∀ i, i < n → w.cell? ⟨b, off + i, none⟩ = some (f i) ∧ b < w.heap.size := by
  rcases h with h | ⟨b, off, h, hc⟩
  · exact ⟨0, 0, fun g => by omega, fun i hi => by omega⟩
  · exact ⟨b, off, fun _ => h, fun i hi => ⟨hc i hi, World.block_lt_of_cell? w _ (hc i hi)⟩⟩

theorem owns_drewN {w : World} {base : Nat} {e : TypeId} {size : Nat} {v : Value} {n : Nat} {xs : List Value} (h : w.ownsRow base e size v n xs) (q : Nat) : (w.drewN q).ownsRow base e size v n xs := h

theorem eq_num {x : Int} {m n : Nat} (h : n = m) (e : x = (m : Int)) : Value.int .i64 x = .int .i64 (n : Int) := by rw [h, e]

def orB (F G : Nat → Bool) (x : Nat) : Bool := F x || G x

theorem orB_eq (F G : Nat → Bool) : (fun x => F x || G x) = orB F G := rfl

set_option maxRecDepth 20000 in
set_option maxHeartbeats 2000000 in
theorem merge_any (a1 a2 : Option Addr) (n1 n2 c1 c2 : Nat) (F G : Nat → Bool) (N : Nat) (w : World) (hN : N ≤ 65536) (e1 : n1 = (trues F N).length) (e2 : n2 = (trues G N).length)
    (r1 : Reads w a1 n1 (numAt (trues F N))) (r2 : Reads w a2 n2 (numAt (trues G N))) :
    Calls Try.prog 13 #[.slice a1 n1 c1, .slice a2 n2 c2] w fun e w' => ∃ v, e = .returned v ∧ Row w' v (trues (orB F G) N) ∧ Below w.heap.size w w' := by
  obtain ⟨b1, o1, A1, C1⟩ := reads_cells r1
  obtain ⟨b2, o2, A2, C2⟩ := reads_cells r2
  have E1 : Hid _ := e1
  have E2 : Hid _ := e2
  have l1 : n1 ≤ 65536 := by have := trues_len F N; omega
  have l2 : n2 ≤ 65536 := by have := trues_len G N; omega
  have HA1 : Hid _ := A1
  have HA2 : Hid _ := A2
  have HC1 : Hid _ := C1
  have HC2 : Hid _ := C2
  clear e1 e2 r1 r2 A1 A2 C1 C2
  obtain ⟨i0, hi, hz0, hz1, hz2⟩ := info_parts Try.info3
  go_enter Try.func13, Try.ntmps13
  go_wp2_with (at_make; refine wpList_make_own _ rfl _ _ 23 rfl w.heap.size 3 i0 (.int .i64 0) 1 Try.underlying23 hi hz0 hz1 .i64 .i64 _ (n1 + n2) rfl rfl (by omega) (by rw [hz2]; omega) (by unfold maxLen; omega) (Nat.le_refl _) ?_; intro w0 hown0 hgrow0)
  go_loopw [5, 6, 7] (fun v i j wr => ∃ t : Nat, t ≤ N ∧ i = .int .i64 (trues F t).length ∧ j = .int .i64 (trues G t).length ∧ wr.ownsRow w.heap.size 3 1 v (trues (orB F G) t).length (ints (trues (orB F G) t)) ∧ Below w.heap.size w wr)
    (fun _ i j _ => (n1 - (intOf i).toNat) + (n2 - (intOf j).toNat))
  case atStart => exact ⟨0, Nat.zero_le _, rfl, rfl, hown0, (Below.refl _ _).grown hgrow0 (Nat.le_refl _) (fun k h => by cases h)⟩
  case round =>
    obtain ⟨t, ht, rfl, rfl, hown, hnx⟩ := hrel
    clear hown0 hgrow0
    obtain ⟨i, hi1⟩ : ∃ i, i = (trues F t).length := ⟨_, rfl⟩
    obtain ⟨j, hj1⟩ : ∃ j, j = (trues G t).length := ⟨_, rfl⟩
    have HI : Hid _ := hi1
    have HJ : Hid _ := hj1
    rw [← hi1, ← hj1]
    have nF : i < n1 → _ := fun h => trues_next F t N ht (by rw [← hi1, ← E1.out]; exact h)
    have nG : j < n2 → _ := fun h => trues_next G t N ht (by rw [← hj1, ← E2.out]; exact h)
    have dF : ¬ i < n1 → _ := fun h => trues_done F t N ht (by rw [← hi1, ← E1.out]; exact h)
    have dG : ¬ j < n2 → _ := fun h => trues_done G t N ht (by rw [← hj1, ← E2.out]; exact h)
    rw [← hi1] at nF
    rw [← hj1] at nG
    clear hi1 hj1
    have hsz := hnx.size
    have hlH := trues_len (orB F G) t
    obtain ⟨p, hp⟩ : ∃ p, p = (trues F N).getD i 0 := ⟨_, rfl⟩
    obtain ⟨q, hq⟩ : ∃ q, q = (trues G N).getD j 0 := ⟨_, rfl⟩
    rw [← hp] at nF
    rw [← hq] at nG
    by_cases hil : i < n1
    · obtain ⟨p1, p2, p3, p4⟩ := nF hil
      obtain rfl := HA1.out (by omega)
      have cp : wr.cell? ⟨b1, o1 + i, none⟩ = some (.int .i64 p) := by rw [hnx.cell (HC1.out i hil).2, (HC1.out i hil).1, hp]; rfl
      clear nF dF
      by_cases hjl : j < n2
      · obtain ⟨q1, q2, q3, q4⟩ := nG hjl
        obtain rfl := HA2.out (by omega)
        have cq : wr.cell? ⟨b2, o2 + j, none⟩ = some (.int .i64 q) := by rw [hnx.cell (HC2.out j hjl).2, (HC2.out j hjl).1, hq]; rfl
        clear nG dG hp hq
        rcases (show p < q ∨ q < p ∨ p = q by omega) with hpq | hpq | hpq
        · have PF : Hid (F p = true) := p3
          have PG : Hid (G p = false) := q4 p p1 hpq
          have ST : Hid _ := merge_step F G t p p1 p4 (fun y h1 h2 => q4 y h1 (by omega))
          clear p3 p4 q3 q4
          have g1 : decide ((n2 : Int) ≤ (j : Int)) = false := decide_eq_false (by omega)
          have g1' : (j : Int) < (n2 : Int) := by omega
          have g2 : (i : Int) < (n1 : Int) := by omega
          have g3 : (p : Int) < (q : Int) := by omega
          go_wp2
          go_quiet (fail)
          go_wp2_with (at_builtin; refine wpList_append_own _ rfl _ _ 23 rfl w.heap.size 3 i0 (.int .i64 0) 1 8 Try.underlying23 hi hz0 hz1 hz2 rfl (by decide) _ _ _ rfl ((owns_drewN hown _).alloc _) ⟨wr.heap.size, 0, none⟩ 1 1 [.int .i64 p] rfl rfl (cell_one_new _ _ _) (by intro u hu; simp at hu; subst hu; rfl) (by unfold maxLen; omega) (by omega) (by simp; omega) ?_; intro v1 w1 hown1 hgrow1 hnil1)
          go_roundw
          case rel =>
            obtain ⟨s1, s2, s3⟩ := ST.out
            rw [PF.out] at s1 s3
            rw [PG.out] at s2 s3
            simp only [Bool.false_eq_true, if_false, if_true, Nat.add_zero] at s1 s2
            have s3' : trues (orB F G) (p + 1) = trues (orB F G) t ++ [p] := s3 rfl
            exact ⟨p + 1, by omega, eq_num (by rw [s1, ← HI.out]) (by omega), eq_num (by rw [s2, ← HJ.out]) (by omega), by rw [s3', ints_append, List.length_append]; exact hown1, ((below_drewN hnx _).alloc (by simpa using hsz) _).grown hgrow1 (by simp; omega) (fun j hj => (hown.lt j hj).1)⟩
          case measure => simp [intOf]; omega
        · have PF : Hid (F q = false) := p4 q q1 hpq
          have PG : Hid (G q = true) := q3
          have ST : Hid _ := merge_step F G t q q1 (fun y h1 h2 => p4 y h1 (by omega)) q4
          clear p3 p4 q3 q4
          have g1 : decide ((n2 : Int) ≤ (j : Int)) = false := decide_eq_false (by omega)
          have g1' : (j : Int) < (n2 : Int) := by omega
          have g2 : (i : Int) < (n1 : Int) := by omega
          have g2' : decide ((n1 : Int) ≤ (i : Int)) = false := decide_eq_false (by omega)
          have g3 : decide ((p : Int) < (q : Int)) = false := decide_eq_false (by omega)
          have g4 : (q : Int) < (p : Int) := by omega
          go_wp2
          go_quiet (fail)
          go_wp2
          go_quiet (fail)
          go_wp2_with (at_builtin; refine wpList_append_own _ rfl _ _ 23 rfl w.heap.size 3 i0 (.int .i64 0) 1 8 Try.underlying23 hi hz0 hz1 hz2 rfl (by decide) _ _ _ rfl ((owns_drewN hown _).alloc _) ⟨wr.heap.size, 0, none⟩ 1 1 [.int .i64 q] rfl rfl (cell_one_new _ _ _) (by intro u hu; simp at hu; subst hu; rfl) (by unfold maxLen; omega) (by omega) (by simp; omega) ?_; intro v1 w1 hown1 hgrow1 hnil1)
          go_roundw
          case rel =>
            obtain ⟨s1, s2, s3⟩ := ST.out
            rw [PF.out] at s1 s3
            rw [PG.out] at s2 s3
            simp only [Bool.false_eq_true, if_false, if_true, Nat.add_zero] at s1 s2
            have s3' : trues (orB F G) (q + 1) = trues (orB F G) t ++ [q] := s3 rfl
            exact ⟨q + 1, by omega, eq_num (by rw [s1, ← HI.out]) (by omega), eq_num (by rw [s2, ← HJ.out]) (by omega), by rw [s3', ints_append, List.length_append]; exact hown1, ((below_drewN hnx _).alloc (by simpa using hsz) _).grown hgrow1 (by simp; omega) (fun j hj => (hown.lt j hj).1)⟩
          case measure => simp [intOf]; omega
        · obtain rfl := hpq
          have PF : Hid (F p = true) := p3
          have PG : Hid (G p = true) := q3
          have ST : Hid _ := merge_step F G t p p1 p4 q4
          clear p3 p4 q3 q4
          have g1 : decide ((n2 : Int) ≤ (j : Int)) = false := decide_eq_false (by omega)
          have g1' : (j : Int) < (n2 : Int) := by omega
          have g2 : (i : Int) < (n1 : Int) := by omega
          have g2' : decide ((n1 : Int) ≤ (i : Int)) = false := decide_eq_false (by omega)
          have g3 : decide ((p : Int) < (p : Int)) = false := decide_eq_false (by omega)
          go_wp2
          go_quiet (fail)
          go_wp2
          go_quiet (fail)
          go_wp2_with (at_builtin; refine wpList_append_own _ rfl _ _ 23 rfl w.heap.size 3 i0 (.int .i64 0) 1 8 Try.underlying23 hi hz0 hz1 hz2 rfl (by decide) _ _ _ rfl ((owns_drewN hown _).alloc _) ⟨wr.heap.size, 0, none⟩ 1 1 [.int .i64 p] rfl rfl (cell_one_new _ _ _) (by intro u hu; simp at hu; subst hu; rfl) (by unfold maxLen; omega) (by omega) (by simp; omega) ?_; intro v1 w1 hown1 hgrow1 hnil1)
          go_roundw
          case rel =>
            obtain ⟨s1, s2, s3⟩ := ST.out
            rw [PF.out] at s1 s3
            rw [PG.out] at s2 s3
            simp only [if_true] at s1 s2
            have s3' : trues (orB F G) (p + 1) = trues (orB F G) t ++ [p] := s3 rfl
            exact ⟨p + 1, by omega, eq_num (by rw [s1, ← HI.out]) (by omega), eq_num (by rw [s2, ← HJ.out]) (by omega), by rw [s3', ints_append, List.length_append]; exact hown1, ((below_drewN hnx _).alloc (by simpa using hsz) _).grown hgrow1 (by simp; omega) (fun j hj => (hown.lt j hj).1)⟩
          case measure => simp [intOf]; omega
      · clear nG hp hq
        have gG : ∀ y, t ≤ y → y < p + 1 → G y = false := fun y h1 h2 => dG hjl y h1 (by omega)
        have ST : Hid _ := merge_step F G t p p1 p4 (fun y h1 h2 => gG y h1 (by omega))
        have PG : Hid (G p = false) := gG p p1 (by omega)
        have PF : Hid (F p = true) := p3
        clear dG gG p3 p4
        have g1 : (n2 : Int) ≤ (j : Int) := by omega
        have g2 : (i : Int) < (n1 : Int) := by omega
        go_wp2
        go_quiet (fail)
        go_wp2_with (at_builtin; refine wpList_append_own _ rfl _ _ 23 rfl w.heap.size 3 i0 (.int .i64 0) 1 8 Try.underlying23 hi hz0 hz1 hz2 rfl (by decide) _ _ _ rfl ((owns_drewN hown _).alloc _) ⟨wr.heap.size, 0, none⟩ 1 1 [.int .i64 p] rfl rfl (cell_one_new _ _ _) (by intro u hu; simp at hu; subst hu; rfl) (by unfold maxLen; omega) (by omega) (by simp; omega) ?_; intro v1 w1 hown1 hgrow1 hnil1)
        go_roundw
        case rel =>
          obtain ⟨s1, s2, s3⟩ := ST.out
          rw [PF.out] at s1 s3
          rw [PG.out] at s2 s3
          simp only [Bool.false_eq_true, if_false, if_true, Nat.add_zero] at s1 s2
          have s3' : trues (orB F G) (p + 1) = trues (orB F G) t ++ [p] := s3 rfl
          exact ⟨p + 1, by omega, eq_num (by rw [s1, ← HI.out]) (by omega), eq_num (by rw [s2, ← HJ.out]) (by omega), by rw [s3', ints_append, List.length_append]; exact hown1, ((below_drewN hnx _).alloc (by simpa using hsz) _).grown hgrow1 (by simp; omega) (fun j hj => (hown.lt j hj).1)⟩
        case measure => simp [intOf]; omega
    · clear nF hp
      have g2' : decide ((i : Int) < (n1 : Int)) = false := decide_eq_false (by omega)
      have g2 : (n1 : Int) ≤ (i : Int) := by omega
      by_cases hjl : j < n2
      · obtain ⟨q1, q2, q3, q4⟩ := nG hjl
        obtain rfl := HA2.out (by omega)
        have cq : wr.cell? ⟨b2, o2 + j, none⟩ = some (.int .i64 q) := by rw [hnx.cell (HC2.out j hjl).2, (HC2.out j hjl).1, hq]; rfl
        clear nG dG hq
        have gF : ∀ y, t ≤ y → y < q + 1 → F y = false := fun y h1 h2 => dF hil y h1 (by omega)
        have ST : Hid _ := merge_step F G t q q1 (fun y h1 h2 => gF y h1 (by omega)) q4
        have PF : Hid (F q = false) := gF q q1 (by omega)
        have PG : Hid (G q = true) := q3
        clear dF gF q3 q4
        have g1 : decide ((n2 : Int) ≤ (j : Int)) = false := decide_eq_false (by omega)
        have g1n : decide (n2 ≤ j) = false := decide_eq_false (by omega)
        have g2n : decide (i < n1) = false := decide_eq_false (by omega)
        have g1' : (j : Int) < (n2 : Int) := by omega
        go_wp2
        go_quiet (fail)
        go_wp2
        go_quiet (fail)
        go_wp2_with (at_builtin; refine wpList_append_own _ rfl _ _ 23 rfl w.heap.size 3 i0 (.int .i64 0) 1 8 Try.underlying23 hi hz0 hz1 hz2 rfl (by decide) _ _ _ rfl ((owns_drewN hown _).alloc _) ⟨wr.heap.size, 0, none⟩ 1 1 [.int .i64 q] rfl rfl (cell_one_new _ _ _) (by intro u hu; simp at hu; subst hu; rfl) (by unfold maxLen; omega) (by omega) (by simp; omega) ?_; intro v1 w1 hown1 hgrow1 hnil1)
        go_roundw
        case rel =>
          obtain ⟨s1, s2, s3⟩ := ST.out
          rw [PF.out] at s1 s3
          rw [PG.out] at s2 s3
          simp only [Bool.false_eq_true, if_false, if_true, Nat.add_zero] at s1 s2
          have s3' : trues (orB F G) (q + 1) = trues (orB F G) t ++ [q] := s3 rfl
          exact ⟨q + 1, by omega, eq_num (by rw [s1, ← HI.out]) (by omega), eq_num (by rw [s2, ← HJ.out]) (by omega), by rw [s3', ints_append, List.length_append]; exact hown1, ((below_drewN hnx _).alloc (by simpa using hsz) _).grown hgrow1 (by simp; omega) (fun j hj => (hown.lt j hj).1)⟩
        case measure => simp [intOf]; omega
      · clear nG hq
        have fin : trues (orB F G) N = trues (orB F G) t := trues_jump _ t N ht (fun y h1 h2 => by simp [orB, dF hil y h1 h2, dG hjl y h1 h2])
        have FIN : Hid _ := fin
        have g1 : decide ((j : Int) < (n2 : Int)) = false := decide_eq_false (by omega)
        clear fin dF dG
        go_wp2
        go_ret
        exact ⟨_, rfl, by rw [FIN.out]; exact row_of_owns hown, hnx⟩

end Go.Proofs.Qxb6606342a
