import Derived.Test.Qxb6606065aEscape
namespace Go.Proofs.Qxb6606065a
open Go.RowKit

/-- What 'escapeAt' answers of the bytes zs. -/
def escF (zs : List Int) : Int × Bool :=
  if zs.length < 2 then (0, false)
  else if zs.getD 1 0 ≠ 117 then (2, false)
  else if zs.length < 6 then (0, false)
  else if halfF ((zs.drop 2).take 4) = 0 then (6, false)
  else if halfF ((zs.drop 2).take 4) = 2 then (6, true)
  else if (6 < zs.length ∧ zs.getD 6 0 ≠ 92) ∨ (7 < zs.length ∧ zs.getD 7 0 ≠ 117) then (6, true)
  else escR (decide (zs.length < 12)) (halfF ((zs.drop 8).take 4))

theorem half2_cases (c : Int) : half2 c = 0 ∨ half2 c = 1 ∨ half2 c = 2 := by
  unfold half2
  split
  · simp
  · split <;> simp

theorem halfF_two (zs : List Int) (h : 2 ≤ zs.length) : halfF zs = 0 ∨ halfF zs = 1 ∨ halfF zs = 2 := by
  match zs, h with
  | c0 :: c1 :: r, _ =>
    simp only [halfF]
    by_cases h : c0 = 100 ∨ c0 = 68
    · rw [if_pos h]; exact half2_cases c1
    · rw [if_neg h]; simp

theorem reads_part (w : World) (b off : Nat) (zs : List Int) (k m : Nat) (hc : ∀ i, i < zs.length → w.cell? ⟨b, off + i, none⟩ = some (.int .u8 (zs.getD i 0))) :
    Reads w (some ⟨b, off + k, none⟩) ((zs.drop k).take m) := by
  refine .inr ⟨b, off + k, rfl, fun i hi => ?_⟩
  simp at hi
  have hi1 : i < m := by omega
  have := hc (k + i) (by omega)
  rw [show off + k + i = off + (k + i) from by omega, this]
  have e : ((zs.drop k).take m).getD i 0 = zs.getD (k + i) 0 := by
    simp [List.getD, List.getElem?_drop, hi1]
  rw [e]

theorem esc_any (a : Option Addr) (n cap : Nat) (zs : List Int) (w : World) (hn : n = zs.length) (hcap : n ≤ cap) (h : Reads w a zs) :
    Calls Try.prog 16 #[.slice a n cap] w fun e w' => e = .returned (.tuple #[.int .i64 (escF zs).1, .bool (escF zs).2]) ∧ w = w' := by
  by_cases hs : n < 2
  · have : escF zs = (0, false) := by unfold escF; rw [if_pos (by omega)]
    rw [this]; exact esc_short a n cap w hs
  rcases h with h | ⟨b, off, rfl, hc⟩
  · subst h; simp at hn; omega
  have cell : ∀ i, i < n → w.cell? ⟨b, off + i, none⟩ = some (.int .u8 (zs.getD i 0)) := fun i hi => hc i (by omega)
  have g1 := cell 1 (by omega)
  by_cases hu : zs.getD 1 0 = 117
  case neg =>
    have : escF zs = (2, false) := by unfold escF; rw [if_neg (by omega), if_pos hu]
    rw [this]; exact esc_plain b off n cap _ w (by omega) g1 hu
  rw [hu] at g1
  by_cases h6 : n < 6
  · have : escF zs = (0, false) := by unfold escF; rw [if_neg (by omega), if_neg (by simpa using hu), if_pos (by omega)]
    rw [this]; exact esc_soon b off n cap w (by omega) h6 g1
  have l4 : ((zs.drop 2).take 4).length = 4 := by simp; omega
  have K1 : H1 b off cap (halfF ((zs.drop 2).take 4)) w := half_any _ 4 (cap - 2) _ w l4.symm (reads_part w b off zs 2 4 hc)
  have eF : escF zs = if halfF ((zs.drop 2).take 4) = 0 then (6, false)
      else if halfF ((zs.drop 2).take 4) = 2 then (6, true)
      else if (6 < zs.length ∧ zs.getD 6 0 ≠ 92) ∨ (7 < zs.length ∧ zs.getD 7 0 ≠ 117) then (6, true)
      else escR (decide (zs.length < 12)) (halfF ((zs.drop 8).take 4)) := by
    unfold escF; rw [if_neg (by omega), if_neg (by simpa using hu), if_neg (by omega)]
  rw [eF]
  rcases halfF_two _ (show 2 ≤ ((zs.drop 2).take 4).length by omega) with e | e | e
  · rw [e] at K1 ⊢; exact esc_none b off n cap w (by omega) hcap g1 K1
  case inr.inr => rw [e] at K1 ⊢; exact esc_low b off n cap w (by omega) hcap g1 K1
  rw [e] at K1 ⊢
  rw [if_neg (by decide), if_neg (by decide)]
  by_cases n6 : n = 6
  · rw [if_neg (by omega)]
    have : (zs.drop 8).take 4 = [] := by
      apply List.eq_nil_of_length_eq_zero; simp; omega
    rw [this]
    subst n6
    exact esc_six b off cap w hcap g1 K1
  have g6 := cell 6 (by omega)
  by_cases h92 : zs.getD 6 0 = 92
  case neg =>
    rw [if_pos (.inl ⟨by omega, h92⟩)]
    exact esc_lone6 b off n cap _ w (by omega) hcap g1 g6 h92 K1
  rw [h92] at g6
  by_cases n7 : n = 7
  · rw [if_neg (by omega)]
    have : (zs.drop 8).take 4 = [] := by
      apply List.eq_nil_of_length_eq_zero; simp; omega
    rw [this]
    subst n7
    exact esc_seven b off cap w hcap g1 g6 K1
  have g7 : w.cell? ⟨b, off + 6 + 1, none⟩ = some (.int .u8 (zs.getD 7 0)) := cell 7 (by omega)
  by_cases h117 : zs.getD 7 0 = 117
  case neg =>
    rw [if_pos (.inr ⟨by omega, h117⟩)]
    exact esc_lone7 b off n cap _ w (by omega) hcap g1 g6 g7 h117 K1
  rw [h117] at g7
  rw [if_neg (by omega)]
  by_cases n8 : n = 8
  · have : (zs.drop 8).take 4 = [] := by
      apply List.eq_nil_of_length_eq_zero; simp; omega
    rw [this]
    subst n8
    exact esc_eight b off cap w hcap g1 g6 g7 K1
  by_cases n12 : n < 12
  · have K2 : H2 b off (n - 8) cap (halfF ((zs.drop 8).take 4)) w := half_any _ (n - 8) (cap - 6 - 2) _ w (by simp; omega) (reads_part w b off zs 8 4 hc)
    rw [decide_eq_true (by omega)]
    exact esc_mid b off n cap _ w (by omega) hcap g1 g6 g7 K1 K2
  · have K2 : H2 b off 4 cap (halfF ((zs.drop 8).take 4)) w := half_any _ 4 (cap - 6 - 2) _ w (by simp; omega) (reads_part w b off zs 8 4 hc)
    rw [decide_eq_false (by omega)]
    exact esc_long b off n cap _ w (by omega) hcap g1 g6 g7 K1 K2

set_option maxHeartbeats 400000 in
theorem zzEsc_any (a : Option Addr) (n cap : Nat) (zs : List Int) (w : World) (hn : n = zs.length) (hcap : n ≤ cap) (h : Reads w a zs) :
    Calls Try.prog 9 #[.slice a n cap] w fun e w' => e = .returned (.tuple #[.int .i64 (escF zs).1, .bool (escF zs).2]) ∧ w = w' := by
  have H : Hid _ := esc_any a n cap zs w hn hcap h
  clear h hn hcap
  go_enter Try.func9, Try.ntmps9
  go_wp2_with fail
  refine Calls.mono H.out ?_
  rintro e w' ⟨rfl, rfl⟩
  go_wp2
  go_ret2
  exact ⟨rfl, rfl⟩

/-- THE PLAIN LAW. -/
theorem esc_bound (zs : List Int) : ((escF zs).1 = 0 ∨ (escF zs).1 = 2 ∨ (escF zs).1 = 6 ∨ (escF zs).1 = 12) ∧ (escF zs).1 ≤ zs.length ∧ ((escF zs).2 = true → (escF zs).1 = 6) ∧ (12 ≤ zs.length → (escF zs).1 ≠ 0) := by
  unfold escF
  by_cases h1 : zs.length < 2
  · rw [if_pos h1]; refine ⟨.inl rfl, by simp, by simp, by omega⟩
  rw [if_neg h1]
  by_cases h2 : zs.getD 1 0 ≠ 117
  · rw [if_pos h2]; refine ⟨.inr (.inl rfl), by simp; omega, by simp, by simp⟩
  rw [if_neg h2]
  by_cases h3 : zs.length < 6
  · rw [if_pos h3]; refine ⟨.inl rfl, by simp, by simp, by omega⟩
  rw [if_neg h3]
  by_cases h4 : halfF ((zs.drop 2).take 4) = 0
  · rw [if_pos h4]; refine ⟨.inr (.inr (.inl rfl)), by simp; omega, by simp, by simp⟩
  rw [if_neg h4]
  by_cases h5 : halfF ((zs.drop 2).take 4) = 2
  · rw [if_pos h5]; refine ⟨.inr (.inr (.inl rfl)), by simp; omega, by simp, by simp⟩
  rw [if_neg h5]
  by_cases h6 : (6 < zs.length ∧ zs.getD 6 0 ≠ 92) ∨ (7 < zs.length ∧ zs.getD 7 0 ≠ 117)
  · rw [if_pos h6]; refine ⟨.inr (.inr (.inl rfl)), by simp; omega, by simp, by simp⟩
  rw [if_neg h6]
  unfold escR
  by_cases h7 : halfF ((zs.drop 8).take 4) = 3
  · rw [if_pos h7]
    refine ⟨.inl rfl, by simp, by simp, fun h => ?_⟩
    have := halfF_two ((zs.drop 8).take 4) (by simp; omega)
    omega
  rw [if_neg h7]
  by_cases h8 : halfF ((zs.drop 8).take 4) = 2
  · rw [if_pos h8]
    by_cases h9 : zs.length < 12
    · rw [decide_eq_true h9]; refine ⟨.inl rfl, by simp, by simp, by omega⟩
    · rw [decide_eq_false h9]; refine ⟨.inr (.inr (.inr rfl)), by simp; omega, by simp, by simp⟩
  rw [if_neg h8]
  refine ⟨.inr (.inr (.inl rfl)), by simp; omega, by simp, by simp⟩

end Go.Proofs.Qxb6606065a
