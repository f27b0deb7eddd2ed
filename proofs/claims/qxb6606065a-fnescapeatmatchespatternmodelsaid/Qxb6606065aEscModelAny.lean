import Derived.Test.Qxb6606065aEscWalk
namespace Go.Proofs.Qxb6606065a
open Go.RowKit

theorem halfF_four (zs : List Int) (h : 6 ≤ zs.length) : halfF ((zs.drop 2).take 4) = unitF (zs.getD 2 0) (zs.getD 3 0) := by
  have e : (zs.drop 2).take 4 = zs.getD 2 0 :: zs.getD 3 0 :: ((zs.drop 2).take 4).drop 2 := by
    apply List.ext_getElem?
    intro i
    match i with
    | 0 => simp [List.getD, List.getElem?_eq_getElem (show 2 < zs.length by omega)]
    | 1 => simp [List.getD, List.getElem?_eq_getElem (show 3 < zs.length by omega)]
    | i + 2 => simp [List.getElem?_drop, Nat.add_comm]
  rw [e, unitF_eq]
  rfl

theorem em_any (a : Option Addr) (n cap : Nat) (zs : List Int) (w : World) (hn : n = zs.length) (hmax : n ≤ 1048576) (h : Reads w a zs) :
    Calls Try.prog 10 #[.slice a n cap] w fun e w' => e = .returned (.tuple #[.int .i64 (escF zs).1, .bool (escF zs).2]) ∧ ∃ q, w' = w.drewN q := by
  have zero : ∀ {v : Value}, Calls Try.prog 10 #[.slice a n cap] w (fun e w' => e = .returned v ∧ w = w') → Calls Try.prog 10 #[.slice a n cap] w fun e w' => e = .returned v ∧ ∃ q, w' = w.drewN q := by
    intro v h
    refine h.mono ?_
    rintro e w' ⟨rfl, rfl⟩
    exact ⟨rfl, 0, rfl⟩
  by_cases hs : n < 2
  · have : escF zs = (0, false) := by unfold escF; rw [if_pos (by omega)]
    rw [this]; exact zero (em_short a n cap w hs)
  rcases h with h | ⟨b, off, rfl, hc⟩
  · subst h; simp at hn; omega
  have cell : ∀ i, i < n → w.cell? ⟨b, off + i, none⟩ = some (.int .u8 (zs.getD i 0)) := fun i hi => hc i (by omega)
  have g1 := cell 1 (by omega)
  by_cases hu : zs.getD 1 0 = 117
  case neg =>
    have : escF zs = (2, false) := by unfold escF; rw [if_neg (by omega), if_pos hu]
    rw [this]; exact zero (em_plain b off n cap _ w (by omega) g1 hu)
  rw [hu] at g1
  by_cases h6 : n < 6
  · have : escF zs = (0, false) := by unfold escF; rw [if_neg (by omega), if_neg (by simpa using hu), if_pos (by omega)]
    rw [this]; exact zero (em_soon b off n cap w (by omega) h6 g1)
  have g2 := cell 2 (by omega)
  have g3 := cell 3 (by omega)
  have l4 : ((zs.drop 2).take 4).length = 4 := by simp; omega
  have hf := halfF_four zs (by omega)
  have hU : U (zs.getD 2 0) (zs.getD 3 0) (halfF ((zs.drop 2).take 4)) := by rw [hf]; exact fun w => unit_any _ _ w
  rcases halfF_two _ (show 2 ≤ ((zs.drop 2).take 4).length by omega) with e | e | e
  · have : escF zs = (6, false) := by unfold escF; rw [if_neg (by omega), if_neg (by simpa using hu), if_neg (by omega), if_pos e]
    rw [e] at hU
    rw [this]; exact em_none b off n cap _ _ w (by omega) g1 g2 g3 hU
  case inr.inr =>
    have : escF zs = (6, true) := by unfold escF; rw [if_neg (by omega), if_neg (by simpa using hu), if_neg (by omega), if_neg (by rw [e]; decide), if_pos e]
    rw [e] at hU
    rw [this]; exact em_low b off n cap _ _ w (by omega) g1 g2 g3 hU
  have hp := esc_pattern zs (by omega) hu e
  rw [e] at hU
  by_cases h10 : n ≤ 10
  · rw [show min (zs.length - 6) 4 = n - 6 by omega, if_pos (show zs.length < 12 by omega)] at hp
    exact em_mid b off n cap _ _ zs _ w (by omega) h10 g1 g2 g3 hU (fun k hk => cell (6 + k) (by omega)) hp.1 hp.2
  · rw [show min (zs.length - 6) 4 = 4 by omega, ← hn] at hp
    exact em_long b off n cap _ _ zs _ w (by omega) hmax g1 g2 g3 hU (fun k hk => cell (6 + k) (by omega)) hp.1 hp.2

end Go.Proofs.Qxb6606065a
