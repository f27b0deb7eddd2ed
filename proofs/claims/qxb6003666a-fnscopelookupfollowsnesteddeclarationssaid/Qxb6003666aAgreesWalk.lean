import Derived.Test.Qxb6003666aAgrees
namespace Go.Proofs.Qxb6003666a
open Go.RowKit
set_option linter.unusedVariables false

set_option maxRecDepth 100000 in
set_option maxHeartbeats 2000000 in
theorem agrees_any (bs base n : Nat) (pV sV : Value) (p : ByteArray) (ps ss : List ByteArray) (SB : Nat → Prop) (w : World) (h : Scope w base bs n ps (stkOf ps ss) SB) (hp : p.size ≤ maxLen) (hL : ps.length ≤ 1048576) (hle : ps.length = ss.length) (hP : Owns w base pV ps) (hS : Owns w base sV ss) :
    Calls Try.prog 23 #[.pointer (some ⟨bs, 0, none⟩), pV, sV, .string p] w fun e w' => e = .returned (.bool true) ∧ w = w' := by
  obtain ⟨ap, cp, hpv, _, _, hp1, _, hp2⟩ := hP.form
  obtain ⟨asv, cs, hsv, _, _, hs1, _, hs2⟩ := hS.form
  subst hpv
  subst hsv
  have hlk := stkOf_len ps ss p
  obtain ⟨ns, ok, hlook⟩ : ∃ ns ok, lookF (stkOf ps ss p) = (ns, ok) := ⟨_, _, rfl⟩
  have K : Hid (Calls Try.prog 28 #[.pointer (some ⟨bs, 0, none⟩), .string p] w fun e w' => e = .returned (.tuple #[.string ns, .bool ok]) ∧ w = w') := by
    have := zzLook_any bs base n p ps (stkOf ps ss) SB w h hp (by omega)
    rw [hlook] at this
    exact this
  have HLOOK : Hid _ := hlook
  have HLE : Hid _ := hle
  have HP1 : Hid _ := hp1
  have HP2 : Hid _ := hp2
  have HS1 : Hid _ := hs1
  have HS2 : Hid _ := hs2
  rw [← hle]
  obtain ⟨L, hLL⟩ : ∃ L, L = ps.length := ⟨_, rfl⟩
  have HL : Hid _ := hLL
  rw [← hLL] at hL ⊢
  clear h hP hS hlook hle hp1 hp2 hs1 hs2 hLL hlk
  go_enter Try.func23, Try.ntmps23
  go_wp2_with fail
  refine Calls.mono K.out ?_
  rintro e w' ⟨rfl, rfl⟩
  go_wp2
  go_loop [11] (fun kv => ∃ m : Nat, m ≤ L ∧ kv = .int .i64 ((m : Int) - 1) ∧ ∀ i, m ≤ i → i < ps.length → ps.getD i e0 ≠ p) (fun kv => (intOf kv + 1).toNat)
  case atStart => exact ⟨L, Nat.le_refl _, rfl, fun i h1 h2 => by rw [← HL.out] at h2; omega⟩
  case round =>
    obtain ⟨m, hm, rfl, hall⟩ := hrel
    have HALL : Hid _ := hall
    clear hall
    by_cases h0 : m = 0
    · subst h0
      have hx := lookF_none ps ss p (fun i hi => HALL.out i (Nat.zero_le _) hi)
      rw [HLOOK.out] at hx
      simp only [Prod.mk.injEq] at hx
      obtain ⟨rfl, rfl⟩ := hx
      go_wp2
      go_ret
      exact ⟨rfl, rfl⟩
    · obtain ⟨j, rfl⟩ : ∃ j, m = j + 1 := ⟨m - 1, by omega⟩
      obtain ⟨gp, rfl⟩ := HP1.out (by rw [← HL.out]; omega)
      obtain ⟨gs, rfl⟩ := HS1.out (by rw [← HLE.out, ← HL.out]; omega)
      have cpj := HP2.out gp j rfl (by rw [← HL.out]; omega)
      have csj := HS2.out gs j rfl (by rw [← HLE.out, ← HL.out]; omega)
      have ej : ((j + 1 : Nat) : Int) - 1 = (j : Int) := by omega
      rw [ej]
      have hjl : (j : Int) < (L : Int) := by omega
      by_cases hx : ps.getD j e0 = p
      · have hz := lookF_last ps ss HLE.out j (by rw [← HL.out]; omega) (fun i h1 h2 => by rw [hx]; exact HALL.out i h1 h2)
        rw [hx, HLOOK.out] at hz
        simp only [Prod.mk.injEq] at hz
        obtain ⟨hz1, rfl⟩ := hz
        rw [hx] at cpj
        rw [← hz1] at csj
        clear hz1 hx ej
        go_wp2
        go_ret
        exact ⟨rfl, rfl⟩
      · have hne := ne_toList hx
        obtain ⟨x, hxx⟩ : ∃ x, x = ps.getD j e0 := ⟨_, rfl⟩
        rw [← hxx] at cpj hne hx
        have HX : Hid _ := And.intro hxx hx
        clear hxx hx ej csj
        go_wp2
        go_round
        case rel =>
          refine ⟨j, by omega, rfl, fun i h1 h2 => ?_⟩
          by_cases e : i = j
          · subst e; rw [← HX.out.1]; exact HX.out.2
          · exact HALL.out i (by omega) h2
        case measure => simp [intOf]

end Go.Proofs.Qxb6003666a
