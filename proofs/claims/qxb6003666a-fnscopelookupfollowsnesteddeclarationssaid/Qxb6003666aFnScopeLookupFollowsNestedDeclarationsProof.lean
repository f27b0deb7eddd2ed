import Derived.Test.Qxb6003666aLaw
import Derived.ProofKit
import Derived.OpenShut
import Derived.ShutString
import Derived.ChangeOld
import Derived.Below
import Derived.SliceStrings
import Derived.Deep.Slices
import Derived.Deep.Strs
namespace Go.Proofs.Qxb6003666a.fnScopeLookupFollowsNestedDeclarations
open Go.ChangeShapes Go.WideShapes Go.ChangeAt Go.RowKit
set_option linter.unusedVariables false

theorem own : ownKnob Try.prog.godebug = none := by kernel_rfl
theorem laidOut : laidOutB Try.prog = true := by kernel_rfl

/-- One element of the list of steps: its three cells. -/
theorem open_op {H : Type} {enc : TypeId × Value → H} {w : World} {base n : Nat} {spare : Nat → Bool} {held : Bool} {a : Addr} {cs : List Value} {y : DataW H × List MemPlace}
    (h1 : w.cells? base a 3 = some cs) (h2 : DataW.trod enc Try.prog w base spare held n 34 cs = some y) :
    ∃ q : Int × ByteArray × ByteArray, (0 ≤ q.1 ∧ q.1 ≤ 255) ∧ w.cell? a = some (.int .u8 q.1) ∧ w.cell? (a.add 1) = some (.string q.2.1) ∧ w.cell? (a.add 2) = some (.string q.2.2) := by
  obtain ⟨_, hlen, hcell⟩ := World.cells?_some h1
  obtain ⟨y0, y1, y2, n', _, _, t0, t1, t2⟩ := Deep.trod_struct3 Try.underlying34 h2
  match cs, hlen with
  | [v0, v1, v2], _ =>
    obtain ⟨k, hk, _, wf⟩ := DataW.trod_int Try.underlying5 t0
    obtain ⟨s1, hs1, _, _⟩ := DataW.trod_string Try.underlying9 t1
    obtain ⟨s2, hs2, _, _⟩ := DataW.trod_string Try.underlying9 t2
    have c5 : Try.prog.cellsOf 5 = 1 := by kernel_rfl
    have c9 : Try.prog.cellsOf 9 = 1 := by kernel_rfl
    simp [c5, c9] at hk hs1 hs2
    subst hk hs1 hs2
    have e0 := hcell 0 (by omega)
    have e1 := hcell 1 (by omega)
    have e2 := hcell 2 (by omega)
    exact ⟨(k, s1, s2), bounds_u8 wf, by simpa [Addr.add] using e0, by simpa using e1, by simpa using e2⟩

/-- The list of steps as a whole. -/
theorem open_ops {H : Type} {enc : TypeId × Value → H} {w : World} {base fuel : Nat} {held : Bool} {a : Option Addr} {len cap : Nat} {x : DataW H × List MemPlace}
    (h : DataW.trod enc Try.prog w base (fun _ => true) held fuel 30 [.slice a len cap] = some x) :
    ∃ (Kd : Nat → Int) (Pf Ns : Nat → ByteArray), (∀ i, 0 ≤ Kd i ∧ Kd i ≤ 255) ∧ IsSlice w 3 a len cap (opCell Kd Pf Ns) := by
  rcases Deep.open_slice Try.underlying30 h with ⟨hcs, _⟩ | ⟨b, len', cap', m, n, D, Pl, hcs, _, hl, _, hm, _, hall⟩
  · simp at hcs
    obtain ⟨rfl, rfl, rfl⟩ := hcs
    exact ⟨fun _ => 0, fun _ => ByteArray.empty, fun _ => ByteArray.empty, fun _ => by simp, .inl ⟨rfl, rfl, rfl⟩⟩
  · simp at hcs
    obtain ⟨rfl, rfl, rfl⟩ := hcs
    simp at hm
    subst hm
    have c34 : Try.prog.cellsOf 34 = 3 := by kernel_rfl
    rw [c34] at hall
    obtain ⟨q, hq⟩ := Deep.choose_lt (α := Int × ByteArray × ByteArray) (p := fun i q => (0 ≤ q.1 ∧ q.1 ≤ 255) ∧ w.cell? (b.add (i * 3)) = some (.int .u8 q.1) ∧ w.cell? ((b.add (i * 3)).add 1) = some (.string q.2.1) ∧ w.cell? ((b.add (i * 3)).add 2) = some (.string q.2.2))
      (fun i (hi : i < m) => by
        obtain ⟨cs', g1, g2⟩ := hall i hi
        exact open_op g1 g2)
    refine ⟨fun i => if i < m then (q i).1 else 0, fun i => (q i).2.1, fun i => (q i).2.2, fun i => ?_, .inr ⟨b, rfl, hl, fun i hi => ?_⟩⟩
    · by_cases hi : i < m
      · simpa [hi] using (hq i hi).1
      · simp [hi]
    · have hi3 : i / 3 < m := by omega
      obtain ⟨_, e0, e1, e2⟩ := hq (i / 3) hi3
      rw [Deep.add_add] at e1 e2
      unfold opCell
      by_cases z0 : i % 3 = 0
      · rw [if_pos z0]
        show w.cell? (b.add i) = some (.int .u8 (if i / 3 < m then (q (i / 3)).1 else 0))
        rw [if_pos hi3, show b.add i = b.add (i / 3 * 3) from congrArg _ (by omega)]
        exact e0
      · by_cases z1 : i % 3 = 1
        · rw [if_neg z0, if_pos z1]
          rw [show b.add i = b.add (i / 3 * 3 + 1) from congrArg _ (by omega)]
          exact e1
        · rw [if_neg z0, if_neg z1]
          rw [show b.add i = b.add (i / 3 * 3 + 2) from congrArg _ (by omega)]
          exact e2

/-! ### THE ROW's STEP -/
set_option maxRecDepth 100000 in
theorem lifted (os : Os) (started : os.Started) (H : Type) (enc : TypeId × Value → H) :
    ReturnsInHanded {} Try.checked os 6 .any (Rows.fnScopeLookupFollowsNestedDeclarationsSpec.pre6 enc Try.prog Try.f6 Rows.fnScopeLookupFollowsNestedDeclarationsRow.domain false) (Rows.fnScopeLookupFollowsNestedDeclarationsSpec.post enc Try.prog Try.f6 false true false false) := by
  refine returnsInHanded_of_change (C := Try.checked) own started (by kernel_rfl) Try.func6
    (ChangeSpec.witness6 (enc := enc) (C := Try.checked) false ⟨#[], #[.slice none 0 0, .slice none 0 0], []⟩ 8 (by kernel_rfl) (by kernel_rfl) (by kernel_rfl) (by kernel_rfl)) ?_
  intro W base args ds gs before hval0 hW hcnd _
  have hval : ∀ (j : Nat) t v, Try.f6.params[j]? = some t → args[j]? = some v → Value.okWide Try.prog W .any base t v := hval0
  have hW' := hW
  obtain ⟨p, q, hA0, hV, rfl, hfz, hnd⟩ := hW
  have hA : DataW.TrodAll enc Try.prog W 0 (fun _ => true) true Try.f6.params.toList args.toList ds p := hA0
  rw [Try.params6] at hA hval
  obtain ⟨v0, vs0, d0, ds0, p0, q0, hargs, rfl, rfl, h0, r0⟩ := trodAll_cons hA
  obtain ⟨v1, vs1, d1, ds1, p1, q1, rfl, rfl, rfl, h1, r1⟩ := trodAll_cons r0
  obtain ⟨rfl, rfl, rfl⟩ := trodAll_nil r1
  obtain rfl : args = #[v0, v1] := by cases args; simp_all
  obtain ⟨rfl, rfl⟩ := trodVars_none hV
  obtain ⟨a0, len0, cap0, rfl⟩ := okWide_slice Try.underlying30 (hval 0 30 v0 rfl rfl)
  obtain ⟨a1, len1, cap1, rfl⟩ := okWide_slice Try.underlying31 (hval 1 31 v1 rfl rfl)
  have k0 := h0
  have k1 := h1
  have lt0 : ∀ x ∈ p0, x.block < W.heap.size := by obtain ⟨m, hm⟩ := k0; exact DataW.trod_lt m _ _ _ hm
  have lt1 : ∀ x ∈ p1, x.block < W.heap.size := by obtain ⟨m, hm⟩ := k1; exact DataW.trod_lt m _ _ _ hm
  obtain ⟨Kd, Pf, Ns, hK, g0⟩ : ∃ (Kd : Nat → Int) (Pf Ns : Nat → ByteArray), (∀ i, 0 ≤ Kd i ∧ Kd i ≤ 255) ∧ IsSlice W 3 a0 len0 cap0 (opCell Kd Pf Ns) := by
    obtain ⟨fuel, hf⟩ := h0
    exact open_ops hf
  obtain ⟨Pr, g1⟩ : ∃ Pr : Nat → ByteArray, IsSlice W 1 a1 len1 cap1 (fun i => .string (Pr i)) := by
    obtain ⟨fuel, hf⟩ := h1
    rcases open_strings Try.underlying31 Try.underlying9 (by kernel_rfl) hf with ⟨hcs, _⟩ | ⟨x, l, c, ss, hcs, _, hl, _, hz, _, hcell, _⟩
    · simp [Value.cells] at hcs
      obtain ⟨rfl, rfl, rfl⟩ := hcs
      exact ⟨fun _ => ByteArray.empty, .inl ⟨rfl, rfl, rfl⟩⟩
    · simp [Value.cells] at hcs
      obtain ⟨rfl, rfl, rfl⟩ := hcs
      have hz' : ss.length = cap1 := by simpa using hz
      exact ⟨fun i => ss.getD i ByteArray.empty, .inr ⟨_, rfl, hl, fun i hi => hcell i (by omega)⟩⟩
  clear hA0 hval0
  refine (law_walk a0 len0 cap0 a1 len1 cap1 Kd Pf Ns Pr W g0 g1 hK).mono fun e W' ⟨he, bel⟩ => ?_
  subst he
  exact ⟨_, rfl, _, _, _, [], _, [], hW', trodAll_mk1 (shut_bool Try.underlying4 _), (trodAll_cons_mk (Below.trod laidOut (by kernel_rfl) (of_decide_eq_true (by kernel_rfl)) k0 bel lt0) (trodAll_cons_mk (Below.trod laidOut (by kernel_rfl) (of_decide_eq_true (by kernel_rfl)) k1 bel lt1) trodAll_mk0)), rfl, bel.frame _, fun h => by cases h⟩

theorem over : Rows.fnScopeLookupFollowsNestedDeclarationsRow.holds Try.pinned (OpenSpec.ofChange Rows.fnScopeLookupFollowsNestedDeclarationsSpec) :=
  OpenClaim.holds_of_wide 6 Try.f6 rfl rfl rfl rfl rfl rfl rfl ⟨rfl, rfl, rfl, rfl, rfl⟩ rfl rfl rfl rfl rfl (by kernel_rfl) Try.func6 (by kernel_rfl)
    (of_decide_eq_true (by kernel_rfl)) (by unfold Func.isWrapper; first | (rw [if_pos (by decide +kernel)]; kernel_rfl) | (rw [if_neg (by decide +kernel)]; exact ⟨rfl, rfl⟩))
    (fun os started H enc _ => lifted os started H enc)

/-- THE STATEMENT -/
theorem proved : Rows.FnScopeLookupFollowsNestedDeclarationsSaid := over
end Go.Proofs.Qxb6003666a.fnScopeLookupFollowsNestedDeclarations
