import Derived.Test.Qxb6003666aBase
namespace Go.Proofs.Qxb6003666a
open Go.RowKit
set_option linter.unusedVariables false

/-- A scope in memory: ds: what is declared; stk: the namespaces at each key; SB: the blocks that it may turn. -/
def Scope (w : World) (base bs n : Nat) (ds : List ByteArray) (stk : ByteArray → List ByteArray) (SB : Nat → Prop) : Prop :=
  ∃ bm dv f, w.heap[bs]? = some (.cells #[.map (some bm), dv] 46 (0, 0)) ∧ MapIs w bm n f ∧ Owns w base dv ds ∧ (∀ s, Owns w base (f s) (stk s)) ∧
    (∀ s g, dv.ownBlock = some g → (f s).ownBlock = some g → False) ∧ (∀ s s' g, s ≠ s' → (f s).ownBlock = some g → (f s').ownBlock = some g → False) ∧
    SB bs ∧ SB bm ∧ (∀ g, dv.ownBlock = some g → SB g) ∧ (∀ s g, (f s).ownBlock = some g → SB g) ∧ (∀ g, SB g → base ≤ g ∧ g < w.heap.size)

theorem Owns.form {w : World} {base : Nat} {v : Value} {l : List ByteArray} (h : Owns w base v l) : ∃ a cap, v = .slice a l.length cap ∧ l.length ≤ cap ∧ cap ≤ maxLen ∧ (0 < l.length → ∃ g, a = some ⟨g, 0, none⟩) ∧ (a = none → cap = 0) ∧ ∀ g i, a = some ⟨g, 0, none⟩ → i < l.length → w.cell? ⟨g, i, none⟩ = some (.string (l.getD i ⟨#[]⟩)) := by
  obtain ⟨a, cap, h1, h2, h3, h4, h5, h6⟩ := row_form h
  refine ⟨a, cap, h1, h2, h3, h4, h5, fun g i hg hi => ?_⟩
  rw [h6 g i hg hi]
  simp [strs, hi]

/-- What a look-up answers, of the stack at its key. -/
def lookF (l : List ByteArray) : ByteArray × Bool := if l = [] then (⟨#[]⟩, false) else (l.getD (l.length - 1) ⟨#[]⟩, true)

set_option maxHeartbeats 400000 in
theorem look_empty (bs bm : Nat) (p : ByteArray) (a : Option Addr) (cap : Nat) (w : World) (c0 : w.cell? ⟨bs, 0, none⟩ = some (.map (some bm)))
    (hl : (Instr.lookup 44 (.map (some bm)) (.string p) false).run Try.prog w = .ok (.slice a 0 cap) w) :
    Calls Try.prog 33 #[.pointer (some ⟨bs, 0, none⟩), .string p] w fun e w' => e = .returned (.tuple #[.string ⟨#[]⟩, .bool false]) ∧ w = w' := by
  go_enter Try.func33, Try.ntmps33
  go_wp2
  go_ret2
  exact ⟨rfl, rfl⟩

set_option maxHeartbeats 400000 in
theorem look_some (bs bm g j : Nat) (p s : ByteArray) (cap : Nat) (w : World) (c0 : w.cell? ⟨bs, 0, none⟩ = some (.map (some bm))) (hj : (j : Int) ≤ 1048576)
    (hl : (Instr.lookup 44 (.map (some bm)) (.string p) false).run Try.prog w = .ok (.slice (some ⟨g, 0, none⟩) (j + 1) cap) w) (hc : w.cell? ⟨g, j, none⟩ = some (.string s)) :
    Calls Try.prog 33 #[.pointer (some ⟨bs, 0, none⟩), .string p] w fun e w' => e = .returned (.tuple #[.string s, .bool true]) ∧ w = w' := by
  go_enter Try.func33, Try.ntmps33
  go_wp2
  go_ret2
  exact ⟨rfl, rfl⟩

theorem look_any (bs base n : Nat) (p : ByteArray) (ds : List ByteArray) (stk : ByteArray → List ByteArray) (SB : Nat → Prop) (w : World) (h : Scope w base bs n ds stk SB) (hp : p.size ≤ maxLen) (hk : (stk p).length ≤ 1048576) :
    Calls Try.prog 33 #[.pointer (some ⟨bs, 0, none⟩), .string p] w fun e w' => e = .returned (.tuple #[.string (lookF (stk p)).1, .bool (lookF (stk p)).2]) ∧ w = w' := by
  obtain ⟨bm, dv, f, hbs, hm, hdv, hf, _⟩ := h
  have c0 : w.cell? ⟨bs, 0, none⟩ = some (.map (some bm)) := cell_of_row w bs 0 _ _ _ hbs
  have hl := hm.look p hp
  obtain ⟨a, cap, h1, h2, h3, h4, h5, h6⟩ := (hf p).form
  rw [h1] at hl
  unfold lookF
  by_cases e : stk p = []
  · rw [if_pos e]
    rw [e] at hl
    exact look_empty bs bm p a cap w c0 hl
  · rw [if_neg e]
    have hpos : 0 < (stk p).length := List.length_pos_iff.2 e
    obtain ⟨g, rfl⟩ := h4 hpos
    obtain ⟨j, hj⟩ : ∃ j, (stk p).length = j + 1 := ⟨(stk p).length - 1, by omega⟩
    have hc := h6 g j rfl (by omega)
    rw [hj] at hl ⊢
    exact look_some bs bm g j p _ cap w c0 (by omega) hl hc

set_option maxHeartbeats 400000 in
theorem zzLook_any (bs base n : Nat) (p : ByteArray) (ds : List ByteArray) (stk : ByteArray → List ByteArray) (SB : Nat → Prop) (w : World) (h : Scope w base bs n ds stk SB) (hp : p.size ≤ maxLen) (hk : (stk p).length ≤ 1048576) :
    Calls Try.prog 28 #[.pointer (some ⟨bs, 0, none⟩), .string p] w fun e w' => e = .returned (.tuple #[.string (lookF (stk p)).1, .bool (lookF (stk p)).2]) ∧ w = w' := by
  have K : Hid _ := look_any bs base n p ds stk SB w h hp hk
  clear h hk
  go_enter Try.func28, Try.ntmps28
  go_wp2_with fail
  refine Calls.mono K.out ?_
  rintro e w' ⟨rfl, rfl⟩
  go_wp2
  go_ret2
  exact ⟨rfl, rfl⟩

set_option maxHeartbeats 400000 in
theorem len_any (bs base n : Nat) (ds : List ByteArray) (stk : ByteArray → List ByteArray) (SB : Nat → Prop) (w : World) (h : Scope w base bs n ds stk SB) :
    Calls Try.prog 21 #[.pointer (some ⟨bs, 0, none⟩)] w fun e w' => e = .returned (.int .i64 ds.length) ∧ w = w' := by
  obtain ⟨bm, dv, f, hbs, hm, hdv, hf, _⟩ := h
  obtain ⟨a, cap, h1, h2, h3, h4, h5, h6⟩ := hdv.form
  have c1 : w.cell? ⟨bs, 1, none⟩ = some dv := cell_of_row w bs 1 _ _ _ hbs
  rw [h1] at c1
  clear hbs hm hdv hf h1 h2 h3 h4 h5 h6
  go_enter Try.func21, Try.ntmps21
  go_wp2
  go_ret
  exact ⟨rfl, rfl⟩

theorem scope_new (w : World) : Scope ((w.alloc (.map #[] 0)).alloc (.cells #[.map (some w.heap.size), .slice none 0 0] 46)) w.heap.size (w.heap.size + 1) 0 [] (fun _ => []) (fun g => w.heap.size ≤ g ∧ g < w.heap.size + 2) := by
  have hm := mapIs_made w
  have hT : Turns (w.alloc (.map #[] 0)) ((w.alloc (.map #[] 0)).alloc (.cells #[.map (some w.heap.size), .slice none 0 0] 46)) (fun _ => False) := Turns.alloc _ _ _
  refine ⟨w.heap.size, .slice none 0 0, fun _ => .slice none 0 0, ?_, hm.kept hT (fun h => h), owns_nil _ _, fun _ => owns_nil _ _, ?_, ?_, ?_, ?_, ?_, ?_, ?_⟩
  · have := heap_alloc_new (w.alloc (.map #[] 0)) (.cells #[.map (some w.heap.size), .slice none 0 0] 46)
    rw [show (w.alloc (.map #[] 0)).heap.size = w.heap.size + 1 by simp] at this
    exact this
  · intro s g h; cases h
  · intro s s' g _ h; cases h
  · exact ⟨by omega, by omega⟩
  · exact ⟨by omega, by omega⟩
  · intro g h; cases h
  · intro s g h; cases h
  · intro g hg; simp; omega

set_option maxHeartbeats 400000 in
theorem new_any (w : World) :
    Calls Try.prog 19 #[] w fun e w' => e = .returned (.pointer (some ⟨w.heap.size + 1, 0, none⟩)) ∧ w' = (w.alloc (.map #[] 0)).alloc (.cells #[.map (some w.heap.size), .slice none 0 0] 46) := by
  have hmm := @run_makeMap Try.prog
  go_enter Try.func19, Try.ntmps19
  go_wp2
  go_ret
  exact ⟨rfl, rfl⟩

end Go.Proofs.Qxb6003666a
