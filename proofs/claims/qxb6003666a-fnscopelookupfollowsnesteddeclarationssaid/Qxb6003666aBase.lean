import Derived.Test.Qxb6003666aRows
import Derived.WalkKit
import Derived.WalkSpells
import Derived.WalkLawsBesides
import Derived.Maps.Own
import Derived.Maps.OwnOps
import Derived.Maps.Views
import Derived.Maps.AppendAt
namespace Go.Proofs.Qxb6003666a
open Go.RowKit
set_option linter.unusedVariables false

theorem Try.info9 : (Try.prog.info? 9).map (fun i => (i.zero, i.size, i.bytes)) = some (some (.string ⟨#[]⟩), 1, 16) := by kernel_rfl
theorem Try.info3 : (Try.prog.info? 3).map (fun i => (i.zero, i.size, i.bytes)) = some (some (.int .i64 0), 1, 8) := by kernel_rfl
theorem zero31 (w : World) : (zeroValue 31).run Try.prog w = .ok (.slice none 0 0) w := by kernel_rfl
theorem law : Maps.Keyed Try.prog 9 := Maps.string_keyed Try.underlying9

/-! ### WHAT A STEP MAY TURN -/

/-- w' is w with new blocks, and with writes to the blocks in S alone. -/
structure Turns (w w' : World) (S : Nat → Prop) : Prop where
  os : w'.os = w.os
  tape : w'.tape = w.tape
  output : w'.output = w.output
  size : w.heap.size ≤ w'.heap.size
  block : ∀ k, k < w.heap.size → ¬ S k → w'.heap[k]? = w.heap[k]?

theorem Turns.refl (w : World) (S : Nat → Prop) : Turns w w S := ⟨rfl, rfl, rfl, Nat.le_refl _, fun _ _ _ => rfl⟩

theorem Turns.trans {a b c : World} {S S' : Nat → Prop} (h : Turns a b S) (h' : Turns b c S') (hS : ∀ k, k < a.heap.size → S' k → S k) : Turns a c S :=
  ⟨h'.os.trans h.os, h'.tape.trans h.tape, h'.output.trans h.output, Nat.le_trans h.size h'.size, fun k hk hn => (h'.block k (Nat.lt_of_lt_of_le hk h.size) (fun g => hn (hS k hk g))).trans (h.block k hk hn)⟩

theorem Turns.of_grown {w w' : World} {row : Option Nat} {S : Nat → Prop} (h : w.grownBy w' row) (hS : ∀ k, row = some k → S k) : Turns w w' S :=
  ⟨h.os, h.tape, h.output, h.size, fun k hk hn => h.block k hk (fun e => hn (hS k e.symm))⟩

theorem Turns.alloc (w : World) (o : Obj) (S : Nat → Prop) : Turns w (w.alloc o) S := Turns.of_grown (World.grownBy_alloc w o none) (fun k h => by cases h)

theorem Turns.drewN {w w' : World} {S : Nat → Prop} (h : Turns w w' S) (n : Nat) : Turns w (w'.drewN n) S := ⟨h.os, h.tape, h.output, h.size, h.block⟩

theorem Turns.setCell {w w' : World} {S : Nat → Prop} (h : Turns w w' S) {p : Addr} (hp : S p.block) (u : Value) : Turns w (w'.setCell p u) S :=
  ⟨h.os, h.tape, h.output, by simpa using h.size, fun k hk hn => (Below.heap_setCell w' p u k (fun e => hn (e ▸ hp))).trans (h.block k hk hn)⟩

theorem Turns.below {w w' : World} {S : Nat → Prop} {B : Nat} (h : Turns w w' S) (hB : B ≤ w.heap.size) (hS : ∀ k, S k → B ≤ k) : Below B w w' :=
  ⟨h.os, h.tape, h.output, h.size, fun k hk => h.block k (Nat.lt_of_lt_of_le hk hB) (fun g => by have := hS k g; omega)⟩

theorem Turns.mono {w w' : World} {S S' : Nat → Prop} (h : Turns w w' S) (hS : ∀ k, S k → S' k) : Turns w w' S' :=
  ⟨h.os, h.tape, h.output, h.size, fun k hk hn => h.block k hk (fun g => hn (hS k g))⟩

/-! ### ROWS OF STRINGS -/

def strs (l : List ByteArray) : List Value := l.map Value.string

/-- The slice v owns the strings l. -/
def Owns (w : World) (base : Nat) (v : Value) (l : List ByteArray) : Prop := w.ownsRow base 9 1 v l.length (strs l)

theorem strs_append (a b : List ByteArray) : strs (a ++ b) = strs a ++ strs b := by simp [strs]

theorem owns_nil (w : World) (base : Nat) : Owns w base (.slice none 0 0) [] := World.ownsRow_nil _ _ _ _

theorem Owns.lt {w : World} {base : Nat} {v : Value} {l : List ByteArray} (h : Owns w base v l) : ∀ k, v.ownBlock = some k → base ≤ k ∧ k < w.heap.size := World.ownsRow.lt h

/-- What is owned stays owned while its own row is not turned. -/
theorem row_kept {w w' : World} {S : Nat → Prop} {base : Nat} {e : TypeId} {size : Nat} {v : Value} {n : Nat} {xs : List Value} (h : w.ownsRow base e size v n xs) (hT : Turns w w' S) (hS : ∀ k, v.ownBlock = some k → ¬ S k) : w'.ownsRow base e size v n xs := by
  refine ⟨h.1, ?_⟩
  rcases h.2 with hn | ⟨g, cap, cur, rfl, hb, hg, rest⟩
  · exact .inl hn
  · exact .inr ⟨g, cap, cur, rfl, hb, by rw [hT.block g (Array.getElem?_eq_some_iff.1 hg).1 (hS g rfl)]; exact hg, rest⟩

theorem Owns.kept {w w' : World} {S : Nat → Prop} {base : Nat} {v : Value} {l : List ByteArray} (h : Owns w base v l) (hT : Turns w w' S) (hS : ∀ k, v.ownBlock = some k → ¬ S k) : Owns w' base v l := row_kept h hT hS

/-- The slice's shape. -/
theorem row_form {w : World} {base : Nat} {e : TypeId} {v : Value} {n : Nat} {xs : List Value} (h : w.ownsRow base e 1 v n xs) : ∃ a cap, v = .slice a n cap ∧ n ≤ cap ∧ cap ≤ maxLen ∧ (0 < n → ∃ g, a = some ⟨g, 0, none⟩) ∧ (a = none → cap = 0) ∧ ∀ g i, a = some ⟨g, 0, none⟩ → i < n → w.cell? ⟨g, i, none⟩ = xs[i]? := by
  rcases h.2 with ⟨rfl, rfl⟩ | ⟨g, cap, cur, rfl, hb, hg, hc, hm, hs, ht⟩
  · exact ⟨none, 0, rfl, Nat.le_refl _, Nat.zero_le _, fun h => by omega, fun _ => rfl, fun g i h => by cases h⟩
  · refine ⟨_, cap, rfl, hc, hm, fun _ => ⟨g, rfl⟩, (fun h => by cases h), fun g' i hg' hi => ?_⟩
    cases hg'
    exact World.ownsRow.cellAt h i (by omega)

/-- A shorter slice of the same row. -/
theorem row_take {w : World} {base : Nat} {e : TypeId} {a : Option Addr} {n cap : Nat} {xs : List Value} (h : w.ownsRow base e 1 (.slice a n cap) n xs) (k : Nat) (hk : k ≤ n) : w.ownsRow base e 1 (.slice a k cap) k (xs.take k) := by
  have hl : xs.length = n := by simpa using h.1
  refine ⟨by simp; omega, ?_⟩
  rcases h.2 with ⟨hv, h0⟩ | ⟨g, cap', cur, hv, hb, hg, hc, hm, hs, ht⟩
  · have hv' := hv
    simp only [Value.slice.injEq] at hv'
    obtain ⟨rfl, rfl, rfl⟩ := hv'
    exact .inl ⟨by rw [show k = 0 by omega], by omega⟩
  · simp only [Value.slice.injEq] at hv
    obtain ⟨rfl, _, rfl⟩ := hv
    refine .inr ⟨g, cap, cur, rfl, hb, hg, by omega, hm, hs, ?_⟩
    rw [← ht, List.take_take]
    congr 1
    omega

theorem Owns.take {w : World} {base : Nat} {a : Option Addr} {n cap : Nat} {l : List ByteArray} (h : Owns w base (.slice a n cap) l) (hn : n = l.length) (k : Nat) (hk : k ≤ l.length) : Owns w base (.slice a k cap) (l.take k) := by
  subst hn
  have := row_take h k hk
  unfold Owns
  rw [List.length_take, show min k l.length = k by omega]
  rw [show strs (l.take k) = (strs l).take k by simp [strs, List.map_take]]
  exact this

/-! ### THE MAP, AS A FUNCTION FROM STRINGS TO SLICES -/

def tok (v : Value) : Option (DataW Value × List MemPlace) := some (.held v, [])

def keyL (s : ByteArray) : Lit := .string s.data.toList

theorem keyL_ne {s s' : ByteArray} (h : s ≠ s') : keyL s ≠ keyL s' := by
  intro e
  apply h
  simp only [keyL, Lit.string.injEq] at e
  cases s; cases s'
  simp_all

/-- Block b is a map of at most n entries; f: the slice at each key. -/
def MapIs (w : World) (b n : Nat) (f : ByteArray → Value) : Prop :=
  ∃ D : DataW Value, Maps.IsMap D ∧ w.ownsMap Try.prog 9 tok b n D ∧ ∀ s : ByteArray, D.atKey (keyL s) (.held (.slice none 0 0)) = .held (f s)

theorem mapIs_made (w : World) : MapIs (w.alloc (.map #[] 0)) w.heap.size 0 (fun _ => .slice none 0 0) :=
  ⟨.map [], Maps.isMap_empty, World.ownsMap_made w Try.prog 9 tok, fun s => rfl⟩

theorem MapIs.lt {w : World} {b n : Nat} {f : ByteArray → Value} (h : MapIs w b n f) : b < w.heap.size := by
  obtain ⟨D, _, h, _⟩ := h; exact h.lt

theorem MapIs.kept {w w' : World} {S : Nat → Prop} {b n : Nat} {f : ByteArray → Value} (h : MapIs w b n f) (hT : Turns w w' S) (hS : ¬ S b) : MapIs w' b n f := by
  obtain ⟨D, hD, ⟨es, clock, hb, F, hs, hDe⟩, hf⟩ := h
  exact ⟨D, hD, ⟨es, clock, (hT.block b (Array.getElem?_eq_some_iff.1 hb).1 hS).trans hb, F, hs, hDe⟩, hf⟩

/-- 'm[s]'. -/
theorem MapIs.look {w : World} {b n : Nat} {f : ByteArray → Value} (h : MapIs w b n f) (s : ByteArray) (hs : s.size ≤ maxLen) : (Instr.lookup 44 (.map (some b)) (.string s) false).run Try.prog w = .ok (f s) w := by
  obtain ⟨D, _, h, hf⟩ := h
  obtain ⟨v, ps, hrun, hv⟩ := h.lookup law Try.underlying44 (zero31 w) (zd := .held (.slice none 0 0)) (zp := []) rfl (WideMaps.keyOf_string_mk Try.underlying9 hs)
  rw [hrun]
  have := hf s
  simp only [tok, Option.some.injEq, Prod.mk.injEq] at hv
  rw [← show keyL s = Lit.string s.data.toList from rfl] at hv
  rw [this] at hv
  have e := hv.1
  simp only [DataW.held.injEq] at e
  rw [e]

/-- A function turned at one string. -/
def upd (f : ByteArray → Value) (s : ByteArray) (v : Value) (x : ByteArray) : Value := if x = s then v else f x

/-- 'm[s] = v'. -/
theorem MapIs.put {w : World} {b n : Nat} {f : ByteArray → Value} (h : MapIs w b n f) (s : ByteArray) (hs : s.size ≤ maxLen) (v : Value) (hn : n < maxLen) :
    ∃ w', (Instr.mapUpdate 44 (.map (some b)) (.string s) v).run Try.prog w = .ok () w' ∧ MapIs w' b (n + 1) (upd f s v) ∧ w.grownBy w' (some b) := by
  obtain ⟨D, hD, h, hf⟩ := h
  obtain ⟨w', hrun, hown, hg⟩ := h.update law Try.underlying44 hn (val := v) (d := .held v) (ps := []) (WideMaps.keyOf_string_mk Try.underlying9 hs) rfl
  refine ⟨w', hrun, ⟨_, hD.put _ _, hown, fun x => ?_⟩, hg⟩
  unfold upd
  by_cases e : x = s
  · subst e
    rw [if_pos rfl]
    exact Maps.atKey_put_same (k := keyL x) hD trivial _ _
  · rw [if_neg e]
    have := Maps.atKey_put_other (D := D) (k := keyL s) (k' := keyL x) (keyL_ne e) (.held v) (.held (.slice none 0 0))
    exact this.trans (hf x)

end Go.Proofs.Qxb6003666a
