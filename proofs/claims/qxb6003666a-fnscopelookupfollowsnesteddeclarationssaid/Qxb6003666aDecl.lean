import Derived.Test.Qxb6003666aLook
import Derived.Deep.RegionHeld3
import Derived.Deep.AppendLies
namespace Go.Proofs.Qxb6003666a
open Go.RowKit
set_option linter.unusedVariables false

/-- A stack function turned at one string. -/
def updS (stk : ByteArray → List ByteArray) (s : ByteArray) (l : List ByteArray) (x : ByteArray) : List ByteArray := if x = s then l else stk x

theorem ne_map {w : World} {base bm : Nat} {v : Value} {l : List ByteArray} {n : Nat} {f : ByteArray → Value} (hv : Owns w base v l) (hm : MapIs w bm n f) : v.ownBlock ≠ some bm := by
  intro e
  rcases hv.2 with ⟨rfl, _⟩ | ⟨g, cap, cur, rfl, _, hg, _⟩
  · cases e
  · simp only [Value.ownBlock, Option.some.injEq] at e
    subst e
    obtain ⟨D, _, ⟨es, clock, hb, _⟩, _⟩ := hm
    rw [hg] at hb
    cases hb

theorem ne_struct {w : World} {base bs : Nat} {v : Value} {l : List ByteArray} {c : Array Value} {t : TypeId} (ht : t ≠ 9) (hv : Owns w base v l) (hb : w.heap[bs]? = some (.cells c t (0, 0))) : v.ownBlock ≠ some bs := by
  intro e
  rcases hv.2 with ⟨rfl, _⟩ | ⟨g, cap, cur, rfl, _, hg, _⟩
  · cases e
  · simp only [Value.ownBlock, Option.some.injEq] at e
    subst e
    rw [hg] at hb
    simp only [Option.some.injEq, Obj.cells.injEq] at hb
    exact ht hb.2.1.symm

theorem ne_map_struct {w : World} {bs bm n : Nat} {f : ByteArray → Value} {c : Array Value} {t : TypeId} (hm : MapIs w bm n f) (hb : w.heap[bs]? = some (.cells c t (0, 0))) : bs ≠ bm := by
  intro e
  subst e
  obtain ⟨D, _, ⟨es, clock, hb', _⟩, _⟩ := hm
  rw [hb] at hb'
  cases hb'

theorem Turns.heap {w w' : World} {S : Nat → Prop} {k : Nat} {o : Obj} (h : Turns w w' S) (hk : w.heap[k]? = some o) (hn : ¬ S k) : w'.heap[k]? = some o :=
  (h.block k (Array.getElem?_eq_some_iff.1 hk).1 hn).trans hk

/-- Behind 's.namespaces[p] = append(s.namespaces[p], ns)': what is known of the world w2. -/
structure Mid (w w2 : World) (base bs bm n : Nat) (dv : Value) (f : ByteArray → Value) (stk : ByteArray → List ByteArray) (ds : List ByteArray) (p ns : ByteArray) (gg cap : Nat) : Prop where
  sc : w2.heap[bs]? = some (.cells #[.map (some bm), dv] 46 (0, 0))
  map : MapIs w2 bm (n + 1) (upd f p (.slice (some ⟨gg, 0, none⟩) ((stk p).length + 1) cap))
  dec : Owns w2 base dv ds
  rows : ∀ s, Owns w2 base (upd f p (.slice (some ⟨gg, 0, none⟩) ((stk p).length + 1) cap) s) (updS stk p (stk p ++ [ns]) s)
  gt : gg < w2.heap.size
  at' : (f p).ownBlock = some gg ∨ gg = w.heap.size + 1
  turns : Turns w w2 (fun g => g = bm ∨ (f p).ownBlock = some g)

theorem mid_mk {w w1 : World} {base bs bm n : Nat} {dv : Value} {f : ByteArray → Value} {stk : ByteArray → List ByteArray} {ds : List ByteArray} {p ns : ByteArray} {gg cap : Nat} {o : Obj} {q : Nat}
    (hbs : w.heap[bs]? = some (.cells #[.map (some bm), dv] 46 (0, 0))) (hm : MapIs w bm n f) (hdv : Owns w base dv ds) (hf : ∀ s, Owns w base (f s) (stk s))
    (ap1 : ∀ s g, dv.ownBlock = some g → (f s).ownBlock = some g → False) (ap2 : ∀ s s' g, s ≠ s' → (f s).ownBlock = some g → (f s').ownBlock = some g → False)
    (hp : p.size ≤ maxLen) (hn : n < maxLen)
    (hown1 : w1.ownsRow base 9 1 (.slice (some ⟨gg, 0, none⟩) ((stk p).length + 1) cap) ((stk p).length + 1) (strs (stk p) ++ [.string ns]))
    (hgrow : ((w.alloc o).drewN q).grownBy w1 (f p).ownBlock) (hat : (f p).ownBlock = some gg ∨ gg = w.heap.size + 1) (hlt : gg < w1.heap.size) :
    ∃ w2, (Instr.mapUpdate 44 (.map (some bm)) (.string p) (.slice (some ⟨gg, 0, none⟩) ((stk p).length + 1) cap)).run Try.prog w1 = .ok () w2 ∧ Mid w w2 base bs bm n dv f stk ds p ns gg cap ∧ w1.cell? ⟨bs, 0, none⟩ = some (.map (some bm)) ∧ w2.cell? ⟨bs, 0, none⟩ = some (.map (some bm)) := by
  have T1 : Turns w w1 (fun g => (f p).ownBlock = some g) :=
    (Turns.drewN (Turns.alloc w o (fun g => (f p).ownBlock = some g)) q).trans (Turns.of_grown (S := fun g => (f p).ownBlock = some g) hgrow (fun k h => h)) (fun _ _ h => h)
  have nb : (f p).ownBlock ≠ some bm := ne_map (hf p) hm
  have nbs : (f p).ownBlock ≠ some bs := ne_struct (by decide) (hf p) hbs
  have hm1 := hm.kept T1 nb
  have hbs1 := T1.heap hbs nbs
  obtain ⟨w2, hup, hm2, hg2⟩ := hm1.put p hp (.slice (some ⟨gg, 0, none⟩) ((stk p).length + 1) cap) hn
  have T2 : Turns w1 w2 (fun g => g = bm) := Turns.of_grown hg2 (fun k h => by cases h; rfl)
  have nbsm : bs ≠ bm := ne_map_struct hm hbs
  have hbs2 := T2.heap hbs1 nbsm
  have hownP : Owns w1 base (.slice (some ⟨gg, 0, none⟩) ((stk p).length + 1) cap) (stk p ++ [ns]) := by
    unfold Owns
    rw [strs_append, List.length_append]
    exact hown1
  refine ⟨w2, hup, ⟨hbs2, hm2, ?_, fun s => ?_, Nat.lt_of_lt_of_le hlt T2.size, hat, ?_⟩, cell_of_row w1 bs 0 _ _ _ hbs1, cell_of_row w2 bs 0 _ _ _ hbs2⟩
  · have h1 : Owns w1 base dv ds := hdv.kept T1 (fun k h g => ap1 p k h g)
    exact h1.kept T2 (fun k h g => ne_map h1 hm1 (by rw [h, g]))
  · unfold upd updS
    by_cases e : s = p
    · rw [if_pos e, if_pos e]
      exact hownP.kept T2 (fun k h g => ne_map hownP hm1 (by rw [h, g]))
    · rw [if_neg e, if_neg e]
      have h1 : Owns w1 base (f s) (stk s) := (hf s).kept T1 (fun k h g => ap2 s p k e h g)
      exact h1.kept T2 (fun k h g => ne_map h1 hm1 (by rw [h, g]))
  · exact (T1.mono (fun k h => .inr h)).trans (T2.mono (S' := fun g => g = bm ∨ (f p).ownBlock = some g) (fun k h => .inl h)) (fun _ _ h => h)

/-- The scope behind a declaration. -/
theorem decl_scope {w w2 w3 : World} {base bs bm n : Nat} {dv : Value} {f : ByteArray → Value} {stk : ByteArray → List ByteArray} {ds : List ByteArray} {p ns : ByteArray} {gg cap g3 cap3 : Nat} {o : Obj} {SB : Nat → Prop}
    (hdv : Owns w base dv ds) (hf : ∀ s, Owns w base (f s) (stk s))
    (ap1 : ∀ s g, dv.ownBlock = some g → (f s).ownBlock = some g → False) (ap2 : ∀ s s' g, s ≠ s' → (f s).ownBlock = some g → (f s').ownBlock = some g → False)
    (s1 : SB bs) (s2 : SB bm) (s3 : ∀ g, dv.ownBlock = some g → SB g) (s4 : ∀ s g, (f s).ownBlock = some g → SB g) (s5 : ∀ g, SB g → base ≤ g ∧ g < w.heap.size) (hbase : base ≤ w.heap.size)
    (M : Mid w w2 base bs bm n dv f stk ds p ns gg cap)
    (hown3 : w3.ownsRow base 9 1 (.slice (some ⟨g3, 0, none⟩) (ds.length + 1) cap3) (ds.length + 1) (strs ds ++ [.string p])) (hgrow3 : (w2.alloc o).grownBy w3 dv.ownBlock) (hat3 : dv.ownBlock = some g3 ∨ g3 = w2.heap.size + 1) (hlt3 : g3 < w3.heap.size) :
    Scope (w3.setCell ⟨bs, 1, none⟩ (.slice (some ⟨g3, 0, none⟩) (ds.length + 1) cap3)) base bs (n + 1) (ds ++ [p]) (updS stk p (stk p ++ [ns])) (fun g => SB g ∨ (w.heap.size ≤ g ∧ g < w3.heap.size)) ∧
      Turns w (w3.setCell ⟨bs, 1, none⟩ (.slice (some ⟨g3, 0, none⟩) (ds.length + 1) cap3)) SB := by
  obtain ⟨sc, hm2, hd2, hr2, hgt, hat, T12⟩ := M
  have T3 : Turns w2 w3 (fun g => dv.ownBlock = some g) := (Turns.alloc w2 o _).trans (Turns.of_grown (S := fun g => dv.ownBlock = some g) hgrow3 (fun k h => h)) (fun _ _ h => h)
  have nb2 : dv.ownBlock ≠ some bm := ne_map hd2 hm2
  have nbs2 : dv.ownBlock ≠ some bs := ne_struct (by decide) hd2 sc
  have hm3 := hm2.kept T3 nb2
  have hbs3 := T3.heap sc nbs2
  have nbsm : bs ≠ bm := ne_map_struct hm2 sc
  have lts := fun g h => s5 g h
  have sz2 := T12.size
  have hown3' : Owns w3 base (.slice (some ⟨g3, 0, none⟩) (ds.length + 1) cap3) (ds ++ [p]) := by
    unfold Owns
    rw [strs_append, List.length_append]
    exact hown3
  -- the rows at each key are apart from the list of what is declared
  have old : ∀ s g, (upd f p (.slice (some ⟨gg, 0, none⟩) ((stk p).length + 1) cap) s).ownBlock = some g → (f s).ownBlock = some g ∨ (s = p ∧ g = w.heap.size + 1) := by
    intro s g h
    unfold upd at h
    by_cases e : s = p
    · rw [if_pos e] at h
      simp only [Value.ownBlock, Option.some.injEq] at h
      subst h
      rcases hat with hh | hh
      · left; rw [e]; exact hh
      · exact .inr ⟨e, hh⟩
    · rw [if_neg e] at h
      exact .inl h
  have ltg : ∀ s g, (upd f p (.slice (some ⟨gg, 0, none⟩) ((stk p).length + 1) cap) s).ownBlock = some g → g < w2.heap.size := fun s g h => ((hr2 s).lt g h).2
  have apd : ∀ s g, dv.ownBlock = some g → (upd f p (.slice (some ⟨gg, 0, none⟩) ((stk p).length + 1) cap) s).ownBlock = some g → False := by
    intro s g h1 h2
    have hl := (hdv.lt g h1).2
    rcases old s g h2 with h3 | ⟨_, h3⟩
    · exact ap1 s g h1 h3
    · omega
  have hr3 : ∀ s, Owns w3 base (upd f p (.slice (some ⟨gg, 0, none⟩) ((stk p).length + 1) cap) s) (updS stk p (stk p ++ [ns]) s) := fun s => (hr2 s).kept T3 (fun k h g => apd s k g h)
  have T4 : Turns w3 (w3.setCell ⟨bs, 1, none⟩ (.slice (some ⟨g3, 0, none⟩) (ds.length + 1) cap3)) (fun g => g = bs) := (Turns.refl w3 (fun g => g = bs)).setCell (p := ⟨bs, 1, none⟩) rfl _
  have ssz : (w3.setCell ⟨bs, 1, none⟩ (.slice (some ⟨g3, 0, none⟩) (ds.length + 1) cap3)).heap.size = w3.heap.size := by simp
  have sz3 := T3.size
  refine ⟨⟨bm, .slice (some ⟨g3, 0, none⟩) (ds.length + 1) cap3, upd f p (.slice (some ⟨gg, 0, none⟩) ((stk p).length + 1) cap), ?_, ?_, ?_, fun s => ?_, ?_, ?_, .inl s1, .inl s2, ?_, ?_, ?_⟩, ?_⟩
  · exact heap_setCell_same w3 bs 1 _ _ _ hbs3
  · exact hm3.kept T4 (fun h => nbsm h.symm)
  · exact hown3'.kept T4 (fun k h g => ne_struct (by decide) hown3' hbs3 (by rw [h, g]))
  · exact (hr3 s).kept T4 (fun k h g => ne_struct (by decide) (hr3 s) hbs3 (by rw [h, g]))
  · intro s g h1 h2
    simp only [Value.ownBlock, Option.some.injEq] at h1
    subst h1
    have hl := ltg s g3 h2
    rcases hat3 with h3 | h3
    · exact apd s g3 h3 h2
    · omega
  · intro s s' g hne h1 h2
    rcases old s g h1 with a1 | ⟨e1, a1⟩
    · rcases old s' g h2 with a2 | ⟨e2, a2⟩
      · exact ap2 s s' g hne a1 a2
      · have := ((hf s).lt g a1).2; omega
    · rcases old s' g h2 with a2 | ⟨e2, a2⟩
      · have := ((hf s').lt g a2).2; omega
      · exact hne (e1.trans e2.symm)
  · intro g h
    simp only [Value.ownBlock, Option.some.injEq] at h
    subst h
    rcases hat3 with h3 | h3
    · exact .inl (s3 g3 h3)
    · exact .inr ⟨by omega, hlt3⟩
  · intro s g h
    have hl := ltg s g h
    rcases old s g h with h3 | ⟨_, h3⟩
    · exact .inl (s4 s g h3)
    · exact .inr ⟨by omega, by omega⟩
  · intro g h
    rcases h with h | h
    · have := s5 g h; exact ⟨this.1, by omega⟩
    · exact ⟨by omega, by omega⟩
  · have A : Turns w w2 SB := T12.mono (fun k h => by rcases h with rfl | h; exact s2; exact s4 p k h)
    have B : Turns w w3 SB := A.trans (T3.mono (S' := SB) (fun k h => s3 k h)) (fun _ _ h => h)
    exact B.setCell (p := ⟨bs, 1, none⟩) s1 _

end Go.Proofs.Qxb6003666a
