import Derived.Test.Qxb6003666aBytes
namespace Go.Proofs.Qxb6003666a
open Go.RowKit
set_option linter.unusedVariables false

def ints (l : List Nat) : List Value := l.map fun (x : Nat) => Value.int .i64 (x : Int)

theorem Scope.kept {w w' : World} {base bs n : Nat} {ds : List ByteArray} {stk : ByteArray → List ByteArray} {SB S : Nat → Prop} (h : Scope w base bs n ds stk SB) (T : Turns w w' S) (hS : ∀ g, SB g → ¬ S g) : Scope w' base bs n ds stk SB := by
  obtain ⟨bm, dv, f, hbs, hm, hdv, hf, ap1, ap2, s1, s2, s3, s4, s5⟩ := h
  exact ⟨bm, dv, f, T.heap hbs (hS _ s1), hm.kept T (hS _ s2), hdv.kept T (fun k h => hS k (s3 k h)), fun s => (hf s).kept T (fun k h => hS k (s4 s k h)), ap1, ap2, s1, s2, s3, s4, fun g hg => ⟨(s5 g hg).1, Nat.lt_of_lt_of_le (s5 g hg).2 T.size⟩⟩

theorem Scope.lt {w : World} {base bs n : Nat} {ds : List ByteArray} {stk : ByteArray → List ByteArray} {SB : Nat → Prop} (h : Scope w base bs n ds stk SB) : ∀ g, SB g → base ≤ g ∧ g < w.heap.size := by
  obtain ⟨bm, dv, f, hbs, hm, hdv, hf, ap1, ap2, s1, s2, s3, s4, s5⟩ := h
  exact s5

/-- Rows of different element types lie in different blocks. -/
theorem rows_apart {w : World} {base base' : Nat} {e e' : TypeId} {size size' : Nat} {v v' : Value} {n n' : Nat} {xs xs' : List Value} (h : w.ownsRow base e size v n xs) (h' : w.ownsRow base' e' size' v' n' xs') (hne : e ≠ e') (g : Nat) (hg : v.ownBlock = some g) (hg' : v'.ownBlock = some g) : False := by
  rcases h.2 with ⟨rfl, _⟩ | ⟨g1, _, cur, rfl, _, h1, _⟩
  · cases hg
  rcases h'.2 with ⟨rfl, _⟩ | ⟨g2, _, cur', rfl, _, h2, _⟩
  · cases hg'
  simp only [Value.ownBlock, Option.some.injEq] at hg hg'
  subst hg
  subst hg'
  rw [h1] at h2
  simp only [Option.some.injEq, Obj.cells.injEq] at h2
  exact hne h2.2.1

/-- What holds at the head of every round of the law's script. -/
structure Inv (w : World) (B0 bs i : Nat) (pV sV mV : Value) (ps ss : List ByteArray) (ms : List Nat) (n : Nat) (SB : Nat → Prop) : Prop where
  sc : Scope w B0 bs n ps (stkOf ps ss) SB
  pre : Owns w B0 pV ps
  spa : Owns w B0 sV ss
  mar : w.ownsRow B0 3 1 mV ms.length (ints ms)
  len : ps.length = ss.length
  li : ps.length ≤ i
  ni : n + ps.length ≤ 2 * i
  mi : ms.length ≤ i
  mo : ms.Pairwise (· ≤ ·)
  mb : ∀ x ∈ ms, x ≤ ps.length
  sz : ∀ x ∈ ps, x.size ≤ 1048576
  a1 : ∀ g, pV.ownBlock = some g → ¬ SB g
  a2 : ∀ g, sV.ownBlock = some g → ¬ SB g
  a3 : ∀ g, mV.ownBlock = some g → ¬ SB g
  a4 : ∀ g, pV.ownBlock = some g → sV.ownBlock = some g → False
  hb : B0 ≤ w.heap.size

theorem Inv.alloc {w : World} {B0 bs i : Nat} {pV sV mV : Value} {ps ss : List ByteArray} {ms : List Nat} {n : Nat} {SB : Nat → Prop} (I : Inv w B0 bs i pV sV mV ps ss ms n SB) (o : Obj) : Inv (w.alloc o) B0 bs i pV sV mV ps ss ms n SB := by
  have T : Turns w (w.alloc o) (fun _ => False) := Turns.alloc w o _
  exact { I with sc := I.sc.kept T (fun _ _ h => h), pre := I.pre.kept T (fun _ _ h => h), spa := I.spa.kept T (fun _ _ h => h), mar := row_kept I.mar T (fun _ _ h => h), hb := Nat.le_trans I.hb T.size }

theorem Inv.next {w : World} {B0 bs i : Nat} {pV sV mV : Value} {ps ss : List ByteArray} {ms : List Nat} {n : Nat} {SB : Nat → Prop} (I : Inv w B0 bs i pV sV mV ps ss ms n SB) : Inv w B0 bs (i + 1) pV sV mV ps ss ms n SB :=
  { I with li := by have := I.li; omega, ni := by have := I.ni; omega, mi := by have := I.mi; omega }

/-- Behind a declaration, ahead of the two appends. -/
structure DInv (w : World) (B0 bs i : Nat) (pV sV mV : Value) (ps ss : List ByteArray) (ms : List Nat) (n : Nat) (SB : Nat → Prop) (p ns : ByteArray) (w1 : World) (SB1 : Nat → Prop) : Prop where
  I : Inv w B0 bs i pV sV mV ps ss ms n SB
  sc : Scope w1 B0 bs (n + 1) (ps ++ [p]) (stkOf (ps ++ [p]) (ss ++ [ns])) SB1
  pre : Owns w1 B0 pV ps
  spa : Owns w1 B0 sV ss
  mar : w1.ownsRow B0 3 1 mV ms.length (ints ms)
  a1 : ∀ g, pV.ownBlock = some g → ¬ SB1 g
  a2 : ∀ g, sV.ownBlock = some g → ¬ SB1 g
  a3 : ∀ g, mV.ownBlock = some g → ¬ SB1 g
  hb : w.heap.size ≤ w1.heap.size

theorem inv_decl {w : World} {B0 bs i : Nat} {pV sV mV : Value} {ps ss : List ByteArray} {ms : List Nat} {n : Nat} {SB : Nat → Prop} {p ns : ByteArray} {w1 : World} {SB1 : Nat → Prop} (I : Inv w B0 bs i pV sV mV ps ss ms n SB)
    (D : Scope w1 B0 bs (n + 1) (ps ++ [p]) (updS (stkOf ps ss) p (stkOf ps ss p ++ [ns])) SB1) (hSB : ∀ g, SB1 g → SB g ∨ w.heap.size ≤ g) (T : Turns w w1 SB) : DInv w B0 bs i pV sV mV ps ss ms n SB p ns w1 SB1 := by
  rw [← stkOf_snoc ps ss I.len] at D
  refine ⟨I, D, I.pre.kept T (fun k h => I.a1 k h), I.spa.kept T (fun k h => I.a2 k h), row_kept I.mar T (fun k h => I.a3 k h), fun g h h' => ?_, fun g h h' => ?_, fun g h h' => ?_, T.size⟩
  · rcases hSB g h' with q | q
    · exact I.a1 g h q
    · have := (I.pre.lt g h).2; omega
  · rcases hSB g h' with q | q
    · exact I.a2 g h q
    · have := (I.spa.lt g h).2; omega
  · rcases hSB g h' with q | q
    · exact I.a3 g h q
    · have := (I.mar.lt g h).2; omega

/-- Behind 'prefixes = append(prefixes, op.Prefix)'. -/
structure EInv (w : World) (B0 bs i : Nat) (pV sV mV : Value) (ps ss : List ByteArray) (ms : List Nat) (n : Nat) (SB : Nat → Prop) (p ns : ByteArray) (w1 : World) (SB1 : Nat → Prop) (w2 : World) (g5 c5 : Nat) : Prop where
  D : DInv w B0 bs i pV sV mV ps ss ms n SB p ns w1 SB1
  sc : Scope w2 B0 bs (n + 1) (ps ++ [p]) (stkOf (ps ++ [p]) (ss ++ [ns])) SB1
  pre : Owns w2 B0 (.slice (some ⟨g5, 0, none⟩) (ps.length + 1) c5) (ps ++ [p])
  spa : Owns w2 B0 sV ss
  mar : w2.ownsRow B0 3 1 mV ms.length (ints ms)
  g1 : ¬ SB1 g5
  g2 : sV.ownBlock ≠ some g5
  hb : w1.heap.size ≤ w2.heap.size

theorem inv_app1 {w : World} {B0 bs i : Nat} {pV sV mV : Value} {ps ss : List ByteArray} {ms : List Nat} {n : Nat} {SB : Nat → Prop} {p ns : ByteArray} {w1 : World} {SB1 : Nat → Prop} {w2 : World} {g5 c5 : Nat} {o : Obj} (D : DInv w B0 bs i pV sV mV ps ss ms n SB p ns w1 SB1)
    (hown : w2.ownsRow B0 9 1 (.slice (some ⟨g5, 0, none⟩) (ps.length + 1) c5) (ps.length + 1) (strs ps ++ [.string p])) (hgrow : (w1.alloc o).grownBy w2 pV.ownBlock) (hat : pV.ownBlock = some g5 ∨ g5 = w1.heap.size + 1) :
    EInv w B0 bs i pV sV mV ps ss ms n SB p ns w1 SB1 w2 g5 c5 := by
  have T : Turns w1 w2 (fun g => pV.ownBlock = some g) := (Turns.alloc w1 o _).trans (Turns.of_grown (S := fun g => pV.ownBlock = some g) hgrow (fun k h => h)) (fun _ _ h => h)
  refine ⟨D, D.sc.kept T (fun g h h' => D.a1 g h' h), ?_, D.spa.kept T (fun k h g => D.I.a4 k g h), row_kept D.mar T (fun k h g => rows_apart D.mar D.pre (by decide) k h g), ?_, ?_, T.size⟩
  · unfold Owns
    rw [strs_append, List.length_append]
    exact hown
  · rcases hat with h | h
    · exact D.a1 g5 h
    · intro q
      have := (D.sc.lt g5 q).2
      omega
  · intro h
    rcases hat with h' | h'
    · exact D.I.a4 g5 h' h
    · have := (D.spa.lt g5 h).2; omega

/-- Behind 'spaces = append(spaces, op.Namespace)'. -/
theorem inv_app2 {w : World} {B0 bs i : Nat} {pV sV mV : Value} {ps ss : List ByteArray} {ms : List Nat} {n : Nat} {SB : Nat → Prop} {p ns : ByteArray} {w1 : World} {SB1 : Nat → Prop} {w2 : World} {g5 c5 : Nat} {o : Obj} {w3 : World} {g6 c6 : Nat} (E : EInv w B0 bs i pV sV mV ps ss ms n SB p ns w1 SB1 w2 g5 c5) (hp : p.size ≤ 1048576)
    (hown : w3.ownsRow B0 9 1 (.slice (some ⟨g6, 0, none⟩) (ss.length + 1) c6) (ss.length + 1) (strs ss ++ [.string ns])) (hgrow : (w2.alloc o).grownBy w3 sV.ownBlock) (hat : sV.ownBlock = some g6 ∨ g6 = w2.heap.size + 1) :
    Inv w3 B0 bs (i + 1) (.slice (some ⟨g5, 0, none⟩) (ps.length + 1) c5) (.slice (some ⟨g6, 0, none⟩) (ss.length + 1) c6) mV (ps ++ [p]) (ss ++ [ns]) ms (n + 1) SB1 := by
  have T : Turns w2 w3 (fun g => sV.ownBlock = some g) := (Turns.alloc w2 o _).trans (Turns.of_grown (S := fun g => sV.ownBlock = some g) hgrow (fun k h => h)) (fun _ _ h => h)
  have I := E.D.I
  have hli := I.li
  have hni := I.ni
  have hmi := I.mi
  refine ⟨E.sc.kept T (fun g h h' => E.D.a2 g h' h), E.pre.kept T (fun k h g => ?_), ?_, row_kept E.mar T (fun k h g => rows_apart E.mar E.spa (by decide) k h g), by simp [I.len], by simp; omega, by simp; omega, by omega, I.mo, fun x hx => ?_, fun x hx => ?_, fun g h => ?_, fun g h => ?_, E.D.a3, fun g h h' => ?_, ?_⟩
  · simp only [Value.ownBlock, Option.some.injEq] at h
    subst h
    exact E.g2 g
  · unfold Owns
    rw [strs_append, List.length_append]
    exact hown
  · have := I.mb x hx; simp; omega
  · rcases List.mem_append.1 hx with h | h
    · exact I.sz x h
    · simp at h; subst h; exact hp
  · simp only [Value.ownBlock, Option.some.injEq] at h
    subst h
    exact E.g1
  · simp only [Value.ownBlock, Option.some.injEq] at h
    subst h
    rcases hat with h | h
    · exact E.D.a2 g6 h
    · intro q
      have := (E.sc.lt g6 q).2
      omega
  · simp only [Value.ownBlock, Option.some.injEq] at h h'
    subst h
    subst h'
    rcases hat with h | h
    · exact E.g2 h
    · have := (E.pre.lt g6 rfl).2; omega
  · have := I.hb; have := E.D.hb; have := E.hb; have := T.size; omega

/-- Behind 'marks = append(marks, ZZDeclaredLen(s))'. -/
theorem inv_mark {w : World} {B0 bs i : Nat} {pV sV mV : Value} {ps ss : List ByteArray} {ms : List Nat} {n : Nat} {SB : Nat → Prop} {o : Obj} {w2 : World} {g c : Nat} (I : Inv w B0 bs i pV sV mV ps ss ms n SB)
    (hown : w2.ownsRow B0 3 1 (.slice (some ⟨g, 0, none⟩) (ms.length + 1) c) (ms.length + 1) (ints ms ++ [.int .i64 ps.length])) (hgrow : (w.alloc o).grownBy w2 mV.ownBlock) (hat : mV.ownBlock = some g ∨ g = w.heap.size + 1) :
    Inv w2 B0 bs (i + 1) pV sV (.slice (some ⟨g, 0, none⟩) (ms.length + 1) c) ps ss (ms ++ [ps.length]) n SB := by
  have T : Turns w w2 (fun g => mV.ownBlock = some g) := (Turns.alloc w o _).trans (Turns.of_grown (S := fun g => mV.ownBlock = some g) hgrow (fun k h => h)) (fun _ _ h => h)
  have hli := I.li
  have hni := I.ni
  have hmi := I.mi
  refine ⟨I.sc.kept T (fun g h h' => I.a3 g h' h), I.pre.kept T (fun k h g => rows_apart I.pre I.mar (by decide) k h g), I.spa.kept T (fun k h g => rows_apart I.spa I.mar (by decide) k h g), ?_, I.len, by omega, by omega, by simp; omega, ?_, fun x hx => ?_, I.sz, I.a1, I.a2, fun g' h => ?_, I.a4, Nat.le_trans I.hb T.size⟩
  · rw [List.length_append]
    unfold ints at hown ⊢
    rw [List.map_append]
    exact hown
  · rw [List.pairwise_append]
    refine ⟨I.mo, List.pairwise_singleton _ _, fun a ha b hb => ?_⟩
    simp at hb
    subst hb
    exact I.mb a ha
  · rcases List.mem_append.1 hx with h | h
    · exact I.mb x h
    · simp at h; omega
  · simp only [Value.ownBlock, Option.some.injEq] at h
    subst h
    rcases hat with h | h
    · exact I.a3 g h
    · intro q
      have := (I.sc.lt g q).2
      omega

/-- Behind a close. -/
theorem inv_end {w : World} {B0 bs i : Nat} {ap as' am : Option Addr} {L Ls k cp cs cm : Nat} {ps ss : List ByteArray} {ms : List Nat} {m : Nat} {n : Nat} {SB : Nat → Prop} {w1 : World} (I : Inv w B0 bs i (.slice ap L cp) (.slice as' Ls cs) (.slice am (k + 1) cm) ps ss (ms ++ [m]) n SB) (hL : L = ps.length) (hLs : Ls = ss.length) (hk : ms.length = k)
    (S : Scope w1 B0 bs (n + (ps.length - m)) (ps.take m) (pops (stkOf ps ss) (ps.drop m)) SB) (T : Turns w w1 SB) :
    Inv w1 B0 bs (i + 1) (.slice ap m cp) (.slice as' m cs) (.slice am k cm) (ps.take m) (ss.take m) ms (n + (ps.length - m)) SB := by
  have hm : m ≤ ps.length := I.mb m (by simp)
  have hli := I.li
  have hni := I.ni
  have hmi := I.mi
  have hlen := I.len
  rw [(pops_stkOf ps ss I.len m hm).1] at S
  have hpw := List.pairwise_append.1 I.mo
  have p1 := I.pre.kept T (fun k h => I.a1 k h)
  have p2 := I.spa.kept T (fun k h => I.a2 k h)
  have p3 := row_kept I.mar T (fun k h => I.a3 k h)
  refine ⟨S, p1.take hL m hm, p2.take hLs m (by omega), ?_, by simp; omega, by simp; omega, by simp; omega, ?_, hpw.1, fun x hx => ?_, fun x hx => I.sz x (List.mem_of_mem_take hx), fun g h => I.a1 g (by rw [ownBlock_slice ap L m cp cp]; exact h), fun g h => I.a2 g (by rw [ownBlock_slice as' Ls m cs cs]; exact h), fun g h => I.a3 g (by rw [ownBlock_slice am (k + 1) k cm cm]; exact h), fun g h h' => I.a4 g (by rw [ownBlock_slice ap L m cp cp]; exact h) (by rw [ownBlock_slice as' Ls m cs cs]; exact h'), Nat.le_trans I.hb T.size⟩
  · have hl' : (ms ++ [m]).length = k + 1 := by simp [hk]
    rw [hl'] at p3
    have := row_take p3 k (by omega)
    rw [hk]
    have e : (ints (ms ++ [m])).take k = ints ms := by
      unfold ints
      rw [← List.map_take]
      congr 1
      rw [← hk]
      simp
    rw [e] at this
    exact this
  · simp at hmi; omega
  · have := hpw.2.2 x hx m (by simp)
    simp
    omega

end Go.Proofs.Qxb6003666a
