import Derived.Test.Qxb6003666aDecl
namespace Go.Proofs.Qxb6003666a
open Go.RowKit
set_option linter.unusedVariables false

/-- What a declaration leaves. -/
def DeclPost (w : World) (base bs n : Nat) (ds : List ByteArray) (stk : ByteArray → List ByteArray) (SB : Nat → Prop) (p ns : ByteArray) (e : Ending) (w' : World) : Prop :=
  e = .returned (.tuple #[]) ∧ ∃ SB', Scope w' base bs (n + 1) (ds ++ [p]) (updS stk p (stk p ++ [ns])) SB' ∧ (∀ g, SB' g → SB g ∨ w.heap.size ≤ g) ∧ Turns w w' SB

theorem mid_store {w w2 w3 : World} {base bs bm n : Nat} {dv : Value} {f : ByteArray → Value} {stk : ByteArray → List ByteArray} {ds : List ByteArray} {p ns : ByteArray} {gg cap : Nat} {o : Obj}
    (M : Mid w w2 base bs bm n dv f stk ds p ns gg cap) (hgrow3 : (w2.alloc o).grownBy w3 dv.ownBlock) : w3.heap[bs]? = some (.cells #[.map (some bm), dv] 46 (0, 0)) := by
  have T3 : Turns w2 w3 (fun g => dv.ownBlock = some g) := (Turns.alloc w2 o _).trans (Turns.of_grown (S := fun g => dv.ownBlock = some g) hgrow3 (fun k h => h)) (fun _ _ h => h)
  exact T3.heap M.sc (ne_struct (by decide) M.dec M.sc)

set_option maxRecDepth 100000 in
set_option maxHeartbeats 3200000 in
theorem decl_any (bs base n : Nat) (p ns : ByteArray) (ds : List ByteArray) (stk : ByteArray → List ByteArray) (SB : Nat → Prop) (w : World) (h : Scope w base bs n ds stk SB) (hbase : base ≤ w.heap.size) (hp : p.size ≤ maxLen) (hn : n < 1048576) (hk : (stk p).length ≤ 1048576) (hd : ds.length ≤ 1048576) :
    Calls Try.prog 26 #[.pointer (some ⟨bs, 0, none⟩), .string p, .string ns] w (DeclPost w base bs n ds stk SB p ns) := by
  obtain ⟨bm, dv, f, hbs, hm, hdv, hf, ap1, ap2, s1, s2, s3, s4, s5⟩ := h
  have c0 : w.cell? ⟨bs, 0, none⟩ = some (.map (some bm)) := cell_of_row w bs 0 _ _ _ hbs
  obtain ⟨a, cap0, hv, hcap, hmx, _, _, _⟩ := (hf p).form
  have hl := hm.look p hp
  have hl1 : (Instr.lookup 44 (.map (some bm)) (.string p) false).run Try.prog w.drew = .ok (f p) w.drew := MapIs.look (w := w.drew) hm p hp
  have hl2 : (Instr.lookup 44 (.map (some bm)) (.string p) false).run Try.prog (w.alloc (.cells #[.string ns] 9)).drew = .ok (f p) (w.alloc (.cells #[.string ns] 9)).drew := by
    have hm' : MapIs (w.alloc (.cells #[.string ns] 9)) bm n f := hm.kept (Turns.alloc w _ (fun _ => False)) (fun h => h)
    exact MapIs.look (w := (w.alloc (.cells #[.string ns] 9)).drew) hm' p hp
  have hmid := fun (gg cap : Nat) (w1 : World) (o : Obj) (q : Nat) => mid_mk (w := w) (w1 := w1) (base := base) (bs := bs) (bm := bm) (n := n) (dv := dv) (f := f) (stk := stk) (ds := ds) (p := p) (ns := ns) (gg := gg) (cap := cap) (o := o) (q := q) hbs hm hdv hf ap1 ap2 hp (by unfold maxLen; omega)
  have HMID : Hid _ := hmid
  have HP : Hid _ := hf p
  have HD : Hid _ := And.intro hdv (And.intro hf (And.intro ap1 (And.intro ap2 (And.intro s1 (And.intro s2 (And.intro s3 (And.intro s4 s5)))))))
  have HV : Hid _ := hv
  rw [hv] at hl hl1 hl2
  clear hmid hm hdv hf ap1 ap2 s1 s2 s3 s4 s5 hbs hv
  obtain ⟨i0, hi, hz0, hz1, hz2⟩ := info_parts Try.info9
  obtain ⟨k, hk'⟩ : ∃ k, k = (stk p).length := ⟨_, rfl⟩
  have HK : Hid _ := hk'
  rw [← hk'] at hl hl1 hl2 hk
  clear hk'
  go_enter Try.func26, Try.ntmps26
  go_wp2_with fail
  go_region_held3 (fun w' => w'.cell? ⟨bs, 0, none⟩ = some (.map (some bm)))
    (first | assumption | go_keep)
    ((refine step_append_lies _ (by rfl) _ _ _ (by rfl) base 9 i0 _ 1 16 Try.underlying31 hi hz0 hz1 hz2 rfl (by omega) (f p) k (strs (stk p)) (by rw [HV.out, ← HK.out]; rfl) (by rw [HK.out]; exact (World.ownsRow.alloc HP.out _)) ⟨w.heap.size, 0, none⟩ 1 1 [.string ns] (by rfl) (by rfl) (cell_one_new _ _ _) (by simp [Value.oneCell']) (by omega) (by unfold maxLen; omega) (by omega) (by simp; omega) (w.heap.size + 1) (by simp) ?_; intro gg cap w1 hown1 hgrow hat hlt; obtain ⟨w2, hup, hM, hc1, hc2⟩ := HMID.out gg cap w1 _ 1 (by rw [← HK.out]; exact hown1) hgrow hat hlt; rw [← HK.out] at hup; have KM : Hid _ := hM; clear hM hown1 hgrow hat hlt))
  all_goals
    have hsc := KM.out.sc
    have c1 : w2.cell? ⟨bs, 1, none⟩ = some dv := cell_of_row w2 bs 1 _ _ _ hsc
    obtain ⟨ad, capd, hdvf, _, _, _, _, _⟩ := KM.out.dec.form
    have HDV : Hid _ := hdvf
    rw [hdvf] at c1
    have hb2 : base ≤ w2.heap.size := Nat.le_trans hbase KM.out.turns.size
    obtain ⟨L, hL⟩ : ∃ L, L = ds.length := ⟨_, rfl⟩
    have HL : Hid _ := hL
    rw [← hL] at c1 hd
    clear hup hl hl1 hl2 hc1 hsc hdvf hL
    go_wp2_with (at_builtin; refine wpList_append_lies _ rfl _ _ 31 rfl base 9 i0 _ 1 16 Try.underlying31 hi hz0 hz1 hz2 rfl (by omega) dv L (strs ds) (by rw [HDV.out, ← HL.out]; rfl) (by rw [HL.out]; exact (World.ownsRow.alloc KM.out.dec _)) ⟨w2.heap.size, 0, none⟩ 1 1 [.string p] (by rfl) (by rfl) (cell_one_new _ _ _) (by simp [Value.oneCell']) (by omega) (by unfold maxLen; omega) (by omega) (by simp; omega) (w2.heap.size + 1) (by simp) ?_; intro g3 cap3 w3 hown3 hgrow3 hat3 hlt3; have hb3 := mid_store KM.out hgrow3; have c31 : w3.cell? ⟨bs, 1, none⟩ = some dv := cell_of_row w3 bs 1 _ _ _ hb3; have f31 : w3.frozen? ⟨bs, 1, none⟩ = false := frozen_of_row w3 bs 1 _ _ hb3; have R3 : Hid _ := And.intro hown3 (And.intro hgrow3 (And.intro hat3 hlt3)); clear hown3 hgrow3 hat3 hlt3 hb3)
    go_end0
    obtain ⟨r1, r2, r3, r4⟩ := R3.out
    obtain ⟨d1, d2, d3, d4, d5, d6, d7, d8, d9⟩ := HD.out
    have hL := HL.out
    subst hL
    obtain ⟨z1, z2⟩ := decl_scope d1 d2 d3 d4 d5 d6 d7 d8 d9 hbase KM.out r1 r2 r3 r4
    exact ⟨rfl, _, z1, fun g hg => hg.elim .inl (fun h => .inr h.1), z2⟩

end Go.Proofs.Qxb6003666a
