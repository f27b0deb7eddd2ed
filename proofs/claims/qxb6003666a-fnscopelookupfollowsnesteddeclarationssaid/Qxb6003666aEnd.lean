import Derived.Test.Qxb6003666aDeclWalk
namespace Go.Proofs.Qxb6003666a
open Go.RowKit
set_option linter.unusedVariables false

/-- 'Scope', with its parts named. -/
def ScopeX (w : World) (base bs bm : Nat) (dv : Value) (f : ByteArray → Value) (n : Nat) (ds : List ByteArray) (stk : ByteArray → List ByteArray) (SB : Nat → Prop) : Prop :=
  w.heap[bs]? = some (.cells #[.map (some bm), dv] 46 (0, 0)) ∧ MapIs w bm n f ∧ Owns w base dv ds ∧ (∀ s, Owns w base (f s) (stk s)) ∧
    (∀ s g, dv.ownBlock = some g → (f s).ownBlock = some g → False) ∧ (∀ s s' g, s ≠ s' → (f s).ownBlock = some g → (f s').ownBlock = some g → False) ∧
    SB bs ∧ SB bm ∧ (∀ g, dv.ownBlock = some g → SB g) ∧ (∀ s g, (f s).ownBlock = some g → SB g) ∧ (∀ g, SB g → base ≤ g ∧ g < w.heap.size)

theorem ScopeX.scope {w : World} {base bs bm : Nat} {dv : Value} {f : ByteArray → Value} {n : Nat} {ds : List ByteArray} {stk : ByteArray → List ByteArray} {SB : Nat → Prop} (h : ScopeX w base bs bm dv f n ds stk SB) : Scope w base bs n ds stk SB := ⟨bm, dv, f, h⟩

/-- The stacks behind one pop at each of l. -/
def pops (stk : ByteArray → List ByteArray) (l : List ByteArray) : ByteArray → List ByteArray := l.foldl (fun s q => updS s q (s q).dropLast) stk

theorem pops_snoc (stk : ByteArray → List ByteArray) (l : List ByteArray) (q : ByteArray) : pops stk (l ++ [q]) = updS (pops stk l) q (pops stk l q).dropLast := by
  unfold pops; rw [List.foldl_append]; rfl

/-- Every pop finds something. -/
def Pops (stk : ByteArray → List ByteArray) (l : List ByteArray) : Prop := ∀ j, j < l.length → pops stk (l.take j) (l.getD j ⟨#[]⟩) ≠ []

theorem take_snoc' (l : List ByteArray) (j : Nat) (h : j < l.length) : l.take (j + 1) = l.take j ++ [l.getD j ⟨#[]⟩] := by
  rw [List.take_succ_eq_append_getElem h]
  simp [List.getD, List.getElem?_eq_getElem h]

theorem ownBlock_slice (a : Option Addr) (m n c c' : Nat) : (Value.slice a m c).ownBlock = (Value.slice a n c').ownBlock := by
  cases a <;> rfl

/-- Behind 's.namespaces[q] = spaces[:len(spaces)-1]'. -/
theorem scopeX_pop {w w2 : World} {base bs bm : Nat} {dv : Value} {f : ByteArray → Value} {n : Nat} {ds : List ByteArray} {stk : ByteArray → List ByteArray} {SB : Nat → Prop} {q : ByteArray} {a : Option Addr} {k1 c : Nat}
    (h : ScopeX w base bs bm dv f n ds stk SB) (hv : f q = .slice a (k1 + 1) c) (hk : (stk q).length = k1 + 1) (hm2 : MapIs w2 bm (n + 1) (upd f q (.slice a k1 c))) (hg2 : w.grownBy w2 (some bm)) :
    ScopeX w2 base bs bm dv (upd f q (.slice a k1 c)) (n + 1) ds (updS stk q (stk q).dropLast) SB ∧ Turns w w2 SB := by
  obtain ⟨hbs, hm, hdv, hf, ap1, ap2, s1, s2, s3, s4, s5⟩ := h
  have T2 : Turns w w2 (fun g => g = bm) := Turns.of_grown hg2 (fun k h => by cases h; rfl)
  have old : ∀ s g, (upd f q (.slice a k1 c) s).ownBlock = some g → (f s).ownBlock = some g := by
    intro s g h
    unfold upd at h
    by_cases e : s = q
    · rw [if_pos e] at h
      rw [e, hv, ownBlock_slice a (k1 + 1) k1 c c]
      exact h
    · rw [if_neg e] at h
      exact h
  refine ⟨⟨T2.heap hbs (ne_map_struct hm hbs), hm2, hdv.kept T2 (fun k h g => ne_map hdv hm (by rw [h, g])), fun s => ?_, fun s g h1 h2 => ap1 s g h1 (old s g h2), fun s s' g hne h1 h2 => ap2 s s' g hne (old s g h1) (old s' g h2), s1, s2, s3, fun s g h => s4 s g (old s g h), fun g hg => ⟨(s5 g hg).1, Nat.lt_of_lt_of_le (s5 g hg).2 T2.size⟩⟩, T2.mono (fun k h => by rw [h]; exact s2)⟩
  unfold upd updS
  by_cases e : s = q
  · rw [if_pos e, if_pos e]
    have h0 := hf q
    rw [hv] at h0
    have h1 := h0.take hk.symm k1 (by omega)
    rw [List.dropLast_eq_take, show (stk q).length - 1 = k1 by omega]
    have h2 := ne_map h1 hm
    exact h1.kept T2 (fun k h g => h2 (by rw [h, g]))
  · rw [if_neg e, if_neg e]
    exact (hf s).kept T2 (fun k h g => ne_map (hf s) hm (by rw [h, g]))

/-- Behind 's.declared = s.declared[:mark]'. -/
theorem scopeX_cut {w : World} {base bs bm : Nat} {f : ByteArray → Value} {n : Nat} {ds : List ByteArray} {stk : ByteArray → List ByteArray} {SB : Nat → Prop} {ad : Option Addr} {L cd mark : Nat} (hL : L = ds.length) (hmark : mark ≤ ds.length)
    (h : ScopeX w base bs bm (.slice ad L cd) f n ds stk SB) :
    Scope (w.setCell ⟨bs, 1, none⟩ (.slice ad mark cd)) base bs n (ds.take mark) stk SB ∧ Turns w (w.setCell ⟨bs, 1, none⟩ (.slice ad mark cd)) SB := by
  obtain ⟨hbs, hm, hdv, hf, ap1, ap2, s1, s2, s3, s4, s5⟩ := h
  have T4 : Turns w (w.setCell ⟨bs, 1, none⟩ (.slice ad mark cd)) (fun g => g = bs) := (Turns.refl w (fun g => g = bs)).setCell (p := ⟨bs, 1, none⟩) rfl _
  have hd := hdv.take hL mark hmark
  have ssz : (w.setCell ⟨bs, 1, none⟩ (.slice ad mark cd)).heap.size = w.heap.size := by simp
  refine ⟨⟨bm, .slice ad mark cd, f, heap_setCell_same w bs 1 _ _ _ hbs, hm.kept T4 (fun h => ne_map_struct hm hbs h.symm), hd.kept T4 (fun k h g => ne_struct (by decide) hd hbs (by rw [h, g])), fun s => (hf s).kept T4 (fun k h g => ne_struct (by decide) (hf s) hbs (by rw [h, g])), fun s g h1 h2 => ap1 s g (by rw [ownBlock_slice ad L mark cd cd]; exact h1) h2, ap2, s1, s2, fun g h => s3 g (by rw [ownBlock_slice ad L mark cd cd]; exact h), s4, fun g hg => ⟨(s5 g hg).1, by rw [ssz]; exact (s5 g hg).2⟩⟩, (Turns.refl w SB).setCell (p := ⟨bs, 1, none⟩) s1 _⟩

theorem turns_drew {w w' : World} {S : Nat → Prop} (h : Turns w.drew w' S) : Turns w w' S := ⟨h.os, h.tape, h.output, h.size, h.block⟩

/-- What end leaves. -/
def EndPost (w : World) (base bs n : Nat) (ds : List ByteArray) (stk : ByteArray → List ByteArray) (SB : Nat → Prop) (mark : Nat) (e : Ending) (w' : World) : Prop :=
  e = .returned (.tuple #[]) ∧ Scope w' base bs (n + (ds.length - mark)) (ds.take mark) (pops stk (ds.drop mark)) SB ∧ Turns w w' SB

theorem end_mk {w wr : World} {base bs bm n : Nat} {f : ByteArray → Value} {ds : List ByteArray} {stk : ByteArray → List ByteArray} {SB : Nat → Prop} {ad : Option Addr} {L cd mark : Nat} (T : Turns w wr SB) (hL : L = ds.length) (hmark : mark ≤ ds.length)
    (h : ScopeX wr base bs bm (.slice ad L cd) f (n + (ds.length - mark)) ds (pops stk (ds.drop mark)) SB) : EndPost w base bs n ds stk SB mark (.returned (.tuple #[])) (wr.setCell ⟨bs, 1, none⟩ (.slice ad mark cd)) := by
  obtain ⟨z1, z2⟩ := scopeX_cut hL hmark h
  exact ⟨rfl, z1, T.trans z2 (fun _ _ h => h)⟩

set_option maxRecDepth 100000 in
set_option maxHeartbeats 1000000 in
theorem end_none (bs base n bm : Nat) (dv : Value) (f : ByteArray → Value) (ds : List ByteArray) (stk : ByteArray → List ByteArray) (SB : Nat → Prop) (w : World) (h : ScopeX w base bs bm dv f n ds stk SB) (hd : ds.length ≤ 1048576) :
    Calls Try.prog 27 #[.pointer (some ⟨bs, 0, none⟩), .int .i64 ds.length] w (EndPost w base bs n ds stk SB ds.length) := by
  obtain ⟨ad, cd, hdv, hcd, hmx, _, hnil, _⟩ := h.2.2.1.form
  subst hdv
  have c1 : w.cell? ⟨bs, 1, none⟩ = some (.slice ad ds.length cd) := cell_of_row w bs 1 _ _ _ h.1
  have f1 : w.frozen? ⟨bs, 1, none⟩ = false := frozen_of_row w bs 1 _ _ h.1
  have H : Hid _ := h
  obtain ⟨L, hL⟩ : ∃ L, L = ds.length := ⟨_, rfl⟩
  have HL : Hid _ := hL
  rw [← hL] at c1 hd hcd ⊢
  unfold maxLen at hmx
  clear h hL
  have hcd' : (L : Int) ≤ (cd : Int) := by omega
  by_cases hcl : cd = L
  · subst hcl
    go_enter Try.func27, Try.ntmps27
    go_wp2
    refine wp_loop_rounds 1 ?_
    rw [rounds_succ]
    go_wp2
    go_end0
    have hL := HL.out
    refine end_mk (bm := bm) (f := f) (Turns.refl _ _) hL (by omega) ?_
    have h := H.out
    rw [hL] at h ⊢
    rw [Nat.sub_self, List.drop_length]
    exact h
  · have hcl' : L < cd := by omega
    clear hcl
    go_enter Try.func27, Try.ntmps27
    go_wp2
    refine wp_loop_rounds 1 ?_
    rw [rounds_succ]
    go_wp2
    go_end0
    have hL := HL.out
    refine end_mk (bm := bm) (f := f) (Turns.refl _ _) hL (by omega) ?_
    rw [hL, Nat.sub_self, List.drop_length]
    exact H.out

set_option maxRecDepth 100000 in
set_option maxHeartbeats 2000000 in
theorem end_some (bs base n bm g mark : Nat) (cd : Nat) (f : ByteArray → Value) (ds : List ByteArray) (stk : ByteArray → List ByteArray) (SB : Nat → Prop) (w : World) (h : ScopeX w base bs bm (.slice (some ⟨g, 0, none⟩) ds.length cd) f n ds stk SB) (hd : ds.length ≤ 1048576) (hmark : mark < ds.length) (hn : n + ds.length ≤ 1048576)
    (hds : ∀ i, i < ds.length → (ds.getD i ⟨#[]⟩).size ≤ maxLen) (hpops : Pops stk (ds.drop mark)) :
    Calls Try.prog 27 #[.pointer (some ⟨bs, 0, none⟩), .int .i64 mark] w (EndPost w base bs n ds stk SB mark) := by
  obtain ⟨ad, cd', hdv, hcd, hmx, _, _, hcells⟩ := h.2.2.1.form
  simp only [Value.slice.injEq] at hdv
  obtain ⟨rfl, _, rfl⟩ := hdv
  have HX : Hid _ := h
  obtain ⟨L, hL⟩ : ∃ L, L = ds.length := ⟨_, rfl⟩
  have HL : Hid _ := hL
  have c1 : w.cell? ⟨bs, 1, none⟩ = some (.slice (some ⟨g, 0, none⟩) ds.length cd) := cell_of_row w bs 1 _ _ _ h.1
  have HDS : Hid _ := hds
  have HP : Hid _ := hpops
  rw [← hL] at c1 hd hcd hmark hn
  have hmx' : cd ≤ 9223372036854775807 := by unfold maxLen at hmx; omega
  clear h hL hcells hds hpops hmx
  have hcd' : (L : Int) ≤ (cd : Int) := by omega
  have hm1 : (mark : Int) < (L : Int) := by omega
  have hmc : mark < cd := by omega
  go_enter Try.func27, Try.ntmps27
  go_wp2
  go_loopw [14] (fun i wr => ∃ (j : Nat) (f' : ByteArray → Value), j ≤ L - mark ∧ i = .int .i64 j ∧ ScopeX wr base bs bm (.slice (some ⟨g, 0, none⟩) ds.length cd) f' (n + j) ds (pops stk ((ds.drop mark).take j)) SB ∧ Turns w wr SB) (fun i _ => L - mark - (intOf i).toNat)
  case atStart => exact ⟨0, f, Nat.zero_le _, rfl, HX.out, Turns.refl _ _⟩
  case round =>
    obtain ⟨j, f', hj, rfl, hX, hT⟩ := hrel
    have KX : Hid _ := hX
    have KT : Hid _ := hT
    have b0 : wr.cell? ⟨bs, 0, none⟩ = some (.map (some bm)) := cell_of_row wr bs 0 _ _ _ hX.1
    have b1 : wr.cell? ⟨bs, 1, none⟩ = some (.slice (some ⟨g, 0, none⟩) ds.length cd) := cell_of_row wr bs 1 _ _ _ hX.1
    have f1 : wr.frozen? ⟨bs, 1, none⟩ = false := frozen_of_row wr bs 1 _ _ hX.1
    rw [← HL.out] at b1
    by_cases hlt : j < L - mark
    · obtain ⟨_, _, hdv, _, _, _, _, hcells⟩ := hX.2.2.1.form
      simp only [Value.slice.injEq] at hdv
      obtain ⟨rfl, _, rfl⟩ := hdv
      obtain ⟨q, hq⟩ : ∃ q, q = ds.getD (mark + j) ⟨#[]⟩ := ⟨_, rfl⟩
      have hcq := hcells g (mark + j) rfl (by rw [← HL.out]; omega)
      rw [← hq] at hcq
      have hqs : q.size ≤ maxLen := by rw [hq]; exact HDS.out _ (by rw [← HL.out]; omega)
      have hq' : q = (ds.drop mark).getD j ⟨#[]⟩ := by rw [hq]; simp [List.getD]
      have hne : pops stk ((ds.drop mark).take j) q ≠ [] := by rw [hq']; exact HP.out j (by simp; rw [← HL.out]; omega)
      obtain ⟨k1, hk1⟩ : ∃ k1, (pops stk ((ds.drop mark).take j) q).length = k1 + 1 := ⟨(pops stk ((ds.drop mark).take j) q).length - 1, by have := List.length_pos_iff.2 hne; omega⟩
      obtain ⟨a, c, hv, hc, hcm, hpos, _, _⟩ := (hX.2.2.2.1 q).form
      rw [hk1] at hv hc hpos
      obtain ⟨ga, rfl⟩ := hpos (by omega)
      have hl := hX.2.1.look q hqs
      rw [hv] at hl
      obtain ⟨w2, hup, hm2, hg2⟩ := MapIs.put (w := wr.drew) hX.2.1 q hqs (.slice (some ⟨ga, 0, none⟩) k1 c) (by unfold maxLen; omega)
      obtain ⟨y1, y2⟩ := scopeX_pop (w := wr.drew) hX hv hk1 hm2 hg2
      have d0 : w2.cell? ⟨bs, 0, none⟩ = some (.map (some bm)) := cell_of_row w2 bs 0 _ _ _ y1.1
      have KY : Hid _ := And.intro y1 y2
      have HQ : Hid _ := hq'
      have hkb : (k1 : Int) ≤ 9223372036854775806 := by unfold maxLen at hcm; omega
      have hkc : (k1 : Int) < (c : Int) := by omega
      have hkc2 : (k1 : Int) ≤ (c : Int) := by omega
      have hk0 : (0 : Int) ≤ (k1 : Int) := by omega
      have hwr2 : IntKind.i64.wrap (k1 : Int) = (k1 : Int) := by rw [IntKind.wrap_i64]; omega
      have hwr : IntKind.i64.wrap ((k1 : Int) + 1 - 1) = (k1 : Int) := by rw [IntKind.wrap_i64]; omega
      clear hX hT hcells hq hq' hne hv hm2 hg2 y1 y2 hcm hpos hk1
      go_wp2
      go_region_held3 (fun w' => w'.cell? ⟨bs, 0, none⟩ = some (.map (some bm))) (first | assumption | go_keep) (fail)
      go_wp2
      go_roundw
      case rel =>
        refine ⟨j + 1, upd f' q (.slice (some ⟨ga, 0, none⟩) k1 c), by omega, by go_num, ?_, KT.out.trans (turns_drew KY.out.2) (fun _ _ h => h)⟩
        rw [take_snoc' _ j (by simp; rw [← HL.out]; omega), ← HQ.out, pops_snoc]
        exact KY.out.1
      case measure => simp [intOf]; omega
    · have hjj : j = L - mark := by omega
      have HJ : Hid _ := hjj
      clear hX hT hjj
      have hmc2 : (mark : Int) ≤ (cd : Int) := by omega
      go_wp2
      go_end0
      refine end_mk (bm := bm) (f := f') KT.out HL.out (by rw [← HL.out]; omega) ?_
      have h := KX.out
      have hj := HJ.out
      have hL := HL.out
      subst hL
      subst hj
      rw [List.take_of_length_le (by simp)] at h
      exact h

theorem end_any (bs base n mark : Nat) (ds : List ByteArray) (stk : ByteArray → List ByteArray) (SB : Nat → Prop) (w : World) (h : Scope w base bs n ds stk SB) (hd : ds.length ≤ 1048576) (hmark : mark ≤ ds.length) (hn : n + ds.length ≤ 1048576)
    (hds : ∀ i, i < ds.length → (ds.getD i ⟨#[]⟩).size ≤ maxLen) (hpops : Pops stk (ds.drop mark)) :
    Calls Try.prog 27 #[.pointer (some ⟨bs, 0, none⟩), .int .i64 mark] w (EndPost w base bs n ds stk SB mark) := by
  obtain ⟨bm, dv, f, hX⟩ := h
  have hX' : ScopeX w base bs bm dv f n ds stk SB := hX
  by_cases e : mark = ds.length
  · subst e
    exact end_none bs base n bm dv f ds stk SB w hX' hd
  · obtain ⟨ad, cd, hdv, _, _, hpos, _, _⟩ := hX'.2.2.1.form
    obtain ⟨g, rfl⟩ := hpos (by omega)
    subst hdv
    exact end_some bs base n bm g mark cd f ds stk SB w hX' hd (by omega) hn hds hpops

set_option maxHeartbeats 400000 in
theorem zzEnd_any (bs base n mark : Nat) (ds : List ByteArray) (stk : ByteArray → List ByteArray) (SB : Nat → Prop) (w : World) (h : Scope w base bs n ds stk SB) (hd : ds.length ≤ 1048576) (hmark : mark ≤ ds.length) (hn : n + ds.length ≤ 1048576)
    (hds : ∀ i, i < ds.length → (ds.getD i ⟨#[]⟩).size ≤ maxLen) (hpops : Pops stk (ds.drop mark)) :
    Calls Try.prog 22 #[.pointer (some ⟨bs, 0, none⟩), .int .i64 mark] w (EndPost w base bs n ds stk SB mark) := by
  have K : Hid _ := end_any bs base n mark ds stk SB w h hd hmark hn hds hpops
  clear h hd hmark hn hds hpops
  go_enter Try.func22, Try.ntmps22
  go_wp2_with fail
  refine Calls.mono K.out ?_
  rintro e w' ⟨rfl, h1, h2⟩
  have R : Hid _ := And.intro h1 h2
  clear h1 h2
  go_wp2
  go_end0
  exact ⟨rfl, R.out.1, R.out.2⟩

set_option maxHeartbeats 400000 in
theorem zzDecl_any (bs base n : Nat) (p ns : ByteArray) (ds : List ByteArray) (stk : ByteArray → List ByteArray) (SB : Nat → Prop) (w : World) (h : Scope w base bs n ds stk SB) (hbase : base ≤ w.heap.size) (hp : p.size ≤ maxLen) (hn : n < 1048576) (hk : (stk p).length ≤ 1048576) (hd : ds.length ≤ 1048576) :
    Calls Try.prog 20 #[.pointer (some ⟨bs, 0, none⟩), .string p, .string ns] w (DeclPost w base bs n ds stk SB p ns) := by
  have K : Hid _ := decl_any bs base n p ns ds stk SB w h hbase hp hn hk hd
  clear h hbase hp hn hk hd
  go_enter Try.func20, Try.ntmps20
  go_wp2_with fail
  refine Calls.mono K.out ?_
  rintro e w' ⟨rfl, h1⟩
  have R : Hid _ := h1
  clear h1
  go_wp2
  go_end0
  exact ⟨rfl, R.out⟩

end Go.Proofs.Qxb6003666a
