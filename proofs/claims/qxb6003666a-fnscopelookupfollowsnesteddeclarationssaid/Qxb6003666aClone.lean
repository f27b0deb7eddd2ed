import Derived.Test.Qxb6003666aAgreesWalk
import Derived.Laws.CopyOwn
namespace Go.Proofs.Qxb6003666a
open Go.RowKit
set_option linter.unusedVariables false

theorem Try.info34 : (Try.prog.info? 34).map (fun i => (i.zero, i.size, i.bytes)) = some (some (.agg #[.int .u8 0, .string ⟨#[]⟩, .string ⟨#[]⟩]), 3, 40) := by kernel_rfl

/-- m cells from the address a on hold f. -/
def CellsR (w : World) (a : Option Addr) (m : Nat) (f : Nat → Value) : Prop :=
  m = 0 ∨ ∃ b off, a = some ⟨b, off, none⟩ ∧ ∀ i, i < m → w.cell? ⟨b, off + i, none⟩ = some (f i)

theorem cellsR_below {w w' : World} {a : Option Addr} {n : Nat} {f : Nat → Value} (h : CellsR w a n f) (hb : Below w.heap.size w w') : CellsR w' a n f := by
  rcases h with h | ⟨b, off, h, hc⟩
  · exact .inl h
  · exact .inr ⟨b, off, h, fun i hi => (hb.cell (World.block_lt_of_cell? w _ (hc i hi))).trans (hc i hi)⟩

theorem cellsR_cells {w : World} {a : Option Addr} {n : Nat} {f : Nat → Value} (h : CellsR w a n f) :
    ∃ b off, (0 < n → a = some ⟨b, off, none⟩) ∧ ∀ i, i < n → w.cell? ⟨b, off + i, none⟩ = some (f i) ∧ b < w.heap.size := by
  rcases h with h | ⟨b, off, h, hc⟩
  · exact ⟨0, 0, fun g => by omega, fun i hi => by omega⟩
  · exact ⟨b, off, fun _ => h, fun i hi => ⟨hc i hi, World.block_lt_of_cell? w _ (hc i hi)⟩⟩

theorem addr_plain (b o i : Nat) : (⟨b, o, none⟩ : Addr).add i = ⟨b, o + i, none⟩ := by unfold Addr.add; split <;> simp_all

/-- 'copy(c, s)', c as long as s and just made: behind it c holds what s holds. -/
theorem run_copy_whole {P : Program} (w : World) (dT sT ty elem : TypeId) (size g n dCap : Nat) (sp : Option Addr) (sCap : Nat) (cur : Array Value) (t : TypeId) (f : Nat → Value)
    (hu : P.underlying dT = some (.slice elem)) (hs : (P.info? elem).map (·.size) = some size) (hg : w.heap[g]? = some (.cells cur t (0, 0))) (hcur : cur.size = n * size) (hsrc : CellsR w sp (n * size) f) (h1 : ∀ i, i < n * size → (f i).oneCell' = true) :
    ∃ w', (Builtin.copy_ #[dT, sT] ty #[.slice (some ⟨g, 0, none⟩) n dCap, .slice sp n sCap]).run P w = .ok (goInt n) w' ∧ w'.heap[g]? = some (.cells ((List.range (n * size)).map f).toArray t (0, 0)) ∧ w.grownBy w' (some g) := by
  cases hq : P.info? elem with
  | none => simp [hq] at hs
  | some i =>
    have hi : i.size = size := by simpa [hq] using hs
    have hst := run_storeCells_at P g 0 t ((List.range (n * size)).map f) 0 cur w hg (by simp [hcur]) (by intro v hv; simp at hv; obtain ⟨j, hj, rfl⟩ := hv; exact h1 j hj)
    have hmin : Nat.min n n = n := Nat.min_self n
    have hrow : (cur.toList.take (0 + 0) ++ (List.range (n * size)).map f ++ cur.toList.drop (0 + 0 + ((List.range (n * size)).map f).length)).toArray = ((List.range (n * size)).map f).toArray := by
      have hd : cur.toList.drop (n * size) = [] := List.drop_eq_nil_of_le (by simp [hcur])
      simp [hd]
    rw [hrow] at hst
    refine ⟨_, ?_, setRow_heap w g _ _ t _ hg, ⟨rfl, rfl, rfl, by simp [World.setRow], fun k hk hne => setRow_other w g k _ (fun e => hne (by rw [e]))⟩⟩
    rcases hsrc with h0 | ⟨b, off, rfl, hc⟩
    · have hl : ∀ (x : Addr), (loadCells x 0).run P w = .ok #[] w := fun x => by simpa using run_loadCells_list (P := P) w x [] (by simp)
      rw [h0] at hst ⊢
      have hst' : Sem.run P (storeCells ⟨g, 0, none⟩ []) w = Result.ok () (w.setRow g #[]) := by simpa using hst
      cases sp <;> simp [Builtin.copy_, run_underlying hu, Builtin.lenOf, Builtin.firstCells, sizeOf, typeInfo, hq, hi, hmin, h0, hl, hst', Result.andThen]
    · have hl := run_loadCells_list (P := P) w ⟨b, off, none⟩ ((List.range (n * size)).map f) (by
        intro j v hv
        simp only [List.getElem?_map, Option.map_eq_some_iff] at hv
        obtain ⟨k, hk, rfl⟩ := hv
        have hj : j < n * size := by
          have := (List.getElem?_eq_some_iff.1 hk).1
          simpa using this
        have : k = j := by
          have := (List.getElem?_eq_some_iff.1 hk).2
          simpa using this.symm
        subst this
        rw [addr_plain]
        exact hc k hj)
      simp only [List.length_map, List.length_range] at hl
      simp [Builtin.copy_, run_underlying hu, Builtin.lenOf, Builtin.firstCells, sizeOf, typeInfo, hq, hi, hmin, hl, hst]

theorem wpList_copy_whole {P : Program} {w : World} {ops : Array Oper} {rest : List Oper} {o : Oper} {a : Act} {Q : Exit → Act → World → Prop} (hgd : o.guard = none) (d s : Operand) (dT sT : TypeId)
    (ho : o.op = .call { callee := .builtin .copy, args := #[d, s], argTypes := #[dT, sT] }) (elem : TypeId) (hu : P.underlying dT = some (.slice elem)) (size : Nat) (hsz : (P.info? elem).map (·.size) = some size)
    (g n dCap : Nat) (sp : Option Addr) (sCap : Nat) (hd : a.eval d = .slice (some ⟨g, 0, none⟩) n dCap) (hs : a.eval s = .slice sp n sCap) (cur : Array Value) (t : TypeId) (hg : w.heap[g]? = some (.cells cur t (0, 0))) (hcur : cur.size = n * size) (f : Nat → Value) (hsrc : CellsR w sp (n * size) f) (h1 : ∀ i, i < n * size → (f i).oneCell' = true)
    (h : ∀ w', w'.heap[g]? = some (.cells ((List.range (n * size)).map f).toArray t (0, 0)) → w.grownBy w' (some g) → wpList P ops Q rest (a.put o.dst (goInt n)) w') : wpList P ops Q (o :: rest) a w := by
  refine wpList_plain hgd fun K hK => ?_
  obtain ⟨w', hrun, r1, r2⟩ := run_copy_whole (P := P) w dT sT o.type elem size g n dCap sp sCap cur t f hu hsz hg hcur hsrc h1
  unfold Oper.wp
  simp [execOp, ho, resolve, invoke, builtin, hd, hs, hrun, Result.andThen]
  exact hK _ _ (h w' r1 r2)

theorem size9 : (Try.prog.info? 9).map (·.size) = some 1 := by kernel_rfl
theorem size34 : (Try.prog.info? 34).map (·.size) = some 3 := by kernel_rfl

theorem q31 (w : World) (a : Option Addr) (n c n' c' : Nat) : (binOp .eql 31 (.slice a n c) (.slice none n' c')).run Try.prog w = .ok (.bool a.isNone) w := Lib.run_eql_slice_nil w _ _ a n c n' c' Try.underlying31
theorem q30 (w : World) (a : Option Addr) (n c n' c' : Nat) : (binOp .eql 30 (.slice a n c) (.slice none n' c')).run Try.prog w = .ok (.bool a.isNone) w := Lib.run_eql_slice_nil w _ _ a n c n' c' Try.underlying30

theorem cellsR_row {w : World} {g m : Nat} {t : TypeId} {f : Nat → Value} (h : w.heap[g]? = some (.cells ((List.range m).map f).toArray t (0, 0))) : CellsR w (some ⟨g, 0, none⟩) m f := by
  refine .inr ⟨g, 0, rfl, fun i hi => ?_⟩
  rw [Nat.zero_add, cell_of_row w g i _ _ _ h]
  simp [hi]

/-- What a made row's block holds. -/
theorem owns_block {w : World} {base : Nat} {e : TypeId} {size g n cap : Nat} {xs : List Value} (h : w.ownsRow base e size (.slice (some ⟨g, 0, none⟩) n cap) n xs) : ∃ cur, w.heap[g]? = some (.cells cur e (0, 0)) ∧ cur.size = cap * size := by
  rcases h.2 with ⟨hv, _⟩ | ⟨g', cap', cur, hv, _, hg, _, _, hs, _⟩
  · cases hv
  · simp only [Value.slice.injEq, Option.some.injEq, Addr.mk.injEq, and_true, true_and] at hv
    obtain ⟨rfl, rfl⟩ := hv
    exact ⟨cur, hg, hs⟩

set_option maxHeartbeats 400000 in
theorem cloneS_nil (w : World) : Calls Try.prog 18 #[.slice none 0 0] w fun e w' => e = .returned (.slice none 0 0) ∧ w = w' := by
  have q := q31
  go_enter Try.func18, Try.ntmps18
  go_wp2
  go_ret
  exact ⟨rfl, rfl⟩

set_option maxHeartbeats 800000 in
theorem cloneS_some (x : Addr) (n cap : Nat) (F : Nat → ByteArray) (w : World) (hn : n ≤ 1048576) (hr : CellsR w (some x) n (fun i => .string (F i))) :
    Calls Try.prog 18 #[.slice (some x) n cap] w fun e w' => e = .returned (.slice (some ⟨w.heap.size, 0, none⟩) n n) ∧ CellsR w' (some ⟨w.heap.size, 0, none⟩) n (fun i => .string (F i)) ∧ Below w.heap.size w w' := by
  have q := q31
  have HR : Hid _ := hr
  clear hr
  obtain ⟨i0, hi, hz0, hz1, hz2⟩ := info_parts Try.info9
  go_enter Try.func18, Try.ntmps18
  go_wp2_with (at_make; refine wpList_make_full _ rfl _ _ 31 rfl w.heap.size 9 i0 (.string ⟨#[]⟩) 1 Try.underlying31 hi hz0 hz1 .i64 .i64 _ _ n rfl rfl rfl rfl (by rw [hz2]; omega) (by unfold maxLen; omega) (Nat.le_refl _) ?_; intro w0 hown0 hgrow0; obtain ⟨cur, hcur, hsz⟩ := owns_block hown0; obtain ⟨w1, hrun, hrow, hgrow1⟩ := run_copy_whole (P := Try.prog) w0 31 31 3 9 1 w.heap.size n n (some x) cap cur 9 (fun i => .string (F i)) Try.underlying31 size9 hcur hsz (by rw [Nat.mul_one]; exact cellsR_below HR.out ((Below.refl _ _).grown hgrow0 (Nat.le_refl _) (fun k h => by cases h))) (fun i _ => rfl); have K0 : Hid _ := And.intro hgrow0 (And.intro hrow hgrow1); clear hcur hgrow0 hown0 hsz hrow hgrow1)
  go_ret
  refine ⟨rfl, cellsR_row (by have := K0.out.2.1; rw [Nat.mul_one] at this; exact this), ?_⟩
  exact ((Below.refl _ _).grown K0.out.1 (Nat.le_refl _) (fun k h => by cases h)).grown K0.out.2.2 K0.out.1.size (fun k h => by cases h; exact Nat.le_refl _)

/-- WHAT THE WALK IS TOLD OF A SLICE THAT CAME IN, its elements of 'size' cells. -/
def IsSlice (w : World) (size : Nat) (a : Option Addr) (len cap : Nat) (f : Nat → Value) : Prop :=
  (a = none ∧ len = 0 ∧ cap = 0) ∨ ∃ x, a = some x ∧ len ≤ cap ∧ ∀ i, i < cap * size → w.cell? (x.add i) = some (f i)

theorem plain_of_cell {w : World} {x : Addr} {v : Value} (h : w.cell? (x.add 0) = some v) : ∃ b off, x = ⟨b, off, none⟩ ∧ b < w.heap.size := by
  obtain ⟨b, off, spot⟩ := x
  have hspot : spot = none := by simpa [Addr.add] using World.cell?_spot h
  subst hspot
  exact ⟨b, off, rfl, by simpa [Addr.add] using World.block_lt_of_cell? w _ h⟩

theorem cellsR_of {w : World} {size : Nat} {a : Option Addr} {len cap : Nat} {f : Nat → Value} (h : IsSlice w size a len cap f) : CellsR w a (len * size) f := by
  rcases h with ⟨_, rfl, _⟩ | ⟨x, rfl, hl, hc⟩
  · exact .inl (Nat.zero_mul _)
  · have hle : len * size ≤ cap * size := Nat.mul_le_mul_right _ hl
    by_cases h0 : len * size = 0
    · exact .inl h0
    · obtain ⟨b, off, rfl, _⟩ := plain_of_cell (hc 0 (by omega))
      exact .inr ⟨b, off, rfl, fun i hi => by rw [← addr_plain]; exact hc i (by omega)⟩

theorem cloneS_any (a : Option Addr) (n cap : Nat) (F : Nat → ByteArray) (w : World) (hn : n ≤ 1048576) (hr : IsSlice w 1 a n cap (fun i => .string (F i))) :
    Calls Try.prog 18 #[.slice a n cap] w fun e w' => ∃ a' cap', e = .returned (.slice a' n cap') ∧ CellsR w' a' n (fun i => .string (F i)) ∧ Below w.heap.size w w' := by
  have hr' := cellsR_of hr
  rw [Nat.mul_one] at hr'
  rcases hr with ⟨rfl, rfl, rfl⟩ | ⟨x, rfl, _⟩
  · refine (cloneS_nil w).mono ?_
    rintro e w' ⟨rfl, rfl⟩
    exact ⟨none, 0, rfl, .inl rfl, Below.refl _ _⟩
  · refine (cloneS_some x n cap F w hn hr').mono ?_
    rintro e w' ⟨rfl, h1, h2⟩
    exact ⟨_, n, rfl, h1, h2⟩

/-- The cells of a slice of ScopeOps. -/
def opCell (Kd : Nat → Int) (Pf Ns : Nat → ByteArray) (i : Nat) : Value := if i % 3 = 0 then .int .u8 (Kd (i / 3)) else if i % 3 = 1 then .string (Pf (i / 3)) else .string (Ns (i / 3))

theorem opCell_one (Kd : Nat → Int) (Pf Ns : Nat → ByteArray) (i : Nat) : (opCell Kd Pf Ns i).oneCell' = true := by
  unfold opCell
  split
  · rfl
  · split <;> rfl

set_option maxHeartbeats 400000 in
theorem cloneO_nil (w : World) : Calls Try.prog 17 #[.slice none 0 0] w fun e w' => e = .returned (.slice none 0 0) ∧ w = w' := by
  have q := q30
  go_enter Try.func17, Try.ntmps17
  go_wp2
  go_ret
  exact ⟨rfl, rfl⟩

set_option maxHeartbeats 800000 in
theorem cloneO_some (x : Addr) (n cap : Nat) (Kd : Nat → Int) (Pf Ns : Nat → ByteArray) (w : World) (hn : n ≤ 1048576) (hr : CellsR w (some x) (n * 3) (opCell Kd Pf Ns)) :
    Calls Try.prog 17 #[.slice (some x) n cap] w fun e w' => e = .returned (.slice (some ⟨w.heap.size, 0, none⟩) n n) ∧ CellsR w' (some ⟨w.heap.size, 0, none⟩) (n * 3) (opCell Kd Pf Ns) ∧ Below w.heap.size w w' := by
  have q := q30
  have HR : Hid _ := hr
  clear hr
  obtain ⟨i0, hi, hz0, hz1, hz2⟩ := info_parts Try.info34
  go_enter Try.func17, Try.ntmps17
  go_wp2_with (at_make; refine wpList_make_full _ rfl _ _ 30 rfl w.heap.size 34 i0 (.agg #[.int .u8 0, .string ⟨#[]⟩, .string ⟨#[]⟩]) 3 Try.underlying30 hi hz0 hz1 .i64 .i64 _ _ n rfl rfl rfl rfl (by rw [hz2]; omega) (by unfold maxLen; omega) (Nat.le_refl _) ?_; intro w0 hown0 hgrow0; obtain ⟨cur, hcur, hsz⟩ := owns_block hown0; obtain ⟨w1, hrun, hrow, hgrow1⟩ := run_copy_whole (P := Try.prog) w0 30 30 3 34 3 w.heap.size n n (some x) cap cur 34 (opCell Kd Pf Ns) Try.underlying30 size34 hcur hsz (cellsR_below HR.out ((Below.refl _ _).grown hgrow0 (Nat.le_refl _) (fun k h => by cases h))) (fun i _ => opCell_one Kd Pf Ns i); have K0 : Hid _ := And.intro hgrow0 (And.intro hrow hgrow1); clear hcur hgrow0 hown0 hsz hrow hgrow1)
  go_ret
  refine ⟨rfl, cellsR_row K0.out.2.1, ?_⟩
  exact ((Below.refl _ _).grown K0.out.1 (Nat.le_refl _) (fun k h => by cases h)).grown K0.out.2.2 K0.out.1.size (fun k h => by cases h; exact Nat.le_refl _)

theorem cloneO_any (a : Option Addr) (n cap : Nat) (Kd : Nat → Int) (Pf Ns : Nat → ByteArray) (w : World) (hn : n ≤ 1048576) (hr : IsSlice w 3 a n cap (opCell Kd Pf Ns)) :
    Calls Try.prog 17 #[.slice a n cap] w fun e w' => ∃ a' cap', e = .returned (.slice a' n cap') ∧ CellsR w' a' (n * 3) (opCell Kd Pf Ns) ∧ Below w.heap.size w w' := by
  have hr' := cellsR_of hr
  rcases hr with ⟨rfl, rfl, rfl⟩ | ⟨x, rfl, _⟩
  · refine (cloneO_nil w).mono ?_
    rintro e w' ⟨rfl, rfl⟩
    exact ⟨none, 0, rfl, .inl rfl, Below.refl _ _⟩
  · refine (cloneO_some x n cap Kd Pf Ns w hn hr').mono ?_
    rintro e w' ⟨rfl, h1, h2⟩
    exact ⟨_, n, rfl, h1, h2⟩

end Go.Proofs.Qxb6003666a
