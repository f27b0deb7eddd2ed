import Derived.Test.Qxb6606384aSkip
namespace Go.Proofs.Qxb6606384a
open Go.RowKit
set_option linter.unusedVariables false

/-- What ZZSkip hands back. -/
def ZzSkipPost (s : ByteArray) (pos : Nat) (a c e r k : Int) (w : World) (e' : Ending) (w' : World) : Prop :=
  ∃ m c', e' = .returned (.tuple #[.string s, .int .i64 (pos + m : Nat), .int .i64 (R s pos a m), .int .i64 c', .int .i64 e, .int .i64 r]) ∧ Skips s pos a c k m c' ∧ Below w.heap.size w w'

theorem cur_new (w : World) (s : ByteArray) (p a c e r : Int) : Cur (w.alloc (.cells #[.string s, .int .i64 p, .int .i64 a, .int .i64 c, .int .i64 e, .int .i64 r] 33)) w.heap.size s p a c e r := heap_alloc_new w _

set_option maxRecDepth 20000 in
set_option maxHeartbeats 1000000 in
theorem zzSkip_any (s : ByteArray) (pos : Nat) (a c e r k : Int) (w : World) (hs : s.size ≤ 1048576) (h1 : a ≤ 536870912) (hck : c + k ≤ 9223372036854775807) (sh : Shape s pos a c) :
    Calls Try.prog 8 #[.string s, .int .i64 pos, .int .i64 a, .int .i64 c, .int .i64 e, .int .i64 r, .int .i64 k] w (ZzSkipPost s pos a c e r k w) := by
  have K : Hid _ := skip_any w.heap.size s pos a c e r k _ hs h1 hck sh (cur_new w s pos a c e r)
  clear sh hck
  go_enter Try.func8, Try.ntmps8
  go_wp2_with fail
  refine Calls.mono K.out ?_
  rintro e' w' ⟨rfl, m, c', hsk, hcur, hbel⟩
  obtain ⟨c0, c1, c2, c3, c4, c5⟩ := hcur.cells
  have B : Hid (Below w.heap.size w w') := ((Below.refl _ _).alloc (Nat.le_refl _) _).trans hbel
  have S : Hid _ := hsk
  obtain ⟨x, hx⟩ : ∃ x, x = R s pos a m := ⟨_, rfl⟩
  obtain ⟨q, hq⟩ : ∃ q, q = pos + m := ⟨_, rfl⟩
  have HX : Hid _ := hx
  have HQ : Hid _ := hq
  rw [← hx] at c2
  rw [← hq] at c1
  clear hsk hcur hbel hx hq K
  go_wp2
  go_quiet (fail)
  go_wp2
  exact bodyPost_ret (v := .tuple #[.string s, .int .i64 (q : Int), .int .i64 x, .int .i64 c', .int .i64 e, .int .i64 r]) (by simp [results, Try.results8, go_sem]) rfl ⟨m, c', by rw [HX.out, HQ.out], S.out, below_drewN B.out _⟩

/-- What ZZIndent hands back. -/
def ZzIndentPost (s : ByteArray) (pos : Nat) (a c e r k : Int) (w : World) (e' : Ending) (w' : World) : Prop :=
  ∃ i, e' = .returned (.tuple #[.int .i64 (R s pos a i - c), .string s, .int .i64 (pos : Int), .int .i64 a, .int .i64 c, .int .i64 e, .int .i64 r]) ∧ Counts s pos a c k i ∧ Below w.heap.size w w'

set_option maxRecDepth 20000 in
set_option maxHeartbeats 1000000 in
theorem zzIndent_any (s : ByteArray) (pos : Nat) (a c e r k : Int) (w : World) (hs : s.size ≤ 1048576) (h1 : a ≤ 536870912) (sh : Shape s pos a c) :
    Calls Try.prog 12 #[.string s, .int .i64 pos, .int .i64 a, .int .i64 c, .int .i64 e, .int .i64 r, .int .i64 k] w (ZzIndentPost s pos a c e r k w) := by
  have hcur := cur_new w s pos a c e r
  have K : Hid _ := indent_any w.heap.size s pos a c e r k _ hs h1 sh hcur
  have B : Hid _ := (Below.refl w.heap.size w).alloc (Nat.le_refl _) (.cells #[.string s, .int .i64 pos, .int .i64 a, .int .i64 c, .int .i64 e, .int .i64 r] 33)
  clear sh hcur
  go_enter Try.func12, Try.ntmps12
  go_wp2_with fail
  refine Calls.mono K.out ?_
  rintro e' w' ⟨i, rfl, rfl, hC⟩
  have S : Hid _ := hC
  obtain ⟨x, hx⟩ : ∃ x, x = R s pos a i - c := ⟨_, rfl⟩
  have HX : Hid _ := hx
  rw [← hx]
  clear hC hx K
  go_wp2
  go_quiet (fail)
  go_wp2
  exact bodyPost_ret (v := .tuple #[.int .i64 x, .string s, .int .i64 (pos : Int), .int .i64 a, .int .i64 c, .int .i64 e, .int .i64 r]) (by simp [results, Try.results12, go_sem]) rfl ⟨i, by rw [HX.out], S.out, below_drewN B.out _⟩

end Go.Proofs.Qxb6606384a
