import Derived.Test.Qxb6003666aInv
import Derived.Deep.QuietTactic
import Derived.BigQuiet
namespace Go.Proofs.Qxb6003666a
open Go.RowKit
set_option linter.unusedVariables false

theorem below_of {w w1 w2 : World} (h : Below w.heap.size w w1) (h' : Below w1.heap.size w1 w2) : Below w.heap.size w w2 := h.trans (h'.mono h.size)

theorem isSlice_below {w w1 : World} {size : Nat} {a : Option Addr} {len cap : Nat} {f : Nat → Value} (h : IsSlice w size a len cap f) (hb : Below w.heap.size w w1) : IsSlice w1 size a len cap f := by
  rcases h with h | ⟨x, h1, h2, h3⟩
  · exact .inl h
  · exact .inr ⟨x, h1, h2, fun i hi => (hb.cell (World.block_lt_of_cell? w _ (h3 i hi))).trans (h3 i hi)⟩

theorem inv_start (w : World) : Inv ((w.alloc (.map #[] 0)).alloc (.cells #[.map (some w.heap.size), .slice none 0 0] 46)) w.heap.size (w.heap.size + 1) 0 (.slice none 0 0) (.slice none 0 0) (.slice none 0 0) [] [] [] 0 (fun g => w.heap.size ≤ g ∧ g < w.heap.size + 2) := by
  refine ⟨?_, owns_nil _ _, owns_nil _ _, World.ownsRow_nil _ _ _ _, rfl, Nat.le_refl _, Nat.le_refl _, Nat.le_refl _, List.Pairwise.nil, ?_, ?_, ?_, ?_, ?_, ?_, by simp; omega⟩
  · have h := scope_new w
    exact h
  · intro x hx; cases hx
  · intro x hx; cases hx
  · intro g h; cases h
  · intro g h; cases h
  · intro g h; cases h
  · intro g h; cases h

theorem op_app {w4 w5 : World} {B0 g0 : Nat} {pV : Value} {l : List ByteArray} {c : Array Value} {o : Obj} (hop : w4.heap[g0]? = some (.cells c 34 (0, 0))) (hpre : Owns w4 B0 pV l) (hgrow : (w4.alloc o).grownBy w5 pV.ownBlock) : w5.heap[g0]? = some (.cells c 34 (0, 0)) := by
  have T : Turns w4 w5 (fun g => pV.ownBlock = some g) := (Turns.alloc w4 o _).trans (Turns.of_grown (S := fun g => pV.ownBlock = some g) hgrow (fun k h => h)) (fun _ _ h => h)
  exact T.heap hop (ne_struct (by decide) hpre hop)

theorem op_appM {w4 w5 : World} {B0 g0 : Nat} {mV : Value} {k : Nat} {xs : List Value} {c : Array Value} {o : Obj} (hop : w4.heap[g0]? = some (.cells c 34 (0, 0))) (hmar : w4.ownsRow B0 3 1 mV k xs) (hgrow : (w4.alloc o).grownBy w5 mV.ownBlock) : w5.heap[g0]? = some (.cells c 34 (0, 0)) := by
  have T : Turns w4 w5 (fun g => mV.ownBlock = some g) := (Turns.alloc w4 o _).trans (Turns.of_grown (S := fun g => mV.ownBlock = some g) hgrow (fun k h => h)) (fun _ _ h => h)
  refine T.heap hop (fun e => ?_)
  rcases hmar.2 with ⟨rfl, _⟩ | ⟨g, cap, cur, rfl, _, hg, _⟩
  · cases e
  · simp only [Value.ownBlock, Option.some.injEq] at e
    subst e
    rw [hg] at hop
    simp only [Option.some.injEq, Obj.cells.injEq] at hop
    exact absurd hop.2.1 (by decide)

theorem inv_mark' {w : World} {B0 bs i : Nat} {pV sV mV : Value} {ps ss : List ByteArray} {ms : List Nat} {n : Nat} {SB : Nat → Prop} {o : Obj} {w2 : World} {g c M : Nat} (hM : M = ms.length) (I : Inv w B0 bs i pV sV mV ps ss ms n SB)
    (hown : w2.ownsRow B0 3 1 (.slice (some ⟨g, 0, none⟩) (M + 1) c) (M + 1) (ints ms ++ [.int .i64 ps.length])) (hgrow : (w.alloc o).grownBy w2 mV.ownBlock) (hat : mV.ownBlock = some g ∨ g = w.heap.size + 1) :
    Inv w2 B0 bs (i + 1) pV sV (.slice (some ⟨g, 0, none⟩) (M + 1) c) ps ss (ms ++ [ps.length]) n SB := by
  subst hM
  exact inv_mark I hown hgrow hat

theorem sz_getD {l : List ByteArray} (h : ∀ x ∈ l, x.size ≤ 1048576) (j : Nat) (hj : j < l.length) : (l.getD j ⟨#[]⟩).size ≤ maxLen := by
  have e : l.getD j ⟨#[]⟩ = l[j] := by simp [List.getD, List.getElem?_eq_getElem hj]
  rw [e]
  have := h l[j] (List.getElem_mem hj)
  unfold maxLen
  omega

theorem inv_app2' {w : World} {B0 bs i : Nat} {pV sV mV : Value} {ps ss : List ByteArray} {ms : List Nat} {n : Nat} {SB : Nat → Prop} {p ns : ByteArray} {w1 : World} {SB1 : Nat → Prop} {w2 : World} {g5 c5 : Nat} {o : Obj} {w3 : World} {g6 c6 L : Nat} (hL : L = ps.length) (E : EInv w B0 bs i pV sV mV ps ss ms n SB p ns w1 SB1 w2 g5 c5) (hp : p.size ≤ 1048576)
    (hown : w3.ownsRow B0 9 1 (.slice (some ⟨g6, 0, none⟩) (L + 1) c6) (L + 1) (strs ss ++ [.string ns])) (hgrow : (w2.alloc o).grownBy w3 sV.ownBlock) (hat : sV.ownBlock = some g6 ∨ g6 = w2.heap.size + 1) :
    Inv w3 B0 bs (i + 1) (.slice (some ⟨g5, 0, none⟩) (L + 1) c5) (.slice (some ⟨g6, 0, none⟩) (L + 1) c6) mV (ps ++ [p]) (ss ++ [ns]) ms (n + 1) SB1 := by
  have hls : L = ss.length := by rw [hL]; exact E.D.I.len
  have h := inv_app2 E hp (by rw [← hls]; exact hown) hgrow hat
  rw [← hL, ← hls] at h
  exact h

set_option maxRecDepth 100000 in
set_option maxHeartbeats 8000000 in
theorem law_walk (a : Option Addr) (n cap : Nat) (a2 : Option Addr) (m cap2 : Nat) (Kd : Nat → Int) (Pf Ns Pr : Nat → ByteArray) (w : World) (h1 : IsSlice w 3 a n cap (opCell Kd Pf Ns)) (h2 : IsSlice w 1 a2 m cap2 (fun i => .string (Pr i))) (hK : ∀ i, 0 ≤ Kd i ∧ Kd i ≤ 255) :
    Calls Try.prog 6 #[.slice a n cap, .slice a2 m cap2] w fun e w' => e = .returned (.bool true) ∧ Below w.heap.size w w' := by
  have H1 : Hid _ := h1
  have H2 : Hid _ := h2
  have HK : Hid _ := hK
  have KB : Hid _ := bytes_any a n cap a2 m cap2 Kd Pf Ns Pr w (cellsR_of h1) (by have := cellsR_of h2; rw [Nat.mul_one] at this; exact this)
  clear h1 h2 hK
  go_enter Try.func6, Try.ntmps6
  go_wp2_with fail
  refine Calls.mono KB.out ?_
  rintro e w' ⟨β, rfl, rfl, hS⟩
  cases β
  · clear hS
    go_wp2
    go_ret
    exact ⟨rfl, Below.refl _ _⟩
  have HS : Hid _ := hS rfl
  clear hS KB
  by_cases hn : (256 : Int) < (n : Int)
  · go_wp2
    go_ret
    exact ⟨rfl, Below.refl _ _⟩
  have hn1 : decide ((256 : Int) < (n : Int)) = false := decide_eq_false hn
  have hn2 : (n : Int) ≤ 256 := by omega
  clear hn
  by_cases hm : (16 : Int) < (m : Int)
  · go_wp2
    go_ret
    exact ⟨rfl, Below.refl _ _⟩
  have hm1 : decide ((16 : Int) < (m : Int)) = false := decide_eq_false hm
  have hm2 : (m : Int) ≤ 16 := by omega
  clear hm
  go_wp2
  obtain ⟨b, off, ha, hc⟩ := cellsR_cells (cellsR_of H1.out)
  have HA : Hid _ := ha
  have HC : Hid _ := hc
  clear ha hc
  go_loopw [5, 6] (fun z i wr => ∃ k t q : Nat, k ≤ n ∧ i = .int .i64 k ∧ z = .int .i64 t ∧ t ≤ k * 2097192 ∧ wr = w.drewN q) (fun _ i _ => n - (intOf i).toNat)
  case atStart => exact ⟨0, 0, 0, Nat.zero_le _, rfl, rfl, Nat.zero_le _, rfl⟩
  case round =>
    obtain ⟨k, t, q, hk, rfl, rfl, ht, rfl⟩ := hrel
    by_cases hlt : k < n
    · obtain ⟨_, c1, c2, _⟩ := op_cells HC.out k hlt
      obtain ⟨s1, s2⟩ := HS.out.1 k hlt
      obtain rfl := HA.out (by omega)
      obtain ⟨pf, hpf⟩ : ∃ x, x = Pf k := ⟨_, rfl⟩
      obtain ⟨nsx, hns⟩ : ∃ x, x = Ns k := ⟨_, rfl⟩
      rw [← hpf] at c1 s1
      rw [← hns] at c2 s2
      have hl : (k : Int) < (n : Int) := by omega
      have ht2 : (t : Int) ≤ 536881152 := by omega
      have s1' : (pf.size : Int) ≤ 1048576 := by omega
      have s2' : (nsx.size : Int) ≤ 1048576 := by omega
      clear hpf hns
      go_wp2
      go_quiet (fail)
      go_wp2
      go_roundw
      case rel => exact ⟨k + 1, t + (40 + pf.size + nsx.size), _, by omega, by go_num, by go_num, by omega, rfl⟩
      case measure => simp [intOf]; omega
    · have ht3 : (t : Int) ≤ 536881152 := by omega
      clear HA HC ht
      go_wp2
      obtain ⟨b2, off2, ha2, hc2⟩ := cellsR_cells (cellsR_of H2.out)
      have HA2 : Hid _ := ha2
      have HC2 : Hid _ := hc2
      clear ha2 hc2
      go_loop [5, 7] (fun z i => ∃ j t : Nat, j ≤ m ∧ i = .int .i64 j ∧ z = .int .i64 t ∧ t ≤ 536881152 + j * 1048592) (fun _ i => m - (intOf i).toNat)
      case atStart => exact ⟨0, t, Nat.zero_le _, rfl, rfl, by omega⟩
      case round =>
        obtain ⟨j, t2, hj, rfl, rfl, ht2⟩ := hrel
        by_cases hlt2 : j < m
        · have cj := (HC2.out j (by omega)).1
          have sj := HS.out.2 j hlt2
          obtain rfl := HA2.out (by omega)
          obtain ⟨pr, hpr⟩ : ∃ x, x = Pr j := ⟨_, rfl⟩
          rw [← hpr] at cj sj
          have hl3 : (j : Int) < (m : Int) := by omega
          have t2b : (t2 : Int) ≤ 553658624 := by omega
          have sj' : (pr.size : Int) ≤ 1048576 := by omega
          clear hpr
          go_wp2
          go_round
          case rel => exact ⟨j + 1, t2 + (16 + pr.size), by omega, by go_num, by go_num, by omega⟩
          case measure => simp [intOf]; omega
        · clear HA2 HC2 ht2
          by_cases hbig : (1048576 : Int) < (t2 : Int)
          · go_wp2
            go_ret
            exact ⟨rfl, below_drewN (Below.refl _ _) _⟩
          have hbig1 : decide ((1048576 : Int) < (t2 : Int)) = false := decide_eq_false hbig
          clear hbig
          have hnn : n ≤ 256 := by omega
          have hmm : m ≤ 16 := by omega
          have KO : Hid _ := cloneO_any a n cap Kd Pf Ns (w.drewN q) (by omega) H1.out
          go_wp2_with fail
          refine Calls.mono KO.out ?_
          rintro e w1 ⟨a', cap', rfl, hr1, hb1⟩
          have KS : Hid _ := cloneS_any a2 m cap2 Pr w1 (by omega) (isSlice_below (w := w.drewN q) H2.out hb1)
          have B1 : Hid _ := And.intro hr1 hb1
          clear hr1 hb1 KO
          go_wp2_with fail
          refine Calls.mono KS.out ?_
          rintro e w2 ⟨a2', cap2', rfl, hr2, hb2⟩
          have B2 : Hid _ := And.intro hr2 hb2
          clear hr2 hb2 KS
          go_wp2_with fail
          refine Calls.mono (new_any w2) ?_
          rintro e w3 ⟨rfl, rfl⟩
          have I0 := inv_start w2
          have B3 : Below w2.heap.size w2 ((w2.alloc (.map #[] 0)).alloc (.cells #[.map (some w2.heap.size), .slice none 0 0] 46)) := ((Below.refl _ _).alloc (Nat.le_refl _) _).alloc (by simp) _
          have HI0 : Hid _ := And.intro I0 B3
          clear I0 B3
          obtain ⟨bo, oo, hao, hco⟩ := cellsR_cells (cellsR_below B1.out.1 B2.out.2)
          obtain ⟨bp, op, hap, hcp⟩ := cellsR_cells B2.out.1
          have HAO : Hid _ := hao
          have HCO : Hid _ := hco
          have HAP : Hid _ := hap
          have HCP : Hid _ := hcp
          clear hao hco hap hcp
          go_wp2
          go_loopw [9, 10, 11, 12] (fun pV sV mV iv wr => ∃ (i : Nat) (ps ss : List ByteArray) (ms : List Nat) (nn : Nat) (SB : Nat → Prop), i ≤ n ∧ iv = .int .i64 i ∧ Inv wr w2.heap.size (w2.heap.size + 1) i pV sV mV ps ss ms nn SB ∧ Below w2.heap.size w2 wr) (fun _ _ _ iv _ => n - (intOf iv).toNat)
          case atStart => exact ⟨0, [], [], [], 0, _, Nat.zero_le _, rfl, HI0.out.1, HI0.out.2⟩
          case round =>
            obtain ⟨i, ps, ss, ms, nn, SB, hi, rfl, hI, hB⟩ := hrel
            by_cases hlt3 : i < n
            case neg =>
              have KB2 : Hid _ := hB
              clear hI hB
              go_wp2
              go_ret
              exact ⟨rfl, below_of (below_of (w1 := w.drewN q) (below_drewN (Below.refl _ _) q) (below_of B1.out.2 B2.out.2)) KB2.out⟩
            obtain ⟨d0, d1, d2, hbo⟩ := op_cells HCO.out i hlt3
            obtain rfl := HAO.out (by omega)
            have e0' := hB.cell (p := ⟨bo, oo + i * 3, none⟩) hbo
            have e1' := hB.cell (p := ⟨bo, oo + i * 3 + 1, none⟩) hbo
            have e2' := hB.cell (p := ⟨bo, oo + i * 3 + 2, none⟩) hbo
            rw [d0] at e0'
            rw [d1] at e1'
            rw [d2] at e2'
            obtain ⟨sp, sn⟩ := HS.out.1 i hlt3
            obtain ⟨kd, hkd⟩ : ∃ x, x = Kd i := ⟨_, rfl⟩
            obtain ⟨pf, hpf⟩ : ∃ x, x = Pf i := ⟨_, rfl⟩
            obtain ⟨nsx, hns⟩ : ∃ x, x = Ns i := ⟨_, rfl⟩
            obtain ⟨kd0, kd1⟩ := HK.out i
            rw [← hkd] at e0' kd0 kd1
            rw [← hpf] at e1' sp
            rw [← hns] at e2' sn
            have hl5 : (i : Int) < (n : Int) := by omega
            have KI : Hid _ := hI
            have KB2 : Hid _ := hB
            clear hkd hpf hns d0 d1 d2 hI hB HAO HCO
            obtain ⟨L, hL⟩ : ∃ L, L = ps.length := ⟨_, rfl⟩
            obtain ⟨M, hM⟩ : ∃ M, M = ms.length := ⟨_, rfl⟩
            obtain ⟨ap, cp, hpv, hpc, _, _, _, _⟩ := KI.out.pre.form
            obtain ⟨asv, cs, hsv, hsc, _, _, _, _⟩ := KI.out.spa.form
            obtain ⟨am, cm, hmv, hmc, _, hmpos, _, hmcell⟩ := row_form KI.out.mar
            rw [← KI.out.len, ← hL] at hsv hsc
            rw [← hL] at hpv hpc
            rw [← hM] at hmv hmc hmpos hmcell
            subst hpv
            subst hsv
            subst hmv
            have HMC : Hid _ := And.intro hmpos hmcell
            clear hmpos hmcell
            have HL : Hid _ := hL
            have HM : Hid _ := hM
            have hLi : L ≤ 256 := by have := KI.out.li; omega
            have hnni : nn ≤ 512 := by have := KI.out.ni; omega
            have hmsi : M ≤ 256 := by have := KI.out.mi; omega
            clear hL hM
            obtain ⟨W, hW⟩ : ∃ W, W = wr.alloc (.cells #[.int .u8 kd, .string pf, .string nsx] 34) := ⟨_, rfl⟩
            have KA0 : Hid (Inv W w2.heap.size (w2.heap.size + 1) i (.slice ap L cp) (.slice asv L cs) (.slice am M cm) ps ss ms nn SB ∧ Below w2.heap.size w2 W ∧ W.heap[wr.heap.size]? = some (.cells #[.int .u8 kd, .string pf, .string nsx] 34 (0, 0)) ∧ ¬ SB wr.heap.size) := by
              refine ⟨by rw [hW]; exact KI.out.alloc _, by rw [hW]; exact KB2.out.alloc KI.out.hb _, by rw [hW]; exact heap_alloc_new wr _, fun h => by have := (KI.out.sc.lt _ h).2; omega⟩
            obtain ⟨i9, hi9, hz90, hz91, hz92⟩ := info_parts Try.info9
            obtain ⟨i3, hi3, hz30, hz31, hz32⟩ := info_parts Try.info3
            rcases (show kd % 3 = 0 ∨ kd % 3 = 1 ∨ kd % 3 = 2 by omega) with hk3 | hk3 | hk3
            · have hq3 : (kd % 3 == 0) = true := by simpa using hk3
              clear hk3
              go_wp2_with fail
              rw [← hW]
              have hsl := stkOf_len ps ss pf
              refine Calls.mono (zzDecl_any (w2.heap.size + 1) w2.heap.size nn pf nsx ps (stkOf ps ss) SB W KA0.out.1.sc KA0.out.1.hb (by unfold maxLen; omega) (by omega) (by have := HL.out; omega) (by have := HL.out; omega)) ?_
              rintro e w4 ⟨rfl, SB1, hsc1, hsb1, hT1⟩
              have D : Hid _ := inv_decl KA0.out.1 hsc1 hsb1 hT1
              have hop4 := hT1.heap KA0.out.2.2.1 KA0.out.2.2.2
              have B4 : Hid (Below w2.heap.size w2 w4) := KA0.out.2.1.trans (hT1.below KA0.out.1.hb (fun k h => (KA0.out.1.sc.lt k h).1))
              have o41 : w4.cell? ⟨wr.heap.size, 1, none⟩ = some (.string pf) := cell_of_row w4 _ 1 _ _ _ hop4
              have o42 : w4.cell? ⟨wr.heap.size, 2, none⟩ = some (.string nsx) := cell_of_row w4 _ 2 _ _ _ hop4
              have hb4 : w2.heap.size ≤ w4.heap.size := B4.out.size
              have HOP4 : Hid _ := hop4
              clear hsc1 hsb1 hT1 hop4 hsl hW
              go_wp2_with (first | (at_builtin; refine wpList_append_lies _ rfl (.tmp 119) (.tmp 122) 31 rfl w2.heap.size 9 i9 _ 1 16 Try.underlying31 hi9 hz90 hz91 hz92 rfl (by omega) (.slice ap L cp) L (strs ps) rfl (by have h := World.ownsRow.alloc D.out.pre (.cells #[.string pf] 9); rw [← HL.out] at h; exact h) ⟨w4.heap.size, 0, none⟩ 1 1 [.string pf] (by rfl) (by rfl) (cell_one_new _ _ _) (by simp [Value.oneCell']) (by omega) (by unfold maxLen; omega) (by omega) (by simp; omega) (w4.heap.size + 1) (by simp) ?_; intro g5 c5 w5 hown5 hgrow5 hat5 hlt5; have E : Hid _ := inv_app1 D.out (by rw [← HL.out]; exact hown5) hgrow5 hat5; have hop5 := op_app HOP4.out D.out.pre hgrow5; have o51 : w5.cell? ⟨wr.heap.size, 1, none⟩ = some (.string pf) := cell_of_row w5 _ 1 _ _ _ hop5; have o52 : w5.cell? ⟨wr.heap.size, 2, none⟩ = some (.string nsx) := cell_of_row w5 _ 2 _ _ _ hop5; have B5 : Hid (Below w2.heap.size w2 w5) := (B4.out.alloc hb4 _).grown hgrow5 (by simp; omega) (fun k h => (D.out.pre.lt k h).1); have hb5 : w2.heap.size ≤ w5.heap.size := B5.out.size; have HOP5 : Hid _ := hop5; clear hown5 hgrow5 hat5 hlt5 hop5) | (at_builtin; refine wpList_append_lies _ rfl (.tmp 124) (.tmp 127) 31 rfl w2.heap.size 9 i9 _ 1 16 Try.underlying31 hi9 hz90 hz91 hz92 rfl (by omega) (.slice asv L cs) L (strs ss) rfl (by have h := World.ownsRow.alloc E.out.spa (.cells #[.string nsx] 9); rw [← E.out.D.I.len, ← HL.out] at h; exact h) ⟨w5.heap.size, 0, none⟩ 1 1 [.string nsx] (by rfl) (by rfl) (cell_one_new _ _ _) (by simp [Value.oneCell']) (by omega) (by unfold maxLen; omega) (by omega) (by simp; omega) (w5.heap.size + 1) (by simp) ?_; intro g6 c6 w6 hown6 hgrow6 hat6 hlt6; have INV : Hid (Inv w6 w2.heap.size (w2.heap.size + 1) (i + 1) (.slice (some ⟨g5, 0, none⟩) (L + 1) c5) (.slice (some ⟨g6, 0, none⟩) (L + 1) c6) (.slice am M cm) (ps ++ [pf]) (ss ++ [nsx]) ms (nn + 1) SB1) := inv_app2' HL.out E.out sp hown6 hgrow6 hat6; have hop6 := op_app HOP5.out E.out.spa hgrow6; have o61 : w6.cell? ⟨wr.heap.size, 1, none⟩ = some (.string pf) := cell_of_row w6 _ 1 _ _ _ hop6; have BB : Hid (Below w2.heap.size w2 w6) := (B5.out.alloc hb5 _).grown hgrow6 (by simp; omega) (fun k h => (E.out.spa.lt k h).1); clear hown6 hgrow6 hat6 hlt6 hop6) | fail)
              have hinv := INV.out
              have KL : Hid (Calls Try.prog 21 #[.pointer (some ⟨w2.heap.size + 1, 0, none⟩)] w6 fun e w' => e = .returned (.int .i64 ((L + 1 : Nat) : Int)) ∧ w6 = w') := by
                have h := len_any _ _ _ _ _ _ w6 hinv.sc
                rw [show (ps ++ [pf]).length = L + 1 by rw [List.length_append, ← HL.out]; rfl] at h
                exact h
              have hli6 := hinv.li
              have KA : Hid (∀ p : ByteArray, p.size ≤ 1048576 → Calls Try.prog 23 #[.pointer (some ⟨w2.heap.size + 1, 0, none⟩), (.slice (some ⟨g5, 0, none⟩) (L + 1) c5), (.slice (some ⟨g6, 0, none⟩) (L + 1) c6), .string p] w6 fun e w' => e = .returned (.bool true) ∧ w6 = w') :=
                fun p hp => agrees_any _ _ _ (.slice (some ⟨g5, 0, none⟩) (L + 1) c5) (.slice (some ⟨g6, 0, none⟩) (L + 1) c6) p (ps ++ [pf]) (ss ++ [nsx]) _ w6 hinv.sc (by unfold maxLen; omega) (by omega) hinv.len hinv.pre hinv.spa
              clear hinv hli6
              refine Calls.mono KL.out ?_
              rintro e wz ⟨rfl, rfl⟩
              go_wp2_with fail
              refine Calls.mono (KA.out pf sp) ?_
              rintro e wz ⟨rfl, rfl⟩
              go_wp2
              go_loop [15] (fun jv => ∃ j2 : Nat, j2 ≤ m ∧ jv = .int .i64 j2) (fun jv => m - (intOf jv).toNat)
              case atStart => exact ⟨0, Nat.zero_le _, rfl⟩
              case round =>
                obtain ⟨j2, hj2, rfl⟩ := hrel
                by_cases hltj : j2 < m
                · have cj := (BB.out.cell (p := ⟨bp, op + j2, none⟩) (HCP.out j2 hltj).2).trans (HCP.out j2 hltj).1
                  have sj := HS.out.2 j2 hltj
                  obtain rfl := HAP.out (by omega)
                  obtain ⟨pr, hpr⟩ : ∃ x, x = Pr j2 := ⟨_, rfl⟩
                  rw [← hpr] at cj sj
                  have hl6 : (j2 : Int) < (m : Int) := by omega
                  clear hpr
                  go_wp2_with fail
                  refine Calls.mono (KA.out pr sj) ?_
                  rintro e wz ⟨rfl, rfl⟩
                  go_wp2
                  go_round
                  case rel => exact ⟨j2 + 1, by omega, by go_num⟩
                  case measure => simp [intOf]; omega
                · go_wp2
                  go_roundw
                  case rel => exact ⟨i + 1, _, _, _, _, _, by omega, by go_num, INV.out, BB.out⟩
                  case measure => simp [intOf]; omega
            · have hq30 : (kd % 3 == 0) = false := by simp; omega
              have hq31 : (kd % 3 == 1) = true := by simpa using hk3
              clear hk3
              go_wp2_with fail
              rw [← hW]
              have KL0 : Hid (Calls Try.prog 21 #[.pointer (some ⟨w2.heap.size + 1, 0, none⟩)] W fun e w' => e = .returned (.int .i64 (L : Int)) ∧ W = w') := by
                have h := len_any _ _ _ _ _ _ W KA0.out.1.sc
                rw [← HL.out] at h
                exact h
              refine Calls.mono KL0.out ?_
              rintro e wz ⟨rfl, rfl⟩
              have hb4 : w2.heap.size ≤ W.heap.size := KA0.out.1.hb
              clear hW KL0
              go_wp2_with (first | (at_builtin; refine wpList_append_lies _ rfl (.tmp 131) (.tmp 134) 39 rfl w2.heap.size 3 i3 _ 1 8 Try.underlying39 hi3 hz30 hz31 hz32 rfl (by omega) (.slice am M cm) M (ints ms) rfl (by have h := World.ownsRow.alloc KA0.out.1.mar (.cells #[.int .i64 (L : Int)] 3); rw [← HM.out] at h; exact h) ⟨W.heap.size, 0, none⟩ 1 1 [.int .i64 (L : Int)] (by rfl) (by rfl) (cell_one_new _ _ _) (by simp [Value.oneCell']) (by omega) (by unfold maxLen; omega) (by omega) (by simp; omega) (W.heap.size + 1) (by simp) ?_; intro g7 c7 w7 hown7 hgrow7 hat7 hlt7; have INV : Hid (Inv w7 w2.heap.size (w2.heap.size + 1) (i + 1) (.slice ap L cp) (.slice asv L cs) (.slice (some ⟨g7, 0, none⟩) (M + 1) c7) ps ss (ms ++ [ps.length]) nn SB) := inv_mark' HM.out KA0.out.1 (by rw [← HL.out]; exact hown7) hgrow7 hat7; have hop7 := op_appM KA0.out.2.2.1 KA0.out.1.mar hgrow7; have o71 : w7.cell? ⟨wr.heap.size, 1, none⟩ = some (.string pf) := cell_of_row w7 _ 1 _ _ _ hop7; have BB : Hid (Below w2.heap.size w2 w7) := (KA0.out.2.1.alloc KA0.out.1.hb _).grown hgrow7 (by simp; omega) (fun k h => (KA0.out.1.mar.lt k h).1); clear hown7 hgrow7 hat7 hlt7 hop7) | fail)
              have hinv := INV.out
              have KL : Hid (Calls Try.prog 21 #[.pointer (some ⟨w2.heap.size + 1, 0, none⟩)] w7 fun e w' => e = .returned (.int .i64 ((L : Nat) : Int)) ∧ w7 = w') := by
                have h := len_any _ _ _ _ _ _ w7 hinv.sc
                rw [← HL.out] at h
                exact h
              have hli6 := hinv.li
              have KA : Hid (∀ p : ByteArray, p.size ≤ 1048576 → Calls Try.prog 23 #[.pointer (some ⟨w2.heap.size + 1, 0, none⟩), (.slice ap L cp), (.slice asv L cs), .string p] w7 fun e w' => e = .returned (.bool true) ∧ w7 = w') :=
                fun p hp => agrees_any _ _ _ (.slice ap L cp) (.slice asv L cs) p ps ss _ w7 hinv.sc (by unfold maxLen; omega) (by omega) hinv.len hinv.pre hinv.spa
              clear hinv hli6
              refine Calls.mono KL.out ?_
              rintro e wz ⟨rfl, rfl⟩
              go_wp2_with fail
              refine Calls.mono (KA.out pf sp) ?_
              rintro e wz ⟨rfl, rfl⟩
              go_wp2
              go_loop [15] (fun jv => ∃ j2 : Nat, j2 ≤ m ∧ jv = .int .i64 j2) (fun jv => m - (intOf jv).toNat)
              case atStart => exact ⟨0, Nat.zero_le _, rfl⟩
              case round =>
                obtain ⟨j2, hj2, rfl⟩ := hrel
                by_cases hltj : j2 < m
                · have cj := (BB.out.cell (p := ⟨bp, op + j2, none⟩) (HCP.out j2 hltj).2).trans (HCP.out j2 hltj).1
                  have sj := HS.out.2 j2 hltj
                  obtain rfl := HAP.out (by omega)
                  obtain ⟨pr, hpr⟩ : ∃ x, x = Pr j2 := ⟨_, rfl⟩
                  rw [← hpr] at cj sj
                  have hl6 : (j2 : Int) < (m : Int) := by omega
                  clear hpr
                  go_wp2_with fail
                  refine Calls.mono (KA.out pr sj) ?_
                  rintro e wz ⟨rfl, rfl⟩
                  go_wp2
                  go_round
                  case rel => exact ⟨j2 + 1, by omega, by go_num⟩
                  case measure => simp [intOf]; omega
                · go_wp2
                  go_roundw
                  case rel => exact ⟨i + 1, _, _, _, _, _, by omega, by go_num, INV.out, BB.out⟩
                  case measure => simp [intOf]; omega
            · have hq30 : (kd % 3 == 0) = false := by simp; omega
              have hq31 : (kd % 3 == 1) = false := by simp; omega
              clear hk3
              by_cases hM0 : M = 0
              · have KR : Hid _ := And.intro KI.out KB2.out
                have KW : Hid (Inv (wr.alloc (.cells #[.int .u8 kd, .string pf, .string nsx] 34)) w2.heap.size (w2.heap.size + 1) (i + 1) (.slice ap L cp) (.slice asv L cs) (.slice am M cm) ps ss ms nn SB ∧ Below w2.heap.size w2 (wr.alloc (.cells #[.int .u8 kd, .string pf, .string nsx] 34))) := ⟨(KI.out.alloc _).next, KB2.out.alloc KI.out.hb _⟩
                subst hM0
                clear hW KA0 KR
                go_wp2
                go_roundw
                case rel => exact ⟨i + 1, ps, ss, ms, nn, SB, by omega, by go_num, KW.out.1, KW.out.2⟩
                case measure => simp [intOf]; omega
              · obtain ⟨ms', mk, hms⟩ : ∃ ms' mk, ms = ms' ++ [mk] := by
                  rcases List.eq_nil_or_concat ms with h | ⟨l, x, h⟩
                  · have := HM.out; rw [h] at this; exact absurd this hM0
                  · exact ⟨l, x, by rw [h, List.concat_eq_append]⟩
                subst hms
                obtain ⟨k1, rfl⟩ : ∃ k1, M = k1 + 1 := ⟨M - 1, by omega⟩
                have hk1 : ms'.length = k1 := by have := HM.out; simp at this; omega
                obtain ⟨gm, rfl⟩ := HMC.out.1 (by omega)
                have hcm := HMC.out.2 gm k1 rfl (by omega)
                have hcm2 : (ints (ms' ++ [mk]))[k1]? = some (.int .i64 (mk : Int)) := by rw [← hk1]; simp [ints]
                rw [hcm2] at hcm
                have hgm : gm < wr.heap.size := World.block_lt_of_cell? wr _ hcm
                have hcmW : (wr.alloc (.cells #[.int .u8 kd, .string pf, .string nsx] 34)).cell? ⟨gm, k1, none⟩ = some (.int .i64 (mk : Int)) := by
                  have h := KA0.out.1
                  have B := (Below.refl wr.heap.size wr).alloc (Nat.le_refl _) (.cells #[.int .u8 kd, .string pf, .string nsx] 34)
                  rw [B.cell (p := ⟨gm, k1, none⟩) hgm]
                  exact hcm
                have hmkL : mk ≤ L := by rw [HL.out]; exact KI.out.mb mk (by simp)
                have hmkd : decide ((L : Int) < (mk : Int)) = false := decide_eq_false (by omega)
                have hmkd2 : (mk : Int) ≤ (L : Int) := by omega
                have hmk0 : ((k1 + 1 : Nat) : Int) ≤ 256 := by omega
                have hpc' : (mk : Int) ≤ (cp : Int) := by omega
                have hsc' : (mk : Int) ≤ (cs : Int) := by omega
                have hmc' : (k1 : Int) ≤ (cm : Int) := by omega
                have HK1 : Hid _ := hk1
                clear hcm2 hM0 hk1
                go_wp2_with fail
                rw [← hW]
                have hpo := (pops_stkOf ps ss KA0.out.1.len mk (by rw [← HL.out]; exact hmkL)).2
                refine Calls.mono (zzEnd_any (w2.heap.size + 1) w2.heap.size nn mk ps (stkOf ps ss) SB W KA0.out.1.sc (by rw [← HL.out]; omega) (by rw [← HL.out]; exact hmkL) (by rw [← HL.out]; omega) (fun j hj => sz_getD KA0.out.1.sz j hj) hpo) ?_
                rintro e w4 ⟨rfl, hsc1, hT1⟩
                have INV : Hid (Inv w4 w2.heap.size (w2.heap.size + 1) (i + 1) (.slice ap mk cp) (.slice asv mk cs) (.slice (some ⟨gm, 0, none⟩) k1 cm) (ps.take mk) (ss.take mk) ms' (nn + (ps.length - mk)) SB) := inv_end KA0.out.1 HL.out (by rw [HL.out]; exact KA0.out.1.len) HK1.out hsc1 hT1
                have hop4 := hT1.heap KA0.out.2.2.1 KA0.out.2.2.2
                have BB : Hid (Below w2.heap.size w2 w4) := KA0.out.2.1.trans (hT1.below KA0.out.1.hb (fun k h => (KA0.out.1.sc.lt k h).1))
                have o41 : w4.cell? ⟨wr.heap.size, 1, none⟩ = some (.string pf) := cell_of_row w4 _ 1 _ _ _ hop4
                have hlt : (ps.take mk).length = mk := by rw [List.length_take, ← HL.out]; omega
                have HLT : Hid _ := hlt
                clear hsc1 hT1 hop4 hpo hW hcmW hlt
                go_wp2_with fail
                have hinv := INV.out
                have KL : Hid (Calls Try.prog 21 #[.pointer (some ⟨w2.heap.size + 1, 0, none⟩)] w4 fun e w' => e = .returned (.int .i64 ((mk : Nat) : Int)) ∧ w4 = w') := by
                  have h := len_any _ _ _ _ _ _ w4 hinv.sc
                  rw [HLT.out] at h
                  exact h
                have hli6 := hinv.li
                have KA : Hid (∀ p : ByteArray, p.size ≤ 1048576 → Calls Try.prog 23 #[.pointer (some ⟨w2.heap.size + 1, 0, none⟩), (.slice ap mk cp), (.slice asv mk cs), .string p] w4 fun e w' => e = .returned (.bool true) ∧ w4 = w') :=
                  fun p hp => agrees_any _ _ _ (.slice ap mk cp) (.slice asv mk cs) p (ps.take mk) (ss.take mk) _ w4 hinv.sc (by unfold maxLen; omega) (by omega) hinv.len hinv.pre hinv.spa
                clear hinv hli6
                refine Calls.mono KL.out ?_
                rintro e wz ⟨rfl, rfl⟩
                go_wp2_with fail
                refine Calls.mono (KA.out pf sp) ?_
                rintro e wz ⟨rfl, rfl⟩
                go_wp2
                go_loop [15] (fun jv => ∃ j2 : Nat, j2 ≤ m ∧ jv = .int .i64 j2) (fun jv => m - (intOf jv).toNat)
                case atStart => exact ⟨0, Nat.zero_le _, rfl⟩
                case round =>
                  obtain ⟨j2, hj2, rfl⟩ := hrel
                  by_cases hltj : j2 < m
                  · have cj := (BB.out.cell (p := ⟨bp, op + j2, none⟩) (HCP.out j2 hltj).2).trans (HCP.out j2 hltj).1
                    have sj := HS.out.2 j2 hltj
                    obtain rfl := HAP.out (by omega)
                    obtain ⟨pr, hpr⟩ : ∃ x, x = Pr j2 := ⟨_, rfl⟩
                    rw [← hpr] at cj sj
                    have hl6 : (j2 : Int) < (m : Int) := by omega
                    clear hpr
                    go_wp2_with fail
                    refine Calls.mono (KA.out pr sj) ?_
                    rintro e wz ⟨rfl, rfl⟩
                    go_wp2
                    go_round
                    case rel => exact ⟨j2 + 1, by omega, by go_num⟩
                    case measure => simp [intOf]; omega
                  · go_wp2
                    go_roundw
                    case rel => exact ⟨i + 1, _, _, _, _, _, by omega, by go_num, INV.out, BB.out⟩
                    case measure => simp [intOf]; omega

end Go.Proofs.Qxb6003666a
