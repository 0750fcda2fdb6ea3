/-
  The walk of LawS2942AIdem (function 4).
-/
import Derived.Test.YbulkbhxeA13
namespace Go.Proofs.Ybulkbhxe.AMem
open Go.ChangeShapes Go.WideShapes Go.ChangeAt Go.RowKit
set_option linter.unusedVariables false
attribute [local go_sem ↓] Go.wp_at_zero Go.wp_at_succ

theorem Rest.below {w0 w : World} {M r B : Nat} (h : Rest w0 M r w) (h1 : B ≤ M) (h2 : B ≤ r) (h3 : B ≤ w0.heap.size) : Below B w0 w :=
  ⟨h.os, h.tape, h.output, h.size, fun k hk => h.block k (by omega) (by omega) (by omega)⟩
theorem Rest.clk {w0 w : World} {M r b : Nat} {l : List Nat} {c d : Array Value} (h : Rest w0 M r w) (hM : w0.heap[M]? = some (.cells c 42 (0, 0))) (hr : w0.heap[r]? = some (.cells d 36 (0, 0))) (hb : Clk w0 b l) : Clk w b l :=
  (h.block b hb.lt (hb.ne hM (by decide)) (hb.ne hr (by decide))).trans hb
theorem Rest.good {w0 w : World} {M r : Nat} {x : Wr} {c d : Array Value} (h : Rest w0 M r w) (hM : w0.heap[M]? = some (.cells c 42 (0, 0))) (hr : w0.heap[r]? = some (.cells d 36 (0, 0))) (hb : Good w0 x) : Good w x := ⟨h.clk hM hr hb.clk, hb.lt, hb.small⟩
theorem Clk.setCell {w : World} {b : Nat} {l : List Nat} (h : Clk w b l) {M j : Nat} {c : Array Value} {t : TypeId} (hM : w.heap[M]? = some (.cells c t (0, 0))) (ht : t ≠ 65) (v : Value) : Clk (w.setCell ⟨M, j, none⟩ v) b l := h.set (h.ne hM ht) v
theorem Good.setCell {w : World} {x : Wr} (h : Good w x) {M j : Nat} {c : Array Value} {t : TypeId} (hM : w.heap[M]? = some (.cells c t (0, 0))) (ht : t ≠ 65) (v : Value) : Good (w.setCell ⟨M, j, none⟩ v) x := ⟨h.clk.setCell hM ht v, h.lt, h.small⟩

theorem ARow.below {w w' : World} {a : Option Addr} {n : Nat} (h : ARow w a n) (hb : Below w.heap.size w w') : ARow w' a n := by
  rcases h with h | ⟨b, off, ha, hl, hc⟩
  · exact .inl h
  · refine .inr ⟨b, off, ha, Nat.lt_of_lt_of_le hl hb.size, fun k hk => ?_⟩
    obtain ⟨N, G, A0, A1, A2, L, F, h⟩ := hc k hk
    exact ⟨N, G, A0, A1, A2, L, F, h.below hb hl⟩
theorem ByteRow.below {w w' : World} {a : Option Addr} {n : Nat} {zs : Nat → Int} (h : ByteRow w a n zs) (hb : Below w.heap.size w w') : ByteRow w' a n zs := by
  rcases h with h | ⟨b, off, ha, hl, hc⟩
  · exact .inl h
  · exact .inr ⟨b, off, ha, Nat.lt_of_lt_of_le hl hb.size, fun k hk => ⟨(hb.cell (by exact hl)).trans (hc k hk).1, (hc k hk).2⟩⟩
theorem below_size {w w' : World} (h : Below w.heap.size w w') : w.heap.size ≤ w'.heap.size := h.size
theorem res_goods {w : World} {fl : List Nat} {W : List Wr} {x : Wr} (h : Goods w W) (hx : Good w x) : Goods w (res fl W x) := fun y hy => by
  rcases res_mem hy with hy | hy
  · exact h y hy
  · subst hy; exact hx

set_option maxRecDepth 20000 in
set_option maxHeartbeats 4000000 in
theorem idem_in (a : Option Addr) (n c : Nat) (N G A0 A1 A2 L : Int) (F : Bool) (af : Option Addr) (nf cf : Nat) (zs : Nat → Int) (w : World)
    (h1 : ARow w a n) (g1 : 0 ≤ G ∧ G ≤ 255) (g2 : 0 ≤ A0 ∧ A0 ≤ 255) (g3 : 0 ≤ A1 ∧ A1 ≤ 255) (g4 : 0 ≤ A2 ∧ A2 ≤ 255) (g5 : 0 ≤ L ∧ L ≤ 255) (h3 : ByteRow w af nf zs) (hn : n ≤ 1024) (hnf : nf ≤ 1024) :
    Calls Yba.prog 4 #[.slice a n c, .agg #[.int .i8 N, .int .u8 G, .int .u8 A0, .int .u8 A1, .int .u8 A2, .int .u8 L, .bool F], .slice af nf cf] w fun e w' => e = .returned (.bool true) ∧ Below w.heap.size w w' := by
  have hmk : ∀ w, (Instr.makeSlice 40 (.int .i64 1) (.int .i64 1)).run Yba.prog w = .ok (.slice (some ⟨w.heap.size, 0, none⟩) 1 1) (w.alloc (.cells #[.int .i64 0, .slice none 0 0] 42)) := fun _ => by kernel_rfl
  have hba : ∀ o, Below w.heap.size w (w.alloc o) := fun o => (Below.refl _ _).alloc (Nat.le_refl _) _
  go_enter Yba.func4, Yba.ntmps4
  go_wp2_with fail
  refine (mks8 a n c _ (h1.below (hba _)) hn).mono ?_
  rintro e w1 ⟨r0, W0, hWl, rfl, own0, gs0, hb1, hr0⟩
  subst hWl
  have q0 : w1.cell? ⟨w.heap.size, 0, none⟩ = some (.int .i8 N) := (hb1.cell (by simp)).trans (by simp)
  have q1 : w1.cell? ⟨w.heap.size, 1, none⟩ = some (.int .u8 G) := (hb1.cell (by simp)).trans (by simp)
  have q2 : w1.cell? ⟨w.heap.size, 2, none⟩ = some (.int .u8 A0) := (hb1.cell (by simp)).trans (by simp)
  have q3 : w1.cell? ⟨w.heap.size, 3, none⟩ = some (.int .u8 A1) := (hb1.cell (by simp)).trans (by simp)
  have q4 : w1.cell? ⟨w.heap.size, 4, none⟩ = some (.int .u8 A2) := (hb1.cell (by simp)).trans (by simp)
  have q5 : w1.cell? ⟨w.heap.size, 5, none⟩ = some (.int .u8 L) := (hb1.cell (by simp)).trans (by simp)
  have q6 : w1.cell? ⟨w.heap.size, 6, none⟩ = some (.bool F) := (hb1.cell (by simp)).trans (by simp)
  have z1 : w.heap.size + 1 ≤ w1.heap.size := by have := hb1.size; simpa using this
  have b1 : Below w.heap.size w w1 := (hba _).trans (hb1.mono (by simp))
  clear hb1 hr0
  go_wp2_with fail
  refine (mk9 N G A0 A1 A2 L F _ g1 g2 g3 g4 g5).mono ?_
  rintro e w2 ⟨x, rfl, gx2, hb2⟩
  have b2 : Below w.heap.size w w2 := b1.trans (hb2.mono (by omega))
  have own2 := own0.below hb2
  have gs2 := gs0.below hb2
  have z2 : w.heap.size + 1 ≤ w2.heap.size := by have := hb2.size; omega
  clear own0 gs0 hb2 b1 z1 q0 q1 q2 q3 q4 q5 q6
  go_wp2_with fail
  have hb2a : ∀ o, Below w2.heap.size w2 (w2.alloc o) := fun o => (Below.refl _ _).alloc (Nat.le_refl _) _
  have b2a : ∀ o, Below w.heap.size w (w2.alloc o) := fun o => b2.trans ((hb2a o).mono (by omega))
  refine (clock10 af nf cf zs _ (h3.below (b2a _)) hnf).mono ?_
  rintro e w4 ⟨fb, fl, rfl, ck4, hfl, hb4⟩
  have BX4 : w4.heap[w2.heap.size]? = some (.cells (wc x).toArray 36 (0, 0)) := (hb4.block w2.heap.size (by simp)).trans (heap_alloc_new w2 _)
  have hs4 : w2.heap.size + 1 ≤ w4.heap.size := by have := hb4.size; simpa using this
  have c24 : Below w2.heap.size w2 w4 := (hb2a _).trans (hb4.mono (by simp))
  have own4 := own2.below c24
  have gs4 := gs2.below c24
  have gx4 := gx2.below c24
  have b4 : Below w.heap.size w w4 := b2.trans (c24.mono (by omega))
  clear hb4 c24 own2 gs2 gx2 b2 b2a hb2a
  go_wp2_with fail
  obtain ⟨M, hMe⟩ : ∃ M, M = w4.heap.size := ⟨_, rfl⟩
  have hb5 : ∀ o, Below w4.heap.size w4 (w4.alloc o) := fun o => (Below.refl _ _).alloc (Nat.le_refl _) _
  refine (clone11 r0 W0.length W0 _ (own4.below (hb5 _)).rows (by omega)).mono ?_
  rintro e w6 ⟨r1, c1, rfl, own6, hb6, hr1⟩
  have hM6 : w6.heap[w4.heap.size]? = some (.cells #[.int .i64 0, .slice none 0 0] 42 (0, 0)) := (hb6.block w4.heap.size (by simp)).trans (heap_alloc_new w4 _)
  have hr1' : w4.heap.size + 1 ≤ r1 := by simpa using hr1
  have c46 : Below w4.heap.size w4 w6 := (hb5 _).trans (hb6.mono (by simp))
  have gs6 := gs4.below c46
  have gx6 := gx4.below c46
  have ck6 := ck4.below c46
  have BX6 := (c46.block w2.heap.size (by omega)).trans BX4
  have b6 : Below w.heap.size w w6 := b4.trans (c46.mono (by omega))
  have z6 : w4.heap.size + 1 ≤ w6.heap.size := by have := hb6.size; simpa using this
  have p6 : w6.cell? ⟨w4.heap.size, 1, none⟩ = some (.slice none 0 0) := by rw [cell_of_row w6 _ _ _ 42 (0, 0) hM6]; rfl
  have f6 : w6.frozen? ⟨w4.heap.size, 1, none⟩ = false := frozen_of_row w6 _ _ _ 42 hM6
  have px := At.of_block BX6
  obtain ⟨x0, x1, x2, x3, x4, x5, x6⟩ := px
  simp only [Nat.zero_add] at x0 x1 x2 x3 x4 x5 x6
  have hlt2 : w2.heap.size < w4.heap.size := by omega
  clear hb6 hb5 c46 gs4 gx4 ck4 BX4 b4 own4 hr1 hmk
  go_wp2_with fail
  have hM7 : (w6.setCell ⟨w4.heap.size, 1, none⟩ (.slice (some ⟨r1, 0, none⟩) W0.length c1)).heap[w4.heap.size]? = some (.cells #[.int .i64 0, .slice (some ⟨r1, 0, none⟩) W0.length c1] 42 (0, 0)) := heap_setCell_same w6 _ 1 _ 42 _ hM6
  have own7 : Own (w6.setCell ⟨w4.heap.size, 1, none⟩ (.slice (some ⟨r1, 0, none⟩) W0.length c1)) r1 c1 W0 := own6.same (heap_setCell_other w6 _ _ _ (by simp; omega))
  have gs7 : Goods (w6.setCell ⟨w4.heap.size, 1, none⟩ (.slice (some ⟨r1, 0, none⟩) W0.length c1)) W0 := fun y hy => (gs6 y hy).setCell hM6 (by decide) _
  have gx7 : Good (w6.setCell ⟨w4.heap.size, 1, none⟩ (.slice (some ⟨r1, 0, none⟩) W0.length c1)) x := gx6.setCell hM6 (by decide) _
  have ck7 : Clk (w6.setCell ⟨w4.heap.size, 1, none⟩ (.slice (some ⟨r1, 0, none⟩) W0.length c1)) fb fl := ck6.setCell hM6 (by decide) _
  have BX7 := (heap_setCell_other w6 ⟨w4.heap.size, 1, none⟩ w2.heap.size (.slice (some ⟨r1, 0, none⟩) W0.length c1) (by simp; omega)).trans BX6
  have b7 : Below w.heap.size w (w6.setCell ⟨w4.heap.size, 1, none⟩ (.slice (some ⟨r1, 0, none⟩) W0.length c1)) := b6.setCell (by simp; omega) _
  have C := store12 w4.heap.size 0 1 r1 c1 fb _ W0 x fl _ (by omega) (by omega) hM7 rfl rfl own7 gs7 gx7 ck7 (by omega) hfl
  have e0 : ((0 : Nat) : Int) = 0 := rfl
  rw [e0] at C
  refine C.mono ?_
  rintro e w8 ⟨rfl, g, cg, own8, hM8, rest8, hg8⟩
  clear C e0
  obtain ⟨cur7, hcur7, _⟩ := own7.block
  have gx8 := rest8.good hM7 hcur7 gx7
  have gs8 : Goods w8 (res fl W0 x) := res_goods (fun y hy => rest8.good hM7 hcur7 (gs7 y hy)) gx8
  have ck8 := rest8.clk hM7 hcur7 ck7
  have BX8 := (rest8.block w2.heap.size (by simp [World.setCell]; omega) (by omega) (by omega)).trans BX7
  have b8 : Below w.heap.size w w8 := b7.trans (rest8.below (by omega) (by omega) (by simp [World.setCell]; omega))
  have hgM : w4.heap.size + 1 ≤ g := by
    rcases hg8 with h | h
    · omega
    · simp [World.setCell] at h; omega
  have hM8' : w8.heap[w4.heap.size]? = some (.cells #[.int .i64 0, .slice (some ⟨g, 0, none⟩) (res fl W0 x).length cg] 42 (0, 0)) := hM8
  obtain ⟨K, hK⟩ : ∃ K, K = res fl W0 x := ⟨_, rfl⟩
  have hKl : K.length ≤ 1025 := by rw [hK]; have := res_len fl W0 x; omega
  have HK : Hid (K = res fl W0 x) := hK
  rw [← hK] at own8 gs8 hM8'
  have p8 : w8.cell? ⟨w4.heap.size, 1, none⟩ = some (.slice (some ⟨g, 0, none⟩) K.length cg) := by rw [cell_of_row w8 _ _ _ 42 (0, 0) hM8']; rfl
  clear hM8 hK hM7 own7 gs7 gx7 ck7 BX7 b7 rest8 hcur7 hM6 own6 gs6 gx6 ck6 BX6 b6 x0 x1 x2 x3 x4 x5 x6 p6 f6 hg8
  go_wp2_with fail
  refine (clone11 g cg K _ own8.rows (by omega)).mono ?_
  rintro e w9 ⟨r3, c3, rfl, own9, hb9, hr3⟩
  have ownG9 := own8.below hb9
  have gs9 := gs8.below hb9
  have gx9 := gx8.below hb9
  have ck9 := ck8.below hb9
  have hM9 := (hb9.block w4.heap.size (Array.getElem?_eq_some_iff.1 hM8').1).trans hM8'
  have BX9 := (hb9.block w2.heap.size (Array.getElem?_eq_some_iff.1 BX8).1).trans BX8
  have b9 : Below w.heap.size w w9 := b8.trans (hb9.mono b8.size)
  have hgr3 : g < r3 := by have := own8.lt; omega
  obtain ⟨x0, x1, x2, x3, x4, x5, x6⟩ := At.of_block BX9
  simp only [Nat.zero_add] at x0 x1 x2 x3 x4 x5 x6
  clear hb9 hr3 own8 gs8 gx8 ck8 hM8' BX8 b8 p8
  go_wp2_with fail
  have C := store12 w4.heap.size 0 1 g cg fb _ K x fl _ (by omega) (by omega) hM9 rfl rfl ownG9 gs9 gx9 ck9 (by omega) hfl
  have e0 : ((0 : Nat) : Int) = 0 := rfl
  rw [e0] at C
  refine C.mono ?_
  rintro e w10 ⟨rfl, g', cg', own10, hM10, rest10, hg10⟩
  clear C e0
  have hKK : res fl K x = K := by rw [HK.out]; exact res_again fl W0 x
  rw [hKK] at own10 hM10
  obtain ⟨cur9, hcur9, _⟩ := ownG9.block
  have gx10 := rest10.good hM9 hcur9 gx9
  have gs10 : Goods w10 K := fun y hy => rest10.good hM9 hcur9 (gs9 y hy)
  have BX10 := (rest10.block w2.heap.size (Array.getElem?_eq_some_iff.1 BX9).1 (by omega) (by omega)).trans BX9
  have own10' := own9.same (rest10.block r3 own9.lt (by omega) (by omega))
  have b10 : Below w.heap.size w w10 := b9.trans (rest10.below (by omega) (by omega) b9.size)
  have hM10' : w10.heap[w4.heap.size]? = some (.cells #[.int .i64 0, .slice (some ⟨g', 0, none⟩) K.length cg'] 42 (0, 0)) := hM10
  obtain ⟨K1, z, hKz, hez⟩ := res_last fl W0 x
  rw [← HK.out] at hKz
  have p10 : w10.cell? ⟨w4.heap.size, 1, none⟩ = some (.slice (some ⟨g', 0, none⟩) K.length cg') := by rw [cell_of_row w10 _ _ _ 42 (0, 0) hM10']; rfl
  have Az := own10'.rows K1.length z (by rw [hKz]; simp)
  have gz := gs10 z (by rw [hKz]; simp)
  obtain ⟨k1, hk1⟩ : ∃ k1, k1 = K1.length := ⟨_, rfl⟩
  have hk : K.length = k1 + 1 := by rw [hKz, List.length_append, hk1]; rfl
  have HKL : Hid (K.length = k1 + 1) := hk
  rw [← hk1] at Az
  rw [hk] at p10
  clear hKK hM10 hM9 own9 ownG9 gs9 gx9 ck9 BX9 b9 rest10 hcur9 hg10 hKz hk1 hk x0 x1 x2 x3 x4 x5 x6
  have C14 : ∀ W, Below w10.heap.size w10 W → Calls Yba.prog 14 #[.slice (some ⟨g', 0, none⟩) (k1 + 1) cg', .slice (some ⟨r3, 0, none⟩) (k1 + 1) c3] W fun e w' => e = .returned (.bool true) ∧ Below W.heap.size W w' := fun W hW => by
    have := eqs14 g' r3 cg' c3 K W (own10.below hW).rows (own10'.below hW).rows (gs10.below hW) (by omega)
    rw [HKL.out] at this
    exact this
  have HC : Hid (∀ W, Below w10.heap.size w10 W → Calls Yba.prog 14 #[.slice (some ⟨g', 0, none⟩) (k1 + 1) cg', .slice (some ⟨r3, 0, none⟩) (k1 + 1) c3] W fun e w' => e = .returned (.bool true) ∧ Below W.heap.size W w') := C14
  have Ax := At.of_block BX10
  have Cz : ∀ W, Below w10.heap.size w10 W → W.cell? ⟨r3, k1 * 7, none⟩ = some (.int .i64 z.N) ∧ W.cell? ⟨r3, k1 * 7 + 1, none⟩ = some (.string ByteArray.empty) ∧ W.cell? ⟨r3, k1 * 7 + 2, none⟩ = some (.int .i64 0) ∧ W.cell? ⟨r3, k1 * 7 + 3, none⟩ = some (.int .u64 0) ∧ W.cell? ⟨r3, k1 * 7 + 4, none⟩ = some (.int .i64 (z.g : Int)) ∧ W.cell? ⟨r3, k1 * 7 + 5, none⟩ = some (.slice (some ⟨z.b, 0, none⟩) z.at'.length z.at'.length) ∧ W.cell? ⟨r3, k1 * 7 + 6, none⟩ = some (.int .u64 z.f) := fun W hW => by
    obtain ⟨a0, a1, a2, a3, a4, a5, a6⟩ := Az.below hW
    exact ⟨a0, a1, a2, a3, a4, a5, a6⟩
  have Cx : ∀ W, Below w10.heap.size w10 W → W.cell? ⟨w2.heap.size, 0, none⟩ = some (.int .i64 x.N) ∧ W.cell? ⟨w2.heap.size, 1, none⟩ = some (.string ByteArray.empty) ∧ W.cell? ⟨w2.heap.size, 2, none⟩ = some (.int .i64 0) ∧ W.cell? ⟨w2.heap.size, 3, none⟩ = some (.int .u64 0) ∧ W.cell? ⟨w2.heap.size, 4, none⟩ = some (.int .i64 (x.g : Int)) ∧ W.cell? ⟨w2.heap.size, 5, none⟩ = some (.slice (some ⟨x.b, 0, none⟩) x.at'.length x.at'.length) ∧ W.cell? ⟨w2.heap.size, 6, none⟩ = some (.int .u64 x.f) := fun W hW => by
    obtain ⟨a0, a1, a2, a3, a4, a5, a6⟩ := Ax.below hW
    simp only [Nat.zero_add] at a0 a1 a2 a3 a4 a5 a6
    exact ⟨a0, a1, a2, a3, a4, a5, a6⟩
  have hMl : w4.heap.size < w10.heap.size := (Array.getElem?_eq_some_iff.1 hM10').1
  have Cm : ∀ W, Below w10.heap.size w10 W → W.cell? ⟨w4.heap.size, 1, none⟩ = some (.slice (some ⟨g', 0, none⟩) (k1 + 1) cg') := fun W hW => (hW.cell (by exact hMl)).trans p10
  obtain ⟨a0, a1, a2, a3, a4, a5, a6⟩ := Cz w10 (Below.refl _ _)
  obtain ⟨x0, x1, x2, x3, x4, x5, x6⟩ := Cx w10 (Below.refl _ _)
  have HZ : Hid (∀ W, Below w10.heap.size w10 W → W.cell? ⟨r3, k1 * 7, none⟩ = some (.int .i64 z.N) ∧ W.cell? ⟨r3, k1 * 7 + 1, none⟩ = some (.string ByteArray.empty) ∧ W.cell? ⟨r3, k1 * 7 + 2, none⟩ = some (.int .i64 0) ∧ W.cell? ⟨r3, k1 * 7 + 3, none⟩ = some (.int .u64 0) ∧ W.cell? ⟨r3, k1 * 7 + 4, none⟩ = some (.int .i64 (z.g : Int)) ∧ W.cell? ⟨r3, k1 * 7 + 5, none⟩ = some (.slice (some ⟨z.b, 0, none⟩) z.at'.length z.at'.length) ∧ W.cell? ⟨r3, k1 * 7 + 6, none⟩ = some (.int .u64 z.f)) := Cz
  have HX : Hid (∀ W, Below w10.heap.size w10 W → W.cell? ⟨w2.heap.size, 0, none⟩ = some (.int .i64 x.N) ∧ W.cell? ⟨w2.heap.size, 1, none⟩ = some (.string ByteArray.empty) ∧ W.cell? ⟨w2.heap.size, 2, none⟩ = some (.int .i64 0) ∧ W.cell? ⟨w2.heap.size, 3, none⟩ = some (.int .u64 0) ∧ W.cell? ⟨w2.heap.size, 4, none⟩ = some (.int .i64 (x.g : Int)) ∧ W.cell? ⟨w2.heap.size, 5, none⟩ = some (.slice (some ⟨x.b, 0, none⟩) x.at'.length x.at'.length) ∧ W.cell? ⟨w2.heap.size, 6, none⟩ = some (.int .u64 x.f)) := Cx
  have HM : Hid (∀ W, Below w10.heap.size w10 W → W.cell? ⟨w4.heap.size, 1, none⟩ = some (.slice (some ⟨g', 0, none⟩) (k1 + 1) cg')) := Cm
  have hkI : (1 : Int) ≤ (k1 : Int) + 1 := by omega
  have hkc : k1 + 1 ≤ 1025 := by have := HKL.out; omega
  have hkJ : (k1 : Int) < (k1 : Int) + 1 := by omega
  have hk0 : (0 : Int) ≤ (k1 : Int) := by omega
  have hwq : IntKind.i64.wrap (k1 : Int) = (k1 : Int) := by rw [IntKind.wrap_i64]; omega
  have hwr : IntKind.i64.wrap ((k1 : Int) + 1 - 1) = (k1 : Int) := by rw [show (k1 : Int) + 1 - 1 = (k1 : Int) by omega, IntKind.wrap_i64]; omega
  clear C14 Cz Cx Cm Ax Az hM10'
  go_wp2_with fail
  rw [HKL.out]
  go_region_held3 (fun w' => w'.cell? ⟨w4.heap.size, 1, none⟩ = some (.slice (some ⟨g', 0, none⟩) (k1 + 1) cg') ∧ w'.cell? ⟨r3, k1 * 7, none⟩ = some (.int .i64 z.N) ∧ w'.cell? ⟨r3, k1 * 7 + 1, none⟩ = some (.string ByteArray.empty) ∧ w'.cell? ⟨r3, k1 * 7 + 2, none⟩ = some (.int .i64 0) ∧ w'.cell? ⟨r3, k1 * 7 + 3, none⟩ = some (.int .u64 0) ∧ w'.cell? ⟨r3, k1 * 7 + 4, none⟩ = some (.int .i64 (z.g : Int)) ∧ w'.cell? ⟨r3, k1 * 7 + 5, none⟩ = some (.slice (some ⟨z.b, 0, none⟩) z.at'.length z.at'.length) ∧ w'.cell? ⟨r3, k1 * 7 + 6, none⟩ = some (.int .u64 z.f) ∧ w'.cell? ⟨w2.heap.size, 0, none⟩ = some (.int .i64 x.N) ∧ w'.cell? ⟨w2.heap.size, 1, none⟩ = some (.string ByteArray.empty) ∧ w'.cell? ⟨w2.heap.size, 2, none⟩ = some (.int .i64 0) ∧ w'.cell? ⟨w2.heap.size, 3, none⟩ = some (.int .u64 0) ∧ w'.cell? ⟨w2.heap.size, 4, none⟩ = some (.int .i64 (x.g : Int)) ∧ w'.cell? ⟨w2.heap.size, 5, none⟩ = some (.slice (some ⟨x.b, 0, none⟩) x.at'.length x.at'.length) ∧ w'.cell? ⟨w2.heap.size, 6, none⟩ = some (.int .u64 x.f)) (go_keep)
    (first
      | (go_at_call 15; refine (eq15 z x _ ?_ ?_).mono ?_; exact gz.drewN 1; exact gx10.drewN 1; rintro e wA ⟨rfl, hbA0⟩; have hbA := below_undrew hbA0; have mA := HM.out wA hbA; obtain ⟨d0, d1, d2, d3, d4, d5, d6⟩ := HZ.out wA hbA; obtain ⟨e0, e1, e2, e3, e4, e5, e6⟩ := HX.out wA hbA)
      | (go_at_call 14; refine (HC.out _ hbA).mono ?_; rintro e wB ⟨rfl, hbB0⟩; have hbB : Below w10.heap.size w10 wB := hbA.trans (hbB0.mono hbA.size); have mB := HM.out wB hbB; obtain ⟨d0, d1, d2, d3, d4, d5, d6⟩ := HZ.out wB hbB; obtain ⟨e0, e1, e2, e3, e4, e5, e6⟩ := HX.out wB hbB))
  all_goals go_wp2
  all_goals go_ret
  all_goals exact ⟨rfl, b10.trans (hbB.mono b10.size)⟩
end Go.Proofs.Ybulkbhxe.AMem
