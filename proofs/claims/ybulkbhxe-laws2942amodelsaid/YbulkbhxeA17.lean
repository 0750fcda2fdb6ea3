/-
  The walk of LawS2942AModel (function 3), at either variable.
-/
import Derived.Test.YbulkbhxeA16
namespace Go.Proofs.Ybulkbhxe.AMem
open Go.ChangeShapes Go.WideShapes Go.ChangeAt Go.RowKit
set_option linter.unusedVariables false
attribute [local go_sem ↓] Go.wp_at_zero Go.wp_at_succ

set_option maxRecDepth 20000 in
set_option maxHeartbeats 4000000 in
theorem model_in0 (a : Option Addr) (n c : Nat) (ao : Option Addr) (no co : Nat) (N G A0 A1 A2 L : Int) (F : Bool) (af : Option Addr) (nf cf : Nat) (zs : Nat → Int) (sel : Int) (w : World)
    (h1 : ARow w a n) (h2 : ARow w ao no) (g1 : 0 ≤ G ∧ G ≤ 255) (g2 : 0 ≤ A0 ∧ A0 ≤ 255) (g3 : 0 ≤ A1 ∧ A1 ≤ 255) (g4 : 0 ≤ A2 ∧ A2 ≤ 255) (g5 : 0 ≤ L ∧ L ≤ 255) (h3 : ByteRow w af nf zs) (hn : n ≤ 1024) (hno : no ≤ 1024) (hnf : nf ≤ 1024)
    (hs0 : 0 ≤ sel) (hs1 : sel ≤ 255) (hsel : sel % 2 = 0) :
    Calls Yba.prog 3 #[.slice a n c, .slice ao no co, .agg #[.int .i8 N, .int .u8 G, .int .u8 A0, .int .u8 A1, .int .u8 A2, .int .u8 L, .bool F], .slice af nf cf, .int .u8 sel] w fun e w' => e = .returned (.bool true) ∧ Below w.heap.size w w' := by
  have hmk : ∀ w, (Instr.makeSlice 40 (.int .i64 2) (.int .i64 2)).run Yba.prog w = .ok (.slice (some ⟨w.heap.size, 0, none⟩) 2 2) (w.alloc (.cells #[.int .i64 0, .slice none 0 0, .int .i64 0, .slice none 0 0] 42)) := fun _ => by kernel_rfl
  have hba : ∀ o, Below w.heap.size w (w.alloc o) := fun o => (Below.refl _ _).alloc (Nat.le_refl _) _
  go_enter Yba.func3, Yba.ntmps3
  go_wp2_with fail
  refine (mks8 a n c _ (h1.below (hba _)) hn).mono ?_
  rintro e w0 ⟨r0, W0, hWl, rfl, own0, gs0, hb0, hr0⟩
  subst hWl
  have b0 : Below w.heap.size w w0 := (hba _).trans (hb0.mono (by simp))
  have q0 : w0.cell? ⟨w.heap.size, 0, none⟩ = some (.int .i8 N) := (hb0.cell (by simp)).trans (by simp)
  have q1 : w0.cell? ⟨w.heap.size, 1, none⟩ = some (.int .u8 G) := (hb0.cell (by simp)).trans (by simp)
  have q2 : w0.cell? ⟨w.heap.size, 2, none⟩ = some (.int .u8 A0) := (hb0.cell (by simp)).trans (by simp)
  have q3 : w0.cell? ⟨w.heap.size, 3, none⟩ = some (.int .u8 A1) := (hb0.cell (by simp)).trans (by simp)
  have q4 : w0.cell? ⟨w.heap.size, 4, none⟩ = some (.int .u8 A2) := (hb0.cell (by simp)).trans (by simp)
  have q5 : w0.cell? ⟨w.heap.size, 5, none⟩ = some (.int .u8 L) := (hb0.cell (by simp)).trans (by simp)
  have q6 : w0.cell? ⟨w.heap.size, 6, none⟩ = some (.bool F) := (hb0.cell (by simp)).trans (by simp)
  have zz0 : w.heap.size + 1 ≤ w0.heap.size := by have := hb0.size; simpa using this
  have hr0' : w.heap.size + 1 ≤ r0 := by simpa using hr0
  clear hb0 hr0
  go_wp2_with fail
  refine (mks8 ao no co _ (h2.below b0) hno).mono ?_
  rintro e w1 ⟨t0, V0, hVl, rfl, ownV1, gsV1, hb1, ht0⟩
  subst hVl
  have own1 := own0.below hb1
  have gs1 := gs0.below hb1
  have b1 : Below w.heap.size w w1 := b0.trans (hb1.mono (by omega))
  have p0 := (hb1.cell (p := ⟨w.heap.size, 0, none⟩) (by exact zz0)).trans q0
  have p1 := (hb1.cell (p := ⟨w.heap.size, 1, none⟩) (by exact zz0)).trans q1
  have p2 := (hb1.cell (p := ⟨w.heap.size, 2, none⟩) (by exact zz0)).trans q2
  have p3 := (hb1.cell (p := ⟨w.heap.size, 3, none⟩) (by exact zz0)).trans q3
  have p4 := (hb1.cell (p := ⟨w.heap.size, 4, none⟩) (by exact zz0)).trans q4
  have p5 := (hb1.cell (p := ⟨w.heap.size, 5, none⟩) (by exact zz0)).trans q5
  have p6 := (hb1.cell (p := ⟨w.heap.size, 6, none⟩) (by exact zz0)).trans q6
  have z1 : w.heap.size + 1 ≤ w1.heap.size := by have := hb1.size; omega
  have hr0l : r0 < t0 := by have := own0.lt; omega
  clear hb1 q0 q1 q2 q3 q4 q5 q6 own0 gs0 b0 zz0 ht0
  go_wp2_with fail
  refine (mk9 N G A0 A1 A2 L F _ g1 g2 g3 g4 g5).mono ?_
  rintro e w2 ⟨x, rfl, gx2, hb2⟩
  have b2 : Below w.heap.size w w2 := b1.trans (hb2.mono (by omega))
  have own2 := own1.below hb2
  have gs2 := gs1.below hb2
  have ownV2 := ownV1.below hb2
  have gsV2 := gsV1.below hb2
  have z2 : w.heap.size + 1 ≤ w2.heap.size := by have := hb2.size; omega
  clear own1 gs1 ownV1 gsV1 hb2 b1 z1 p0 p1 p2 p3 p4 p5 p6
  go_wp2_with fail
  have hb2a : ∀ o, Below w2.heap.size w2 (w2.alloc o) := fun o => (Below.refl _ _).alloc (Nat.le_refl _) _
  have b2a : ∀ o, Below w.heap.size w (w2.alloc o) := fun o => b2.trans ((hb2a o).mono (by omega))
  refine (clock10 af nf cf zs _ (h3.below (b2a _)) hnf).mono ?_
  rintro e w4 ⟨fb, fl, rfl, ck4, hfl, hb4⟩
  have BX4 : w4.heap[w2.heap.size]? = some (.cells (wc x).toArray 36 (0, 0)) := (hb4.block w2.heap.size (by simp)).trans (heap_alloc_new w2 _)
  have hs4 : w2.heap.size + 1 ≤ w4.heap.size := by have := hb4.size; simpa using this
  have c24 : Below w2.heap.size w2 w4 := (hb2a _).trans (hb4.mono (by simp))
  have own4 := own2.below c24
  have gs4 := gs2.below c24
  have ownV4 := ownV2.below c24
  have gsV4 := gsV2.below c24
  have gx4 := gx2.below c24
  have b4 : Below w.heap.size w w4 := b2.trans (c24.mono (by omega))
  have ht4 : t0 < w2.heap.size := ownV2.lt
  clear hb4 c24 own2 gs2 ownV2 gsV2 gx2 b2 b2a hb2a
  go_wp2_with fail
  have hb5 : ∀ o, Below w4.heap.size w4 (w4.alloc o) := fun o => (Below.refl _ _).alloc (Nat.le_refl _) _
  refine (clone11 r0 W0.length W0 _ (own4.below (hb5 _)).rows (by omega)).mono ?_
  rintro e w6 ⟨r1, c1, rfl, own6, hb6, hr1⟩
  have hM6 : w6.heap[w4.heap.size]? = some (.cells #[.int .i64 10, .slice none 0 0, .int .i64 11, .slice none 0 0] 42 (0, 0)) := (hb6.block w4.heap.size (by simp)).trans (heap_alloc_new w4 _)
  have hr1' : w4.heap.size + 1 ≤ r1 := by simpa using hr1
  have c46 : Below w4.heap.size w4 w6 := (hb5 _).trans (hb6.mono (by simp))
  have ownO6 := own4.below c46
  have gs6 := gs4.below c46
  have ownV6 := ownV4.below c46
  have gsV6 := gsV4.below c46
  have gx6 := gx4.below c46
  have ck6 := ck4.below c46
  have BX6 := (c46.block w2.heap.size (by omega)).trans BX4
  have b6 : Below w.heap.size w w6 := b4.trans (c46.mono (by omega))
  have z6 : w4.heap.size + 1 ≤ w6.heap.size := by have := hb6.size; simpa using this
  have e6 : w6.cell? ⟨w4.heap.size, 1, none⟩ = some (.slice none 0 0) := by rw [cell_of_row w6 _ _ _ 42 (0, 0) hM6]; rfl
  have f6 : w6.frozen? ⟨w4.heap.size, 1, none⟩ = false := frozen_of_row w6 _ _ _ 42 hM6
  clear hb6 hb5 c46 gs4 gx4 ck4 BX4 b4 own4 ownV4 gsV4 hr1 hmk
  go_wp2_with fail
  have hne6 : ∀ k, k ≠ w4.heap.size → (w6.setCell ⟨w4.heap.size, 1, none⟩ (.slice (some ⟨r1, 0, none⟩) W0.length c1)).heap[k]? = w6.heap[k]? := fun k hk => heap_setCell_other w6 _ k _ hk
  have hM7 : (w6.setCell ⟨w4.heap.size, 1, none⟩ (.slice (some ⟨r1, 0, none⟩) W0.length c1)).heap[w4.heap.size]? = some (.cells #[.int .i64 10, .slice (some ⟨r1, 0, none⟩) W0.length c1, .int .i64 11, .slice none 0 0] 42 (0, 0)) := heap_setCell_same w6 _ 1 _ 42 _ hM6
  have own7 : Own (w6.setCell ⟨w4.heap.size, 1, none⟩ (.slice (some ⟨r1, 0, none⟩) W0.length c1)) r1 c1 W0 := own6.same (hne6 _ (by omega))
  have ownO7 : Own (w6.setCell ⟨w4.heap.size, 1, none⟩ (.slice (some ⟨r1, 0, none⟩) W0.length c1)) r0 W0.length W0 := ownO6.same (hne6 _ (by omega))
  have ownV7 : Own (w6.setCell ⟨w4.heap.size, 1, none⟩ (.slice (some ⟨r1, 0, none⟩) W0.length c1)) t0 V0.length V0 := ownV6.same (hne6 _ (by omega))
  have gs7 : Goods (w6.setCell ⟨w4.heap.size, 1, none⟩ (.slice (some ⟨r1, 0, none⟩) W0.length c1)) W0 := fun y hy => (gs6 y hy).setCell hM6 (by decide) _
  have gsV7 : Goods (w6.setCell ⟨w4.heap.size, 1, none⟩ (.slice (some ⟨r1, 0, none⟩) W0.length c1)) V0 := fun y hy => (gsV6 y hy).setCell hM6 (by decide) _
  have gx7 : Good (w6.setCell ⟨w4.heap.size, 1, none⟩ (.slice (some ⟨r1, 0, none⟩) W0.length c1)) x := gx6.setCell hM6 (by decide) _
  have ck7 : Clk (w6.setCell ⟨w4.heap.size, 1, none⟩ (.slice (some ⟨r1, 0, none⟩) W0.length c1)) fb fl := ck6.setCell hM6 (by decide) _
  have BX7 := (hne6 w2.heap.size (by omega)).trans BX6
  have b7 : Below w.heap.size w (w6.setCell ⟨w4.heap.size, 1, none⟩ (.slice (some ⟨r1, 0, none⟩) W0.length c1)) := b6.setCell (by simp; omega) _
  have z7 : (w6.setCell ⟨w4.heap.size, 1, none⟩ (.slice (some ⟨r1, 0, none⟩) W0.length c1)).heap.size = w6.heap.size := by simp [World.setCell]
  refine (clone11 t0 V0.length V0 _ ownV7.rows (by omega)).mono ?_
  rintro e w8 ⟨t1, d1, rfl, ownT8, hb8, ht1⟩
  have hr1l : r1 < w6.heap.size := own6.lt
  have own8 := own7.below hb8
  have ownO8 := ownO7.below hb8
  have ownV8 := ownV7.below hb8
  have gs8 := gs7.below hb8
  have gsV8 := gsV7.below hb8
  have gx8 := gx7.below hb8
  have ck8 := ck7.below hb8
  have hM8 := (hb8.block w4.heap.size (by rw [z7]; omega)).trans hM7
  have BX8 := (hb8.block w2.heap.size (by rw [z7]; omega)).trans BX7
  have b8 : Below w.heap.size w w8 := b7.trans (hb8.mono b7.size)
  have ht1' : w6.heap.size ≤ t1 := by rw [z7] at ht1; exact ht1
  have z8 : w6.heap.size ≤ w8.heap.size := by have := hb8.size; rw [z7] at this; exact this
  have e8 : w8.cell? ⟨w4.heap.size, 3, none⟩ = some (.slice none 0 0) := by rw [cell_of_row w8 _ _ _ 42 (0, 0) hM8]; rfl
  have f8 : w8.frozen? ⟨w4.heap.size, 3, none⟩ = false := frozen_of_row w8 _ _ _ 42 hM8
  obtain ⟨x0, x1, x2, x3, x4, x5, x6⟩ := At.of_block BX8
  simp only [Nat.zero_add] at x0 x1 x2 x3 x4 x5 x6
  have hltx : w2.heap.size < w4.heap.size := by omega
  clear hb8 ht1 hne6 hM7 own7 ownO7 ownV7 gs7 gsV7 gx7 ck7 BX7 b7 z7 own6 ownO6 ownV6 gs6 gsV6 gx6 ck6 BX6 b6 hM6 e6 f6
  go_wp2_with fail
  have hne8 : ∀ k, k ≠ w4.heap.size → (w8.setCell ⟨w4.heap.size, 3, none⟩ (.slice (some ⟨t1, 0, none⟩) V0.length d1)).heap[k]? = w8.heap[k]? := fun k hk => heap_setCell_other w8 _ k _ hk
  have hM9 : (w8.setCell ⟨w4.heap.size, 3, none⟩ (.slice (some ⟨t1, 0, none⟩) V0.length d1)).heap[w4.heap.size]? = some (.cells #[.int .i64 10, .slice (some ⟨r1, 0, none⟩) W0.length c1, .int .i64 11, .slice (some ⟨t1, 0, none⟩) V0.length d1] 42 (0, 0)) := heap_setCell_same w8 _ 3 _ 42 _ hM8
  have own9 : Own (w8.setCell ⟨w4.heap.size, 3, none⟩ (.slice (some ⟨t1, 0, none⟩) V0.length d1)) r1 c1 W0 := own8.same (hne8 _ (by omega))
  have ownO9 : Own (w8.setCell ⟨w4.heap.size, 3, none⟩ (.slice (some ⟨t1, 0, none⟩) V0.length d1)) r0 W0.length W0 := ownO8.same (hne8 _ (by omega))
  have ownV9 : Own (w8.setCell ⟨w4.heap.size, 3, none⟩ (.slice (some ⟨t1, 0, none⟩) V0.length d1)) t0 V0.length V0 := ownV8.same (hne8 _ (by omega))
  have ownT9 : Own (w8.setCell ⟨w4.heap.size, 3, none⟩ (.slice (some ⟨t1, 0, none⟩) V0.length d1)) t1 d1 V0 := ownT8.same (hne8 _ (by omega))
  have gs9 : Goods (w8.setCell ⟨w4.heap.size, 3, none⟩ (.slice (some ⟨t1, 0, none⟩) V0.length d1)) W0 := fun y hy => (gs8 y hy).setCell hM8 (by decide) _
  have gsV9 : Goods (w8.setCell ⟨w4.heap.size, 3, none⟩ (.slice (some ⟨t1, 0, none⟩) V0.length d1)) V0 := fun y hy => (gsV8 y hy).setCell hM8 (by decide) _
  have gx9 : Good (w8.setCell ⟨w4.heap.size, 3, none⟩ (.slice (some ⟨t1, 0, none⟩) V0.length d1)) x := gx8.setCell hM8 (by decide) _
  have ck9 : Clk (w8.setCell ⟨w4.heap.size, 3, none⟩ (.slice (some ⟨t1, 0, none⟩) V0.length d1)) fb fl := ck8.setCell hM8 (by decide) _
  have BX9 := (hne8 w2.heap.size (by omega)).trans BX8
  have b9 : Below w.heap.size w (w8.setCell ⟨w4.heap.size, 3, none⟩ (.slice (some ⟨t1, 0, none⟩) V0.length d1)) := b8.setCell (by simp; omega) _
  have z9 : (w8.setCell ⟨w4.heap.size, 3, none⟩ (.slice (some ⟨t1, 0, none⟩) V0.length d1)).heap.size = w8.heap.size := by simp [World.setCell]
  have C := store12 w4.heap.size 0 2 r1 c1 fb _ W0 x fl _ (by omega) (by omega) hM9 rfl rfl own9 gs9 gx9 ck9 (by omega) hfl
  have ev : ((0 : Nat) : Int) = 0 := rfl
  rw [ev] at C
  refine C.mono ?_
  rintro e w10 ⟨rfl, gg, cg, own10, hM10, rest10, hg10⟩
  clear C ev
  obtain ⟨cur9, hcur9, _⟩ := own9.block
  have gx10 := rest10.good hM9 hcur9 gx9
  have gs10 : Goods w10 W0 := fun y hy => rest10.good hM9 hcur9 (gs9 y hy)
  have gsV10 : Goods w10 V0 := fun y hy => rest10.good hM9 hcur9 (gsV9 y hy)
  have ck10 := rest10.clk hM9 hcur9 ck9
  have BX10 := (rest10.block w2.heap.size (by rw [z9]; omega) (by omega) (by omega)).trans BX9
  have ownO10 := ownO9.same (rest10.block r0 (by rw [z9]; omega) (by omega) (by omega))
  have ownV10 := ownV9.same (rest10.block t0 (by rw [z9]; omega) (by omega) (by omega))
  have ht1l : t1 < w8.heap.size := ownT8.lt
  have ownT10 := ownT9.same (rest10.block t1 (by rw [z9]; omega) (by omega) (by omega))
  have b10 : Below w.heap.size w w10 := b9.trans (rest10.below (by omega) (by omega) b9.size)
  obtain ⟨K, hK⟩ : ∃ K, K = res fl W0 x := ⟨_, rfl⟩
  have hKl : K.length ≤ 1025 := by rw [hK]; have := res_len fl W0 x; omega
  have gsK10 : Goods w10 K := by rw [hK]; exact res_goods gs10 gx10
  have HK : Hid (K = res fl W0 x) := hK
  have hM10' : w10.heap[w4.heap.size]? = some (.cells #[.int .i64 10, .slice (some ⟨gg, 0, none⟩) K.length cg, .int .i64 11, .slice (some ⟨t1, 0, none⟩) V0.length d1] 42 (0, 0)) := by rw [hK]; exact hM10
  rw [← hK] at own10
  obtain ⟨x0, x1, x2, x3, x4, x5, x6⟩ := At.of_block BX10
  simp only [Nat.zero_add] at x0 x1 x2 x3 x4 x5 x6
  clear hM10 hK hne8 hM9 own9 ownO9 ownV9 ownT9 gs9 gsV9 gx9 ck9 BX9 b9 z9 rest10 hcur9 hg10 own8 ownO8 ownV8 ownT8 gs8 gsV8 gx8 ck8 hM8 BX8 b8 e8 f8
  go_wp2_with fail
  refine (model13 r0 W0.length fb W0 x fl _ ownO10.rows gs10 gx10 ck10 (by omega) hfl).mono ?_
  rintro e w11 ⟨ge, ce, rfl, own11, hb11⟩
  rw [← HK.out] at own11
  have ownK11 := own10.below hb11
  have ownV11 := ownV10.below hb11
  have ownT11 := ownT10.below hb11
  have gsK11 := gsK10.below hb11
  have gsV11 := gsV10.below hb11
  have b11 : Below w.heap.size w w11 := b10.trans (hb11.mono b10.size)
  have hM11 := (hb11.block w4.heap.size (Array.getElem?_eq_some_iff.1 hM10').1).trans hM10'
  have m0 : w11.cell? ⟨w4.heap.size, 0, none⟩ = some (.int .i64 10) := by rw [cell_of_row w11 _ _ _ 42 (0, 0) hM11]; rfl
  have m2 : w11.cell? ⟨w4.heap.size, 2, none⟩ = some (.int .i64 11) := by rw [cell_of_row w11 _ _ _ 42 (0, 0) hM11]; rfl
  have m1 : w11.cell? ⟨w4.heap.size, 1, none⟩ = some (.slice (some ⟨gg, 0, none⟩) K.length cg) := by rw [cell_of_row w11 _ _ _ 42 (0, 0) hM11]; rfl
  clear hb11 own10 ownO10 ownV10 ownT10 gsK10 gsV10 gs10 gx10 ck10 BX10 b10 hM10' x0 x1 x2 x3 x4 x5 x6
  go_wp2_with fail
  rw [← HK.out]
  refine (eqs14 gg ge cg ce K _ ownK11.rows own11.rows gsK11 (by omega)).mono ?_
  rintro e w12 ⟨rfl, hb12⟩
  have ownV12 := ownV11.below hb12
  have ownT12 := ownT11.below hb12
  have gsV12 := gsV11.below hb12
  have b12 : Below w.heap.size w w12 := b11.trans (hb12.mono b11.size)
  have m3 : w12.cell? ⟨w4.heap.size, 3, none⟩ = some (.slice (some ⟨t1, 0, none⟩) V0.length d1) := (hb12.cell (by exact (Array.getElem?_eq_some_iff.1 hM11).1)).trans (by rw [cell_of_row w11 _ _ _ 42 (0, 0) hM11]; rfl)
  clear hb12 ownV11 ownT11 gsV11 b11 hM11 m0 m1 m2 ownK11 own11 gsK11
  go_wp2_with fail
  refine (eqs14 t1 t0 d1 V0.length V0 _ ownT12.rows ownV12.rows gsV12 (by omega)).mono ?_
  rintro e w13 ⟨rfl, hb13⟩
  have b13 : Below w.heap.size w w13 := b12.trans (hb13.mono b12.size)
  clear hb13
  go_wp2
  go_ret
  exact ⟨rfl, b13⟩

set_option maxRecDepth 20000 in
set_option maxHeartbeats 4000000 in
theorem model_in1 (a : Option Addr) (n c : Nat) (ao : Option Addr) (no co : Nat) (N G A0 A1 A2 L : Int) (F : Bool) (af : Option Addr) (nf cf : Nat) (zs : Nat → Int) (sel : Int) (w : World)
    (h1 : ARow w a n) (h2 : ARow w ao no) (g1 : 0 ≤ G ∧ G ≤ 255) (g2 : 0 ≤ A0 ∧ A0 ≤ 255) (g3 : 0 ≤ A1 ∧ A1 ≤ 255) (g4 : 0 ≤ A2 ∧ A2 ≤ 255) (g5 : 0 ≤ L ∧ L ≤ 255) (h3 : ByteRow w af nf zs) (hn : n ≤ 1024) (hno : no ≤ 1024) (hnf : nf ≤ 1024)
    (hs0 : 0 ≤ sel) (hs1 : sel ≤ 255) (hsel : sel % 2 = 1) :
    Calls Yba.prog 3 #[.slice a n c, .slice ao no co, .agg #[.int .i8 N, .int .u8 G, .int .u8 A0, .int .u8 A1, .int .u8 A2, .int .u8 L, .bool F], .slice af nf cf, .int .u8 sel] w fun e w' => e = .returned (.bool true) ∧ Below w.heap.size w w' := by
  have hmk : ∀ w, (Instr.makeSlice 40 (.int .i64 2) (.int .i64 2)).run Yba.prog w = .ok (.slice (some ⟨w.heap.size, 0, none⟩) 2 2) (w.alloc (.cells #[.int .i64 0, .slice none 0 0, .int .i64 0, .slice none 0 0] 42)) := fun _ => by kernel_rfl
  have hba : ∀ o, Below w.heap.size w (w.alloc o) := fun o => (Below.refl _ _).alloc (Nat.le_refl _) _
  go_enter Yba.func3, Yba.ntmps3
  go_wp2_with fail
  refine (mks8 a n c _ (h1.below (hba _)) hn).mono ?_
  rintro e w0 ⟨r0, W0, hWl, rfl, own0, gs0, hb0, hr0⟩
  subst hWl
  have b0 : Below w.heap.size w w0 := (hba _).trans (hb0.mono (by simp))
  have q0 : w0.cell? ⟨w.heap.size, 0, none⟩ = some (.int .i8 N) := (hb0.cell (by simp)).trans (by simp)
  have q1 : w0.cell? ⟨w.heap.size, 1, none⟩ = some (.int .u8 G) := (hb0.cell (by simp)).trans (by simp)
  have q2 : w0.cell? ⟨w.heap.size, 2, none⟩ = some (.int .u8 A0) := (hb0.cell (by simp)).trans (by simp)
  have q3 : w0.cell? ⟨w.heap.size, 3, none⟩ = some (.int .u8 A1) := (hb0.cell (by simp)).trans (by simp)
  have q4 : w0.cell? ⟨w.heap.size, 4, none⟩ = some (.int .u8 A2) := (hb0.cell (by simp)).trans (by simp)
  have q5 : w0.cell? ⟨w.heap.size, 5, none⟩ = some (.int .u8 L) := (hb0.cell (by simp)).trans (by simp)
  have q6 : w0.cell? ⟨w.heap.size, 6, none⟩ = some (.bool F) := (hb0.cell (by simp)).trans (by simp)
  have zz0 : w.heap.size + 1 ≤ w0.heap.size := by have := hb0.size; simpa using this
  have hr0' : w.heap.size + 1 ≤ r0 := by simpa using hr0
  clear hb0 hr0
  go_wp2_with fail
  refine (mks8 ao no co _ (h2.below b0) hno).mono ?_
  rintro e w1 ⟨t0, V0, hVl, rfl, ownV1, gsV1, hb1, ht0⟩
  subst hVl
  have own1 := own0.below hb1
  have gs1 := gs0.below hb1
  have b1 : Below w.heap.size w w1 := b0.trans (hb1.mono (by omega))
  have p0 := (hb1.cell (p := ⟨w.heap.size, 0, none⟩) (by exact zz0)).trans q0
  have p1 := (hb1.cell (p := ⟨w.heap.size, 1, none⟩) (by exact zz0)).trans q1
  have p2 := (hb1.cell (p := ⟨w.heap.size, 2, none⟩) (by exact zz0)).trans q2
  have p3 := (hb1.cell (p := ⟨w.heap.size, 3, none⟩) (by exact zz0)).trans q3
  have p4 := (hb1.cell (p := ⟨w.heap.size, 4, none⟩) (by exact zz0)).trans q4
  have p5 := (hb1.cell (p := ⟨w.heap.size, 5, none⟩) (by exact zz0)).trans q5
  have p6 := (hb1.cell (p := ⟨w.heap.size, 6, none⟩) (by exact zz0)).trans q6
  have z1 : w.heap.size + 1 ≤ w1.heap.size := by have := hb1.size; omega
  have hr0l : r0 < t0 := by have := own0.lt; omega
  clear hb1 q0 q1 q2 q3 q4 q5 q6 own0 gs0 b0 zz0 ht0
  go_wp2_with fail
  refine (mk9 N G A0 A1 A2 L F _ g1 g2 g3 g4 g5).mono ?_
  rintro e w2 ⟨x, rfl, gx2, hb2⟩
  have b2 : Below w.heap.size w w2 := b1.trans (hb2.mono (by omega))
  have own2 := own1.below hb2
  have gs2 := gs1.below hb2
  have ownV2 := ownV1.below hb2
  have gsV2 := gsV1.below hb2
  have z2 : w.heap.size + 1 ≤ w2.heap.size := by have := hb2.size; omega
  clear own1 gs1 ownV1 gsV1 hb2 b1 z1 p0 p1 p2 p3 p4 p5 p6
  go_wp2_with fail
  have hb2a : ∀ o, Below w2.heap.size w2 (w2.alloc o) := fun o => (Below.refl _ _).alloc (Nat.le_refl _) _
  have b2a : ∀ o, Below w.heap.size w (w2.alloc o) := fun o => b2.trans ((hb2a o).mono (by omega))
  refine (clock10 af nf cf zs _ (h3.below (b2a _)) hnf).mono ?_
  rintro e w4 ⟨fb, fl, rfl, ck4, hfl, hb4⟩
  have BX4 : w4.heap[w2.heap.size]? = some (.cells (wc x).toArray 36 (0, 0)) := (hb4.block w2.heap.size (by simp)).trans (heap_alloc_new w2 _)
  have hs4 : w2.heap.size + 1 ≤ w4.heap.size := by have := hb4.size; simpa using this
  have c24 : Below w2.heap.size w2 w4 := (hb2a _).trans (hb4.mono (by simp))
  have own4 := own2.below c24
  have gs4 := gs2.below c24
  have ownV4 := ownV2.below c24
  have gsV4 := gsV2.below c24
  have gx4 := gx2.below c24
  have b4 : Below w.heap.size w w4 := b2.trans (c24.mono (by omega))
  have ht4 : t0 < w2.heap.size := ownV2.lt
  clear hb4 c24 own2 gs2 ownV2 gsV2 gx2 b2 b2a hb2a
  go_wp2_with fail
  have hb5 : ∀ o, Below w4.heap.size w4 (w4.alloc o) := fun o => (Below.refl _ _).alloc (Nat.le_refl _) _
  refine (clone11 r0 W0.length W0 _ (own4.below (hb5 _)).rows (by omega)).mono ?_
  rintro e w6 ⟨r1, c1, rfl, own6, hb6, hr1⟩
  have hM6 : w6.heap[w4.heap.size]? = some (.cells #[.int .i64 10, .slice none 0 0, .int .i64 11, .slice none 0 0] 42 (0, 0)) := (hb6.block w4.heap.size (by simp)).trans (heap_alloc_new w4 _)
  have hr1' : w4.heap.size + 1 ≤ r1 := by simpa using hr1
  have c46 : Below w4.heap.size w4 w6 := (hb5 _).trans (hb6.mono (by simp))
  have ownO6 := own4.below c46
  have gs6 := gs4.below c46
  have ownV6 := ownV4.below c46
  have gsV6 := gsV4.below c46
  have gx6 := gx4.below c46
  have ck6 := ck4.below c46
  have BX6 := (c46.block w2.heap.size (by omega)).trans BX4
  have b6 : Below w.heap.size w w6 := b4.trans (c46.mono (by omega))
  have z6 : w4.heap.size + 1 ≤ w6.heap.size := by have := hb6.size; simpa using this
  have e6 : w6.cell? ⟨w4.heap.size, 3, none⟩ = some (.slice none 0 0) := by rw [cell_of_row w6 _ _ _ 42 (0, 0) hM6]; rfl
  have f6 : w6.frozen? ⟨w4.heap.size, 3, none⟩ = false := frozen_of_row w6 _ _ _ 42 hM6
  clear hb6 hb5 c46 gs4 gx4 ck4 BX4 b4 own4 ownV4 gsV4 hr1 hmk
  go_wp2_with fail
  have hne6 : ∀ k, k ≠ w4.heap.size → (w6.setCell ⟨w4.heap.size, 3, none⟩ (.slice (some ⟨r1, 0, none⟩) W0.length c1)).heap[k]? = w6.heap[k]? := fun k hk => heap_setCell_other w6 _ k _ hk
  have hM7 : (w6.setCell ⟨w4.heap.size, 3, none⟩ (.slice (some ⟨r1, 0, none⟩) W0.length c1)).heap[w4.heap.size]? = some (.cells #[.int .i64 10, .slice none 0 0, .int .i64 11, .slice (some ⟨r1, 0, none⟩) W0.length c1] 42 (0, 0)) := heap_setCell_same w6 _ 3 _ 42 _ hM6
  have own7 : Own (w6.setCell ⟨w4.heap.size, 3, none⟩ (.slice (some ⟨r1, 0, none⟩) W0.length c1)) r1 c1 W0 := own6.same (hne6 _ (by omega))
  have ownO7 : Own (w6.setCell ⟨w4.heap.size, 3, none⟩ (.slice (some ⟨r1, 0, none⟩) W0.length c1)) r0 W0.length W0 := ownO6.same (hne6 _ (by omega))
  have ownV7 : Own (w6.setCell ⟨w4.heap.size, 3, none⟩ (.slice (some ⟨r1, 0, none⟩) W0.length c1)) t0 V0.length V0 := ownV6.same (hne6 _ (by omega))
  have gs7 : Goods (w6.setCell ⟨w4.heap.size, 3, none⟩ (.slice (some ⟨r1, 0, none⟩) W0.length c1)) W0 := fun y hy => (gs6 y hy).setCell hM6 (by decide) _
  have gsV7 : Goods (w6.setCell ⟨w4.heap.size, 3, none⟩ (.slice (some ⟨r1, 0, none⟩) W0.length c1)) V0 := fun y hy => (gsV6 y hy).setCell hM6 (by decide) _
  have gx7 : Good (w6.setCell ⟨w4.heap.size, 3, none⟩ (.slice (some ⟨r1, 0, none⟩) W0.length c1)) x := gx6.setCell hM6 (by decide) _
  have ck7 : Clk (w6.setCell ⟨w4.heap.size, 3, none⟩ (.slice (some ⟨r1, 0, none⟩) W0.length c1)) fb fl := ck6.setCell hM6 (by decide) _
  have BX7 := (hne6 w2.heap.size (by omega)).trans BX6
  have b7 : Below w.heap.size w (w6.setCell ⟨w4.heap.size, 3, none⟩ (.slice (some ⟨r1, 0, none⟩) W0.length c1)) := b6.setCell (by simp; omega) _
  have z7 : (w6.setCell ⟨w4.heap.size, 3, none⟩ (.slice (some ⟨r1, 0, none⟩) W0.length c1)).heap.size = w6.heap.size := by simp [World.setCell]
  refine (clone11 t0 V0.length V0 _ ownV7.rows (by omega)).mono ?_
  rintro e w8 ⟨t1, d1, rfl, ownT8, hb8, ht1⟩
  have hr1l : r1 < w6.heap.size := own6.lt
  have own8 := own7.below hb8
  have ownO8 := ownO7.below hb8
  have ownV8 := ownV7.below hb8
  have gs8 := gs7.below hb8
  have gsV8 := gsV7.below hb8
  have gx8 := gx7.below hb8
  have ck8 := ck7.below hb8
  have hM8 := (hb8.block w4.heap.size (by rw [z7]; omega)).trans hM7
  have BX8 := (hb8.block w2.heap.size (by rw [z7]; omega)).trans BX7
  have b8 : Below w.heap.size w w8 := b7.trans (hb8.mono b7.size)
  have ht1' : w6.heap.size ≤ t1 := by rw [z7] at ht1; exact ht1
  have z8 : w6.heap.size ≤ w8.heap.size := by have := hb8.size; rw [z7] at this; exact this
  have e8 : w8.cell? ⟨w4.heap.size, 1, none⟩ = some (.slice none 0 0) := by rw [cell_of_row w8 _ _ _ 42 (0, 0) hM8]; rfl
  have f8 : w8.frozen? ⟨w4.heap.size, 1, none⟩ = false := frozen_of_row w8 _ _ _ 42 hM8
  obtain ⟨x0, x1, x2, x3, x4, x5, x6⟩ := At.of_block BX8
  simp only [Nat.zero_add] at x0 x1 x2 x3 x4 x5 x6
  have hltx : w2.heap.size < w4.heap.size := by omega
  clear hb8 ht1 hne6 hM7 own7 ownO7 ownV7 gs7 gsV7 gx7 ck7 BX7 b7 z7 own6 ownO6 ownV6 gs6 gsV6 gx6 ck6 BX6 b6 hM6 e6 f6
  go_wp2_with fail
  have hne8 : ∀ k, k ≠ w4.heap.size → (w8.setCell ⟨w4.heap.size, 1, none⟩ (.slice (some ⟨t1, 0, none⟩) V0.length d1)).heap[k]? = w8.heap[k]? := fun k hk => heap_setCell_other w8 _ k _ hk
  have hM9 : (w8.setCell ⟨w4.heap.size, 1, none⟩ (.slice (some ⟨t1, 0, none⟩) V0.length d1)).heap[w4.heap.size]? = some (.cells #[.int .i64 10, .slice (some ⟨t1, 0, none⟩) V0.length d1, .int .i64 11, .slice (some ⟨r1, 0, none⟩) W0.length c1] 42 (0, 0)) := heap_setCell_same w8 _ 1 _ 42 _ hM8
  have own9 : Own (w8.setCell ⟨w4.heap.size, 1, none⟩ (.slice (some ⟨t1, 0, none⟩) V0.length d1)) r1 c1 W0 := own8.same (hne8 _ (by omega))
  have ownO9 : Own (w8.setCell ⟨w4.heap.size, 1, none⟩ (.slice (some ⟨t1, 0, none⟩) V0.length d1)) r0 W0.length W0 := ownO8.same (hne8 _ (by omega))
  have ownV9 : Own (w8.setCell ⟨w4.heap.size, 1, none⟩ (.slice (some ⟨t1, 0, none⟩) V0.length d1)) t0 V0.length V0 := ownV8.same (hne8 _ (by omega))
  have ownT9 : Own (w8.setCell ⟨w4.heap.size, 1, none⟩ (.slice (some ⟨t1, 0, none⟩) V0.length d1)) t1 d1 V0 := ownT8.same (hne8 _ (by omega))
  have gs9 : Goods (w8.setCell ⟨w4.heap.size, 1, none⟩ (.slice (some ⟨t1, 0, none⟩) V0.length d1)) W0 := fun y hy => (gs8 y hy).setCell hM8 (by decide) _
  have gsV9 : Goods (w8.setCell ⟨w4.heap.size, 1, none⟩ (.slice (some ⟨t1, 0, none⟩) V0.length d1)) V0 := fun y hy => (gsV8 y hy).setCell hM8 (by decide) _
  have gx9 : Good (w8.setCell ⟨w4.heap.size, 1, none⟩ (.slice (some ⟨t1, 0, none⟩) V0.length d1)) x := gx8.setCell hM8 (by decide) _
  have ck9 : Clk (w8.setCell ⟨w4.heap.size, 1, none⟩ (.slice (some ⟨t1, 0, none⟩) V0.length d1)) fb fl := ck8.setCell hM8 (by decide) _
  have BX9 := (hne8 w2.heap.size (by omega)).trans BX8
  have b9 : Below w.heap.size w (w8.setCell ⟨w4.heap.size, 1, none⟩ (.slice (some ⟨t1, 0, none⟩) V0.length d1)) := b8.setCell (by simp; omega) _
  have z9 : (w8.setCell ⟨w4.heap.size, 1, none⟩ (.slice (some ⟨t1, 0, none⟩) V0.length d1)).heap.size = w8.heap.size := by simp [World.setCell]
  have C := store12 w4.heap.size 1 2 r1 c1 fb _ W0 x fl _ (by omega) (by omega) hM9 rfl rfl own9 gs9 gx9 ck9 (by omega) hfl
  have ev : ((1 : Nat) : Int) = 1 := rfl
  rw [ev] at C
  refine C.mono ?_
  rintro e w10 ⟨rfl, gg, cg, own10, hM10, rest10, hg10⟩
  clear C ev
  obtain ⟨cur9, hcur9, _⟩ := own9.block
  have gx10 := rest10.good hM9 hcur9 gx9
  have gs10 : Goods w10 W0 := fun y hy => rest10.good hM9 hcur9 (gs9 y hy)
  have gsV10 : Goods w10 V0 := fun y hy => rest10.good hM9 hcur9 (gsV9 y hy)
  have ck10 := rest10.clk hM9 hcur9 ck9
  have BX10 := (rest10.block w2.heap.size (by rw [z9]; omega) (by omega) (by omega)).trans BX9
  have ownO10 := ownO9.same (rest10.block r0 (by rw [z9]; omega) (by omega) (by omega))
  have ownV10 := ownV9.same (rest10.block t0 (by rw [z9]; omega) (by omega) (by omega))
  have ht1l : t1 < w8.heap.size := ownT8.lt
  have ownT10 := ownT9.same (rest10.block t1 (by rw [z9]; omega) (by omega) (by omega))
  have b10 : Below w.heap.size w w10 := b9.trans (rest10.below (by omega) (by omega) b9.size)
  obtain ⟨K, hK⟩ : ∃ K, K = res fl W0 x := ⟨_, rfl⟩
  have hKl : K.length ≤ 1025 := by rw [hK]; have := res_len fl W0 x; omega
  have gsK10 : Goods w10 K := by rw [hK]; exact res_goods gs10 gx10
  have HK : Hid (K = res fl W0 x) := hK
  have hM10' : w10.heap[w4.heap.size]? = some (.cells #[.int .i64 10, .slice (some ⟨t1, 0, none⟩) V0.length d1, .int .i64 11, .slice (some ⟨gg, 0, none⟩) K.length cg] 42 (0, 0)) := by rw [hK]; exact hM10
  rw [← hK] at own10
  obtain ⟨x0, x1, x2, x3, x4, x5, x6⟩ := At.of_block BX10
  simp only [Nat.zero_add] at x0 x1 x2 x3 x4 x5 x6
  clear hM10 hK hne8 hM9 own9 ownO9 ownV9 ownT9 gs9 gsV9 gx9 ck9 BX9 b9 z9 rest10 hcur9 hg10 own8 ownO8 ownV8 ownT8 gs8 gsV8 gx8 ck8 hM8 BX8 b8 e8 f8
  go_wp2_with fail
  refine (model13 r0 W0.length fb W0 x fl _ ownO10.rows gs10 gx10 ck10 (by omega) hfl).mono ?_
  rintro e w11 ⟨ge, ce, rfl, own11, hb11⟩
  rw [← HK.out] at own11
  have ownK11 := own10.below hb11
  have ownV11 := ownV10.below hb11
  have ownT11 := ownT10.below hb11
  have gsK11 := gsK10.below hb11
  have gsV11 := gsV10.below hb11
  have b11 : Below w.heap.size w w11 := b10.trans (hb11.mono b10.size)
  have hM11 := (hb11.block w4.heap.size (Array.getElem?_eq_some_iff.1 hM10').1).trans hM10'
  have m0 : w11.cell? ⟨w4.heap.size, 0, none⟩ = some (.int .i64 10) := by rw [cell_of_row w11 _ _ _ 42 (0, 0) hM11]; rfl
  have m2 : w11.cell? ⟨w4.heap.size, 2, none⟩ = some (.int .i64 11) := by rw [cell_of_row w11 _ _ _ 42 (0, 0) hM11]; rfl
  have m1 : w11.cell? ⟨w4.heap.size, 3, none⟩ = some (.slice (some ⟨gg, 0, none⟩) K.length cg) := by rw [cell_of_row w11 _ _ _ 42 (0, 0) hM11]; rfl
  clear hb11 own10 ownO10 ownV10 ownT10 gsK10 gsV10 gs10 gx10 ck10 BX10 b10 hM10' x0 x1 x2 x3 x4 x5 x6
  go_wp2_with fail
  rw [← HK.out]
  refine (eqs14 gg ge cg ce K _ ownK11.rows own11.rows gsK11 (by omega)).mono ?_
  rintro e w12 ⟨rfl, hb12⟩
  have ownV12 := ownV11.below hb12
  have ownT12 := ownT11.below hb12
  have gsV12 := gsV11.below hb12
  have b12 : Below w.heap.size w w12 := b11.trans (hb12.mono b11.size)
  have m3 : w12.cell? ⟨w4.heap.size, 1, none⟩ = some (.slice (some ⟨t1, 0, none⟩) V0.length d1) := (hb12.cell (by exact (Array.getElem?_eq_some_iff.1 hM11).1)).trans (by rw [cell_of_row w11 _ _ _ 42 (0, 0) hM11]; rfl)
  clear hb12 ownV11 ownT11 gsV11 b11 hM11 m0 m1 m2 ownK11 own11 gsK11
  go_wp2_with fail
  refine (eqs14 t1 t0 d1 V0.length V0 _ ownT12.rows ownV12.rows gsV12 (by omega)).mono ?_
  rintro e w13 ⟨rfl, hb13⟩
  have b13 : Below w.heap.size w w13 := b12.trans (hb13.mono b12.size)
  clear hb13
  go_wp2
  go_ret
  exact ⟨rfl, b13⟩
end Go.Proofs.Ybulkbhxe.AMem
