/-
  The walk of zzs2942amks (function 8): a row of writes, made.
-/
import Derived.Test.YbulkbhxeA5
namespace Go.Proofs.Ybulkbhxe.AMem
open Go.ChangeShapes Go.WideShapes Go.ChangeAt Go.RowKit
set_option linter.unusedVariables false

/-- One datum from which a write is made, in memory. -/
structure ArgAt (w : World) (b o : Nat) (N G A0 A1 A2 L : Int) (F : Bool) : Prop where
  c0 : w.cell? ⟨b, o, none⟩ = some (.int .i8 N)
  c1 : w.cell? ⟨b, o + 1, none⟩ = some (.int .u8 G)
  c2 : w.cell? ⟨b, o + 2, none⟩ = some (.int .u8 A0)
  c3 : w.cell? ⟨b, o + 3, none⟩ = some (.int .u8 A1)
  c4 : w.cell? ⟨b, o + 4, none⟩ = some (.int .u8 A2)
  c5 : w.cell? ⟨b, o + 5, none⟩ = some (.int .u8 L)
  c6 : w.cell? ⟨b, o + 6, none⟩ = some (.bool F)
  g1 : 0 ≤ G ∧ G ≤ 255
  g2 : 0 ≤ A0 ∧ A0 ≤ 255
  g3 : 0 ≤ A1 ∧ A1 ≤ 255
  g4 : 0 ≤ A2 ∧ A2 ≤ 255
  g5 : 0 ≤ L ∧ L ≤ 255
theorem ArgAt.below {w w' : World} {b o : Nat} {N G A0 A1 A2 L : Int} {F : Bool} {B : Nat} (h : ArgAt w b o N G A0 A1 A2 L F) (hb : Below B w w') (hl : b < B) : ArgAt w' b o N G A0 A1 A2 L F :=
  ⟨(hb.cell hl).trans h.c0, (hb.cell hl).trans h.c1, (hb.cell hl).trans h.c2, (hb.cell hl).trans h.c3, (hb.cell hl).trans h.c4, (hb.cell hl).trans h.c5, (hb.cell hl).trans h.c6, h.g1, h.g2, h.g3, h.g4, h.g5⟩

/-- A slice of such data. -/
def ARow (w : World) (a : Option Addr) (n : Nat) : Prop :=
  n = 0 ∨ ∃ b off, a = some ⟨b, off, none⟩ ∧ b < w.heap.size ∧ ∀ k, k < n → ∃ N G A0 A1 A2 L F, ArgAt w b (off + k * 7) N G A0 A1 A2 L F

theorem run_make27 (n : Nat) (hn : n ≤ 1024) (w : World) : (Instr.makeSlice 27 (.int .i64 (n : Int)) (.int .i64 (n : Int))).run Yba.prog w =
    .ok (.slice (some ⟨w.heap.size, 0, none⟩) n n) (w.alloc (.cells (madeCells #[.int .i64 0, .string ByteArray.empty, .int .i64 0, .int .u64 0, .int .i64 0, .slice none 0 0, .int .u64 0] (n * 7)) 36)) := by
  obtain ⟨i, hi, hz0, hz1, hz2⟩ := info_parts info36
  have h := run_make (P := Yba.prog) w 27 36 i _ Yba.underlying27 hi hz0 .i64 .i64 n n (by omega) (by omega) (by rw [hz2]; omega) (by omega)
  rw [hz1] at h
  simpa [Value.cells] using h

/-- Block r is a row of n writes in the making: the first are W. -/
def RowTo (w : World) (r n : Nat) (W : List Wr) : Prop := ∃ cur : Array Value, w.heap[r]? = some (.cells cur 36 (0, 0)) ∧ cur.size = n * 7 ∧ W.length ≤ n ∧ ∀ k x, W[k]? = some x → Sits cur k x

theorem RowTo.start (w : World) (n : Nat) (z : Array Value) : RowTo (w.alloc (.cells (madeCells z (n * 7)) 36)) w.heap.size n [] :=
  ⟨_, heap_alloc_new w _, size_madeCells _ _, Nat.zero_le _, fun k x h => by simp at h⟩
theorem RowTo.room {w : World} {r n : Nat} {W : List Wr} (h : RowTo w r n W) (j : Nat) (hj : j < n * 7) : (∃ v, w.cell? ⟨r, j, none⟩ = some v) ∧ w.frozen? ⟨r, j, none⟩ = false := by
  obtain ⟨cur, hg, hs, _⟩ := h
  exact ⟨⟨cur[j]'(by omega), by rw [cell_of_row w r j cur 36 (0, 0) hg]; exact Array.getElem?_eq_getElem _⟩, frozen_of_row w r j cur 36 hg⟩
theorem RowTo.lt {w : World} {r n : Nat} {W : List Wr} (h : RowTo w r n W) : r < w.heap.size := by
  obtain ⟨cur, hg, _⟩ := h
  exact (Array.getElem?_eq_some_iff.1 hg).1
theorem RowTo.below {w w' : World} {r n : Nat} {W : List Wr} (h : RowTo w r n W) (hb : Below w.heap.size w w') : RowTo w' r n W := by
  have hl := h.lt
  obtain ⟨cur, hg, rest⟩ := h
  exact ⟨cur, (hb.block r hl).trans hg, rest⟩

/-- The seven stores of a write. -/
def put7 (w : World) (r o : Nat) (x : Wr) : World :=
  ((((((w.setCell ⟨r, o, none⟩ (.int .i64 x.N)).setCell ⟨r, o + 1, none⟩ (.string ByteArray.empty)).setCell ⟨r, o + 2, none⟩ (.int .i64 0)).setCell ⟨r, o + 3, none⟩ (.int .u64 0)).setCell ⟨r, o + 4, none⟩ (.int .i64 (x.g : Int))).setCell ⟨r, o + 5, none⟩ (.slice (some ⟨x.b, 0, none⟩) x.at'.length x.at'.length)).setCell ⟨r, o + 6, none⟩ (.int .u64 x.f)

/-- The same on the row. -/
def set7 (cur : Array Value) (o : Nat) (x : Wr) : Array Value :=
  ((((((cur.setIfInBounds o (.int .i64 x.N)).setIfInBounds (o + 1) (.string ByteArray.empty)).setIfInBounds (o + 2) (.int .i64 0)).setIfInBounds (o + 3) (.int .u64 0)).setIfInBounds (o + 4) (.int .i64 (x.g : Int))).setIfInBounds (o + 5) (.slice (some ⟨x.b, 0, none⟩) x.at'.length x.at'.length)).setIfInBounds (o + 6) (.int .u64 x.f)
theorem put7_heap {w : World} {r : Nat} {cur : Array Value} {e : TypeId} (hg : w.heap[r]? = some (.cells cur e (0, 0))) (o : Nat) (x : Wr) : (put7 w r o x).heap[r]? = some (.cells (set7 cur o x) e (0, 0)) :=
  heap_setCell_same _ r _ _ e _ (heap_setCell_same _ r _ _ e _ (heap_setCell_same _ r _ _ e _ (heap_setCell_same _ r _ _ e _ (heap_setCell_same _ r _ _ e _ (heap_setCell_same _ r _ _ e _ (heap_setCell_same w r _ cur e _ hg))))))
theorem put7_other {w : World} {r k : Nat} (h : k ≠ r) (o : Nat) (x : Wr) : (put7 w r o x).heap[k]? = w.heap[k]? := by
  unfold put7
  iterate 7 rw [heap_setCell_other _ _ _ _ (by exact h)]
theorem put7_below {B : Nat} {a w : World} (h : Below B a w) {r : Nat} (hr : B ≤ r) (o : Nat) (x : Wr) : Below B a (put7 w r o x) :=
  ((((((h.setCell (by exact hr) _).setCell (by exact hr) _).setCell (by exact hr) _).setCell (by exact hr) _).setCell (by exact hr) _).setCell (by exact hr) _).setCell (by exact hr) _
theorem set7_size (cur : Array Value) (o : Nat) (x : Wr) : (set7 cur o x).size = cur.size := by simp [set7]
theorem set7_far {cur : Array Value} {o j : Nat} (x : Wr) (h : j < o ∨ o + 7 ≤ j) : (set7 cur o x)[j]? = cur[j]? := by
  unfold set7
  rw [Array.getElem?_setIfInBounds_ne (by omega), Array.getElem?_setIfInBounds_ne (by omega), Array.getElem?_setIfInBounds_ne (by omega), Array.getElem?_setIfInBounds_ne (by omega), Array.getElem?_setIfInBounds_ne (by omega), Array.getElem?_setIfInBounds_ne (by omega), Array.getElem?_setIfInBounds_ne (by omega)]
theorem set7_sits {cur : Array Value} {k : Nat} (x : Wr) (h : k * 7 + 7 ≤ cur.size) : Sits (set7 cur (k * 7) x) k x := by
  intro q hq
  have hs : ∀ (c : Array Value) (v : Value) (i : Nat), (c.setIfInBounds i v).size = c.size := fun c v i => by simp
  match q, hq with
  | 0, _ =>
    unfold set7
    rw [Array.getElem?_setIfInBounds_ne (by omega), Array.getElem?_setIfInBounds_ne (by omega), Array.getElem?_setIfInBounds_ne (by omega), Array.getElem?_setIfInBounds_ne (by omega), Array.getElem?_setIfInBounds_ne (by omega), Array.getElem?_setIfInBounds_ne (by omega)]
    exact Array.getElem?_setIfInBounds_self_of_lt (by omega)
  | 1, _ =>
    unfold set7
    rw [Array.getElem?_setIfInBounds_ne (by omega), Array.getElem?_setIfInBounds_ne (by omega), Array.getElem?_setIfInBounds_ne (by omega), Array.getElem?_setIfInBounds_ne (by omega), Array.getElem?_setIfInBounds_ne (by omega)]
    exact Array.getElem?_setIfInBounds_self_of_lt (by simp only [hs]; omega)
  | 2, _ =>
    unfold set7
    rw [Array.getElem?_setIfInBounds_ne (by omega), Array.getElem?_setIfInBounds_ne (by omega), Array.getElem?_setIfInBounds_ne (by omega), Array.getElem?_setIfInBounds_ne (by omega)]
    exact Array.getElem?_setIfInBounds_self_of_lt (by simp only [hs]; omega)
  | 3, _ =>
    unfold set7
    rw [Array.getElem?_setIfInBounds_ne (by omega), Array.getElem?_setIfInBounds_ne (by omega), Array.getElem?_setIfInBounds_ne (by omega)]
    exact Array.getElem?_setIfInBounds_self_of_lt (by simp only [hs]; omega)
  | 4, _ =>
    unfold set7
    rw [Array.getElem?_setIfInBounds_ne (by omega), Array.getElem?_setIfInBounds_ne (by omega)]
    exact Array.getElem?_setIfInBounds_self_of_lt (by simp only [hs]; omega)
  | 5, _ =>
    unfold set7
    rw [Array.getElem?_setIfInBounds_ne (by omega)]
    exact Array.getElem?_setIfInBounds_self_of_lt (by simp only [hs]; omega)
  | 6, _ =>
    unfold set7
    exact Array.getElem?_setIfInBounds_self_of_lt (by simp only [hs]; omega)

theorem Sits.lt {cur : Array Value} {k : Nat} {x : Wr} (h : Sits cur k x) : k * 7 + 7 ≤ cur.size := by
  have := h 6 (by omega)
  have h2 : (wc x)[6]? = some (.int .u64 x.f) := rfl
  rw [h2] at this
  have := (Array.getElem?_eq_some_iff.1 this).1
  omega
theorem RowTo.step {w : World} {r n : Nat} {W : List Wr} (h : RowTo w r n W) (hk : W.length < n) (x : Wr) : RowTo (put7 w r (W.length * 7) x) r n (W ++ [x]) := by
  obtain ⟨cur, hg, hs, hl, hc⟩ := h
  refine ⟨_, put7_heap hg _ x, by rw [set7_size]; exact hs, by simp; omega, fun k y hy => ?_⟩
  by_cases e : k = W.length
  · subst e
    simp at hy
    subst hy
    exact set7_sits x (by omega)
  · have hkl : k < W.length := by
      have := (List.getElem?_eq_some_iff.1 hy).1
      simp at this
      omega
    rw [List.getElem?_append_left hkl] at hy
    intro q hq
    rw [set7_far x (by omega)]
    exact hc k y hy q hq
theorem RowTo.own {w : World} {r n : Nat} {W : List Wr} (h : RowTo w r n W) (hn : W.length = n) (hm : n ≤ maxLen) : Own w r n W := by
  obtain ⟨cur, hg, hs, hl, hc⟩ := h
  refine Own.of hg (by omega) hm hs ?_
  apply List.ext_getElem?
  intro j
  by_cases hj : j < W.length * 7
  · have hk : j / 7 < W.length := by omega
    have hx : W[j / 7]? = some W[j / 7] := List.getElem?_eq_getElem hk
    have e : j = j / 7 * 7 + j % 7 := by omega
    rw [List.getElem?_take_of_lt hj]
    have h1 := hc _ _ hx (j % 7) (by omega)
    have h2 := flat_get W _ _ hx (j % 7) (by omega)
    rw [← e] at h1 h2
    rw [h2, ← h1]
    simp
  · rw [List.getElem?_eq_none (by simp; omega), List.getElem?_eq_none (by rw [flat_length]; omega)]

/-- A clock's block is no row of writes. -/
theorem Clk.ne {w : World} {b r : Nat} {l : List Nat} {cur : Array Value} {e : TypeId} {fr : Nat × Nat} (h : Clk w b l) (hg : w.heap[r]? = some (.cells cur e fr)) (he : e ≠ 65) : b ≠ r := by
  intro h'
  subst h'
  rw [h] at hg
  injection hg with hg
  injection hg with _ h2 _
  exact he h2.symm
theorem Good.put7 {w : World} {r n : Nat} {W : List Wr} (hr : RowTo w r n W) {y : Wr} (h : Good w y) (o : Nat) (x : Wr) : Good (put7 w r o x) y := by
  obtain ⟨cur, hg, _⟩ := hr
  exact ⟨(put7_other (h.clk.ne hg (by decide)) o x).trans h.clk, h.lt, h.small⟩

set_option maxRecDepth 20000 in
set_option maxHeartbeats 1000000 in
theorem mks8 (a : Option Addr) (n c : Nat) (w : World) (h : ARow w a n) (hn : n ≤ 1024) :
    Calls Yba.prog 8 #[.slice a n c] w fun e w' => ∃ r W, W.length = n ∧ e = .returned (.slice (some ⟨r, 0, none⟩) n n) ∧ Own w' r n W ∧ Goods w' W ∧ Below w.heap.size w w' ∧ w.heap.size ≤ r := by
  have hmk := run_make27 n hn
  go_enter Yba.func8, Yba.ntmps8
  go_wp2
  go_loopw [4] (fun i wr => ∃ W : List Wr, W.length ≤ n ∧ i = .int .i64 (W.length : Int) ∧ RowTo wr w.heap.size n W ∧ Goods wr W ∧ Below w.heap.size w wr) (fun i _ => n - (intOf i).toNat)
  case atStart => exact ⟨[], Nat.zero_le _, rfl, RowTo.start _ _ _, fun x hx => (by cases hx), (Below.refl _ _).alloc (Nat.le_refl _) _⟩
  case round =>
    obtain ⟨W, hk, rfl, hc, hgs, hb⟩ := hrel
    obtain ⟨k, hkl⟩ : ∃ k, k = W.length := ⟨_, rfl⟩
    have HK : Hid (k = W.length) := hkl
    rw [← hkl] at hk ⊢
    by_cases hlt : k < n
    · rcases h with h | ⟨b, off, rfl, hbl, hcell⟩
      · omega
      obtain ⟨N, G, A0, A1, A2, L, F, hA⟩ := hcell k hlt
      obtain ⟨d0, d1, d2, d3, d4, d5, d6, g1, g2, g3, g4, g5⟩ := hA.below hb hbl
      clear hcell hkl hmk hA
      go_wp2_with fail
      refine (mk9 N G A0 A1 A2 L F _ g1 g2 g3 g4 g5).mono ?_
      rintro e w1 ⟨x, rfl, gx, hb1⟩
      have hc1 := hc.below hb1
      have hgs1 := hgs.below hb1
      have hb2 : Below w.heap.size w w1 := hb.trans (hb1.mono hb.size)
      obtain ⟨⟨o0, p0⟩, f0⟩ := hc1.room (k * 7) (by omega)
      obtain ⟨⟨o1, p1⟩, f1⟩ := hc1.room (k * 7 + 1) (by omega)
      obtain ⟨⟨o2, p2⟩, f2⟩ := hc1.room (k * 7 + 2) (by omega)
      obtain ⟨⟨o3, p3⟩, f3⟩ := hc1.room (k * 7 + 3) (by omega)
      obtain ⟨⟨o4, p4⟩, f4⟩ := hc1.room (k * 7 + 4) (by omega)
      obtain ⟨⟨o5, p5⟩, f5⟩ := hc1.room (k * 7 + 5) (by omega)
      obtain ⟨⟨o6, p6⟩, f6⟩ := hc1.room (k * 7 + 6) (by omega)
      clear hb hc hgs hb1 d0 d1 d2 d3 d4 d5 d6
      go_wp2
      go_roundw
      case rel =>
        have hst := hc1.step (by rw [← HK.out]; exact hlt) x
        rw [← HK.out] at hst
        exact ⟨W ++ [x], by rw [List.length_append, ← HK.out]; simp; omega, by rw [List.length_append, ← HK.out]; simp, hst, fun y hy => by
          rcases List.mem_append.1 hy with hy | hy
          · exact (hgs1 y hy).put7 hc1 _ x
          · simp at hy; subst hy; exact gx.put7 hc1 _ y, put7_below hb2 (Nat.le_refl _) _ x⟩
      case measure => simp [intOf]; omega
    · clear hmk hkl
      go_wp2
      go_ret
      have e : W.length = n := by have := HK.out; omega
      exact ⟨w.heap.size, W, e, rfl, hc.own e (by unfold maxLen; omega), hgs, hb, Nat.le_refl _⟩
end Go.Proofs.Ybulkbhxe.AMem
