/-
  Rows of writes that the call owns; what makes them: zzs2942aclock, zzs2942amk, zzs2942amks, slices.Clone (functions 10, 9, 8, 11).
-/
import Derived.Test.YbulkbhxeA3
import Derived.Deep.AppendLies
namespace Go.Proofs.Ybulkbhxe.AMem
open Go.ChangeShapes Go.WideShapes Go.ChangeAt Go.RowKit
set_option linter.unusedVariables false
attribute [local go_sem ↓] Go.wp_at_zero Go.wp_at_succ

/-- The cells of a list of writes. -/
def flat (W : List Wr) : List Value := W.flatMap wc
theorem wc_length (x : Wr) : (wc x).length = 7 := rfl
theorem wc_oneCell (x : Wr) : ∀ u ∈ wc x, u.oneCell' = true := by
  intro u hu
  simp only [wc, List.mem_cons, List.not_mem_nil, or_false] at hu
  rcases hu with rfl | rfl | rfl | rfl | rfl | rfl | rfl <;> rfl
theorem flat_cons (x : Wr) (W : List Wr) : flat (x :: W) = wc x ++ flat W := by simp [flat]
theorem flat_append (V W : List Wr) : flat (V ++ W) = flat V ++ flat W := by simp [flat]
theorem flat_one (x : Wr) : flat [x] = wc x := by simp [flat]
theorem flat_length (W : List Wr) : (flat W).length = W.length * 7 := by
  induction W with
  | nil => rfl
  | cons x W ih => rw [flat_cons, List.length_append, ih, wc_length, List.length_cons]; omega
theorem flat_oneCell (W : List Wr) : ∀ u ∈ flat W, u.oneCell' = true := by
  intro u hu
  simp only [flat, List.mem_flatMap] at hu
  obtain ⟨x, _, hx⟩ := hu
  exact wc_oneCell x u hx
theorem flat_get (W : List Wr) : ∀ (k : Nat) (x : Wr), W[k]? = some x → ∀ q, q < 7 → (flat W)[k * 7 + q]? = (wc x)[q]? := by
  induction W with
  | nil => intro k x h; simp at h
  | cons y W ih =>
    intro k x h q hq
    rw [flat_cons]
    cases k with
    | zero =>
      simp only [List.getElem?_cons_zero, Option.some.injEq] at h
      subst h
      rw [Nat.zero_mul, Nat.zero_add, List.getElem?_append_left (by rw [wc_length]; exact hq)]
    | succ k =>
      rw [List.getElem?_cons_succ] at h
      rw [List.getElem?_append_right (by rw [wc_length]; omega), wc_length, show (k + 1) * 7 + q - 7 = k * 7 + q by omega]
      exact ih k x h q hq

/-- The write x lies at the k-th place of an array of cells. -/
def Sits (cur : Array Value) (k : Nat) (x : Wr) : Prop := ∀ q, q < 7 → cur[k * 7 + q]? = (wc x)[q]?
theorem Sits.at {w : World} {r : Nat} {cur : Array Value} {e : TypeId} {fr : Nat × Nat} (hg : w.heap[r]? = some (.cells cur e fr)) {k : Nat} {x : Wr} (h : Sits cur k x) : At w r (k * 7) x := by
  have c : ∀ q, q < 7 → w.cell? ⟨r, k * 7 + q, none⟩ = (wc x)[q]? := fun q hq => by rw [cell_of_row w r _ cur e fr hg]; exact h q hq
  exact ⟨c 0 (by omega), c 1 (by omega), c 2 (by omega), c 3 (by omega), c 4 (by omega), c 5 (by omega), c 6 (by omega)⟩

/-- The slice of block r, of W.length writes, with room for cap: the call's own, holding W. -/
def Own (w : World) (r cap : Nat) (W : List Wr) : Prop := w.ownsRow 0 36 7 (.slice (some ⟨r, 0, none⟩) W.length cap) W.length (flat W)

theorem Own.block {w : World} {r cap : Nat} {W : List Wr} (h : Own w r cap W) : ∃ cur : Array Value, w.heap[r]? = some (.cells cur 36 (0, 0)) ∧ W.length ≤ cap ∧ cur.size = cap * 7 ∧ cur.toList.take (W.length * 7) = flat W := by
  rcases h.2 with ⟨h', _⟩ | ⟨g, c, cur, hv, _, hg, hnc, _, hcs, ht⟩
  · simp at h'
  · simp only [Value.slice.injEq, Option.some.injEq, Addr.mk.injEq, and_true, true_and] at hv
    obtain ⟨rfl, rfl⟩ := hv
    exact ⟨cur, hg, hnc, hcs, ht⟩
theorem Own.of {w : World} {r cap : Nat} {W : List Wr} {cur : Array Value} (hg : w.heap[r]? = some (.cells cur 36 (0, 0))) (hn : W.length ≤ cap) (hc : cap ≤ maxLen) (hs : cur.size = cap * 7) (ht : cur.toList.take (W.length * 7) = flat W) : Own w r cap W :=
  ⟨flat_length W, .inr ⟨r, cap, cur, rfl, Nat.zero_le _, hg, hn, hc, hs, ht⟩⟩
theorem Own.cap_le {w : World} {r cap : Nat} {W : List Wr} (h : Own w r cap W) : cap ≤ maxLen := by
  rcases h.2 with ⟨h', _⟩ | ⟨g, c, cur, hv, _, hg, hnc, hm, hcs, ht⟩
  · simp at h'
  · simp only [Value.slice.injEq, Option.some.injEq, Addr.mk.injEq, and_true, true_and] at hv
    obtain ⟨rfl, rfl⟩ := hv
    exact hm
theorem sits_of_take {cur : Array Value} {W : List Wr} (ht : cur.toList.take (W.length * 7) = flat W) {k : Nat} {x : Wr} (hx : W[k]? = some x) : Sits cur k x := by
  intro q hq
  have hk := (List.getElem?_eq_some_iff.1 hx).1
  have := flat_get W k x hx q hq
  rw [← ht, List.getElem?_take_of_lt (by omega)] at this
  simpa using this
theorem Own.rows {w : World} {r cap : Nat} {W : List Wr} (h : Own w r cap W) : Rows w r W := by
  obtain ⟨cur, hg, hn, hs, ht⟩ := h.block
  exact fun k x hx => (sits_of_take ht hx).at hg
theorem Own.lt {w : World} {r cap : Nat} {W : List Wr} (h : Own w r cap W) : r < w.heap.size := by
  obtain ⟨cur, hg, _⟩ := h.block
  exact (Array.getElem?_eq_some_iff.1 hg).1
theorem Own.same {w w' : World} {r cap : Nat} {W : List Wr} (h : Own w r cap W) (hb : w'.heap[r]? = w.heap[r]?) : Own w' r cap W := by
  obtain ⟨cur, hg, hn, hs, ht⟩ := h.block
  exact Own.of (hb.trans hg) hn h.cap_le hs ht
theorem Own.below {w w' : World} {r cap : Nat} {W : List Wr} (h : Own w r cap W) (hb : Below w.heap.size w w') : Own w' r cap W := h.same (hb.block r h.lt)
/-- No write, of the same row: what 'ws[:0]' owns. -/
theorem Own.none {w : World} {r cap : Nat} {W : List Wr} (h : Own w r cap W) : Own w r cap [] := by
  obtain ⟨cur, hg, hn, hs, ht⟩ := h.block
  exact Own.of hg (Nat.zero_le _) h.cap_le hs (by simp [flat])

theorem info36 : (Yba.prog.info? 36).map (fun i => (i.zero, i.size, i.bytes)) = some (some (.agg #[.int .i64 0, .string ByteArray.empty, .int .i64 0, .int .u64 0, .int .i64 0, .slice none 0 0, .int .u64 0]), 7, 80) := by kernel_rfl
theorem info65 : (Yba.prog.info? 65).map (fun i => (i.zero, i.size, i.bytes)) = some (some (.int .u32 0), 1, 4) := by kernel_rfl

theorem run_make34 (n : Nat) (hn : n ≤ 1024) (w : World) : (Instr.makeSlice 34 (.int .i64 (n : Int)) (.int .i64 (n : Int))).run Yba.prog w =
    .ok (.slice (some ⟨w.heap.size, 0, none⟩) n n) (w.alloc (.cells (madeCells #[.int .u32 0] n) 65)) := by
  obtain ⟨i, hi, hz0, hz1, hz2⟩ := info_parts info65
  have h := run_make (P := Yba.prog) w 34 65 i _ Yba.underlying34 hi hz0 .i64 .i64 n n (by omega) (by omega) (by rw [hz2]; omega) (by omega)
  rw [hz1] at h
  simpa [Value.cells] using h

/-- Block b is a clock in the making: n elements, of which the first k are l's. -/
def ClkTo (w : World) (b n : Nat) (l : List Nat) : Prop := ∃ cur : Array Value, w.heap[b]? = some (.cells cur 65 (0, 0)) ∧ cur.size = n ∧ l.length ≤ n ∧ ∀ j, j < l.length → cur[j]? = some (.int .u32 (el l j))

theorem ClkTo.start (w : World) (n : Nat) (z : Array Value) : ClkTo (w.alloc (.cells (madeCells z n) 65)) w.heap.size n [] :=
  ⟨_, heap_alloc_new w _, size_madeCells _ _, Nat.zero_le _, fun j h => absurd h (Nat.not_lt_zero _)⟩
theorem ClkTo.room {w : World} {b n : Nat} {l : List Nat} (h : ClkTo w b n l) (j : Nat) (hj : j < n) : (∃ v, w.cell? ⟨b, j, none⟩ = some v) ∧ w.frozen? ⟨b, j, none⟩ = false := by
  obtain ⟨cur, hg, hs, _⟩ := h
  exact ⟨⟨cur[j]'(by omega), by rw [cell_of_row w b j cur 65 (0, 0) hg]; exact Array.getElem?_eq_getElem _⟩, frozen_of_row w b j cur 65 hg⟩
theorem el_append_lt (l : List Nat) (a j : Nat) (h : j < l.length) : el (l ++ [a]) j = el l j := by
  simp [el, List.getD, List.getElem?_append_left h]
theorem el_append_at (l : List Nat) (a : Nat) : el (l ++ [a]) l.length = (a : Int) := by simp [el, List.getD]
theorem ClkTo.step {w : World} {b n : Nat} {l : List Nat} (h : ClkTo w b n l) (hk : l.length < n) (a : Nat) {k : Nat} (ek : k = l.length) {z : Int} (ez : z = (a : Int)) : ClkTo (w.setCell ⟨b, k, none⟩ (.int .u32 z)) b n (l ++ [a]) := by
  obtain ⟨cur, hg, hs, hl, hc⟩ := h
  subst ek ez
  refine ⟨_, heap_setCell_same w b _ cur 65 _ hg, by simpa using hs, by simp; omega, fun j hj => ?_⟩
  by_cases e : j = l.length
  · subst e
    rw [Array.getElem?_setIfInBounds_self_of_lt (by omega), el_append_at]
  · have : j < l.length := by simp at hj; omega
    rw [Array.getElem?_setIfInBounds_ne (by omega), el_append_lt _ _ _ this]
    exact hc j this
theorem ClkTo.done {w : World} {b n : Nat} {l : List Nat} (h : ClkTo w b n l) (hn : l.length = n) : Clk w b l := by
  obtain ⟨cur, hg, hs, hl, hc⟩ := h
  have e : cur = uc l := by
    apply Array.ext_getElem?
    intro j
    by_cases hj : j < l.length
    · rw [hc j hj, uc, List.getElem?_toArray, List.getElem?_map, List.getElem?_eq_getElem hj]
      simp [el, List.getD, List.getElem?_eq_getElem hj]
    · rw [Array.getElem?_eq_none (by omega), Array.getElem?_eq_none (by simp [uc]; omega)]
  subst e
  exact hg
theorem ClkTo.lt {w : World} {b n : Nat} {l : List Nat} (h : ClkTo w b n l) : b < w.heap.size := by
  obtain ⟨cur, hg, _⟩ := h
  exact (Array.getElem?_eq_some_iff.1 hg).1

/-! ### zzs2942aclock -/
def ByteRow (w : World) (a : Option Addr) (n : Nat) (zs : Nat → Int) : Prop :=
  n = 0 ∨ ∃ b off, a = some ⟨b, off, none⟩ ∧ b < w.heap.size ∧ ∀ k, k < n → w.cell? ⟨b, off + k, none⟩ = some (.int .u8 (zs k)) ∧ 0 ≤ zs k ∧ zs k ≤ 255

set_option maxRecDepth 20000 in
set_option maxHeartbeats 400000 in
theorem clock10 (a : Option Addr) (n c : Nat) (zs : Nat → Int) (w : World) (h : ByteRow w a n zs) (hn : n ≤ 1024) :
    Calls Yba.prog 10 #[.slice a n c] w fun e w' => ∃ cb cl, e = .returned (.slice (some ⟨cb, 0, none⟩) cl.length cl.length) ∧ Clk w' cb cl ∧ cl.length ≤ 1024 ∧ Below w.heap.size w w' := by
  have hmk := run_make34 n hn
  go_enter Yba.func10, Yba.ntmps10
  go_wp2
  go_loopw [4] (fun i wr => ∃ l : List Nat, l.length ≤ n ∧ i = .int .i64 (l.length : Int) ∧ ClkTo wr w.heap.size n l ∧ Below w.heap.size w wr) (fun i _ => n - (intOf i).toNat)
  case atStart => exact ⟨[], Nat.zero_le _, rfl, ClkTo.start _ _ _, (Below.refl _ _).alloc (Nat.le_refl _) _⟩
  case round =>
    obtain ⟨l, hk, rfl, hc, hb⟩ := hrel
    obtain ⟨k, hkl⟩ : ∃ k, k = l.length := ⟨_, rfl⟩
    have HK : Hid (k = l.length) := hkl
    rw [← hkl] at hk ⊢
    by_cases hlt : k < n
    · rcases h with h | ⟨b, off, rfl, hbl, hcell⟩
      · omega
      obtain ⟨g1, g2, g3⟩ := hcell k hlt
      have hcr : wr.cell? ⟨b, off + k, none⟩ = some (.int .u8 (zs k)) := (hb.cell (by exact hbl)).trans g1
      obtain ⟨⟨o1, ho1⟩, hf1⟩ := hc.room k hlt
      generalize zs k = z at *
      clear hcell g1 hkl hmk
      go_wp2
      go_roundw
      case rel => exact ⟨l ++ [(z % 4).toNat], by rw [List.length_append, ← HK.out]; simp; omega, by rw [List.length_append, ← HK.out]; simp, hc.step (by rw [← HK.out]; exact hlt) (z % 4).toNat HK.out (by omega), hb.setCell (Nat.le_refl _) _⟩
      case measure => simp [intOf]; omega
    · clear hmk hkl
      go_wp2
      go_ret
      have e : n = l.length := by have := HK.out; omega
      subst e
      exact ⟨w.heap.size, l, rfl, hc.done rfl, hn, hb⟩
end Go.Proofs.Ybulkbhxe.AMem
