/-
  The walk of partNames (function 21): the names that it lays.
-/
import Derived.Test.YbulkbhxeC1
namespace Go.Proofs.Ybulkbhxe.CNames
open Go.ChangeShapes Go.WideShapes Go.ChangeAt Go.RowKit

theorem info9 : (Yba.prog.info? 9).map (fun i => (i.zero, i.size, i.bytes)) = some (some (.string ByteArray.empty), 1, 16) := by kernel_rfl

theorem run_make56 (n : Nat) (hn : n ≤ 1024) (w : World) : (Instr.makeSlice 56 (.int .i64 (n : Int)) (.int .i64 (n : Int))).run Yba.prog w =
    .ok (.slice (some ⟨w.heap.size, 0, none⟩) n n) (w.alloc (.cells (madeCells #[.string ByteArray.empty] n) 9)) := by
  obtain ⟨i, hi, hz0, hz1, hz2⟩ := info_parts info9
  have h := run_make (P := Yba.prog) w 56 9 i _ Yba.underlying56 hi hz0 .i64 .i64 n n (by omega) (by omega) (by rw [hz2]; omega) (by omega)
  rw [hz1] at h
  simpa [Value.cells] using h

/-- Block g holds n strings, of which the first k are the name followed by a part's path. -/
def Names (w : World) (g n k : Nat) (s : ByteArray) (ss : Nat → ByteArray) : Prop :=
  ∃ cur : Array Value, w.heap[g]? = some (.cells cur 9 (0, 0)) ∧ cur.size = n ∧ ∀ j, j < k → cur[j]? = some (.string (s ++ ss j))

theorem Names.start (w : World) (n : Nat) (s : ByteArray) (ss : Nat → ByteArray) (z : Array Value) : Names (w.alloc (.cells (madeCells z n) 9)) w.heap.size n 0 s ss :=
  ⟨_, heap_alloc_new w _, size_madeCells _ _, fun _ h => absurd h (Nat.not_lt_zero _)⟩

theorem Names.lt {w : World} {g n k : Nat} {s : ByteArray} {ss : Nat → ByteArray} (h : Names w g n k s ss) : g < w.heap.size := by
  obtain ⟨cur, hg, _⟩ := h
  exact (Array.getElem?_eq_some_iff.1 hg).1

theorem Names.room {w : World} {g n k : Nat} {s : ByteArray} {ss : Nat → ByteArray} (h : Names w g n k s ss) (j : Nat) (hj : j < n) :
    (∃ v, w.cell? ⟨g, j, none⟩ = some v) ∧ w.frozen? ⟨g, j, none⟩ = false := by
  obtain ⟨cur, hg, hs, _⟩ := h
  exact ⟨⟨cur[j]'(by omega), by rw [cell_of_row w g j cur 9 (0, 0) hg]; exact Array.getElem?_eq_getElem _⟩, frozen_of_row w g j cur 9 hg⟩

theorem Names.at {w : World} {g n k : Nat} {s : ByteArray} {ss : Nat → ByteArray} (h : Names w g n k s ss) (j : Nat) (hj : j < k) :
    w.cell? ⟨g, j, none⟩ = some (.string (s ++ ss j)) := by
  obtain ⟨cur, hg, hs, hc⟩ := h
  rw [cell_of_row w g _ cur 9 (0, 0) hg]
  exact hc j hj

theorem Names.step {w : World} {g n k : Nat} {s : ByteArray} {ss : Nat → ByteArray} (h : Names w g n k s ss) (hk : k < n) :
    Names (w.setCell ⟨g, k, none⟩ (.string (s ++ ss k))) g n (k + 1) s ss := by
  obtain ⟨cur, hg, hs, hc⟩ := h
  refine ⟨_, heap_setCell_same w g _ cur 9 _ hg, by simpa using hs, fun j hj => ?_⟩
  by_cases e : j = k
  · subst e
    rw [Array.getElem?_setIfInBounds_self_of_lt (by omega)]
  · rw [Array.getElem?_setIfInBounds_ne (by omega)]; exact hc j (by omega)

theorem Names.alloc {w : World} {g n k : Nat} {s : ByteArray} {ss : Nat → ByteArray} (h : Names w g n k s ss) (o : Obj) : Names (w.alloc o) g n k s ss := by
  have hlt := h.lt
  obtain ⟨cur, hg, hs, hc⟩ := h
  exact ⟨cur, by rw [Below.heap_alloc w o g hlt]; exact hg, hs, hc⟩

theorem Names.other {w : World} {g n k : Nat} {s : ByteArray} {ss : Nat → ByteArray} (h : Names w g n k s ss) (a : Addr) (ha : g ≠ a.block) (v : Value) : Names (w.setCell a v) g n k s ss := by
  obtain ⟨cur, hg, hs, hc⟩ := h
  exact ⟨cur, by rw [heap_setCell_other w a g v ha]; exact hg, hs, hc⟩

set_option maxHeartbeats 400000 in
theorem names_any (s : ByteArray) (g n : Nat) (ss : Nat → ByteArray) (zs : Nat → Int) (w : World)
    (hp : Parts w g n n ss zs) (hg : g < w.heap.size) (hn : n ≤ 1024) (hs : s.size ≤ 1048576) (hss : ∀ k, k < n → (ss k).size ≤ 1048576) :
    Calls Yba.prog 21 #[.string s, .slice (some ⟨g, 0, none⟩) n n] w fun e w' => e = .returned (.slice (some ⟨w.heap.size, 0, none⟩) n n) ∧ Names w' w.heap.size n n s ss ∧ Below w.heap.size w w' := by
  have hmk := run_make56 n hn
  go_enter Yba.func21, Yba.ntmps21
  go_wp2
  go_loopw [13] (fun i wr => ∃ k : Nat, k ≤ n ∧ i = .int .i64 k ∧ Names wr w.heap.size n k s ss ∧ Below w.heap.size w wr) (fun i _ => n - (intOf i).toNat)
  case atStart => exact ⟨0, Nat.zero_le _, rfl, Names.start _ _ _ _ _, (Below.refl _ _).alloc (Nat.le_refl _) _⟩
  case round =>
    obtain ⟨k, hk, rfl, hq, hb⟩ := hrel
    by_cases hlt : k < n
    · have hc1 : wr.cell? ⟨g, k * 2, none⟩ = some (.string (ss k)) := (hb.cell (by exact hg)).trans (hp.at k hlt).1
      have hc2 : wr.cell? ⟨g, k * 2 + 1, none⟩ = some (.int .i64 (zs k)) := (hb.cell (by exact hg)).trans (hp.at k hlt).2
      obtain ⟨⟨o1, ho1⟩, hf1⟩ := hq.room k hlt
      have hql := hq.lt
      have hsk := hss k hlt
      go_wp2
      go_roundw
      case rel => exact ⟨k + 1, by omega, by go_num, (hq.step hlt).alloc _, (hb.setCell (Nat.le_refl _) _).alloc (by simp [World.setCell]; omega) _⟩
      case measure => simp [intOf]; omega
    · go_wp2
      go_ret
      have e : k = n := by omega
      subst e
      exact ⟨rfl, hq, hb⟩
end Go.Proofs.Ybulkbhxe.CNames
