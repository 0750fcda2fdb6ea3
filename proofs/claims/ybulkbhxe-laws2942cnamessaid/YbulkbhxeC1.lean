/-
  The walk of zzs2942cbuild (function 20): the parts that it lays.
-/
import Derived.Test.YbulkbhxeRows
import Derived.WalkKit
import Derived.ProofKit
import Derived.OpenShut
import Derived.ShutString
import Derived.ChangeOld
import Derived.Below
import Derived.Deep.QuietTactic
import Derived.BigQuiet
namespace Go.Proofs.Ybulkbhxe.CNames
open Go.ChangeShapes Go.WideShapes Go.ChangeAt Go.RowKit

theorem info63 : (Yba.prog.info? 63).map (fun i => (i.zero, i.size, i.bytes)) = some (some (.agg #[.string ByteArray.empty, .int .i64 0]), 2, 24) := by kernel_rfl

def StrRow (w : World) (a : Option Addr) (n : Nat) (ss : Nat → ByteArray) : Prop :=
  n = 0 ∨ ∃ b off, a = some ⟨b, off, none⟩ ∧ b < w.heap.size ∧ ∀ k, k < n → w.cell? ⟨b, off + k, none⟩ = some (.string (ss k))
def IntRow (w : World) (a : Option Addr) (n : Nat) (zs : Nat → Int) : Prop :=
  n = 0 ∨ ∃ b off, a = some ⟨b, off, none⟩ ∧ b < w.heap.size ∧ ∀ k, k < n → w.cell? ⟨b, off + k, none⟩ = some (.int .i64 (zs k))

/-- The kind that part j gets. -/
def kd (n : Nat) (zs : Nat → Int) (j : Nat) : Int := if n = 0 then 0 else zs (j % n)

/-- Block g holds n parts, of which the first k are as they are to be. -/
def Parts (w : World) (g n k : Nat) (ss : Nat → ByteArray) (zs : Nat → Int) : Prop :=
  ∃ cur : Array Value, w.heap[g]? = some (.cells cur 63 (0, 0)) ∧ cur.size = n * 2 ∧ ∀ j, j < k → cur[j * 2]? = some (.string (ss j)) ∧ cur[j * 2 + 1]? = some (.int .i64 (zs j))

theorem run_make58 (n : Nat) (hn : n ≤ 1024) (w : World) : (Instr.makeSlice 58 (.int .i64 (n : Int)) (.int .i64 (n : Int))).run Yba.prog w =
    .ok (.slice (some ⟨w.heap.size, 0, none⟩) n n) (w.alloc (.cells (madeCells #[.string ByteArray.empty, .int .i64 0] (n * 2)) 63)) := by
  obtain ⟨i, hi, hz0, hz1, hz2⟩ := info_parts info63
  have h := run_make (P := Yba.prog) w 58 63 i _ Yba.underlying58 hi hz0 .i64 .i64 n n (by omega) (by omega) (by rw [hz2]; omega) (by omega)
  rw [hz1] at h
  simpa [Value.cells] using h

theorem Parts.start (w : World) (n : Nat) (ss : Nat → ByteArray) (zs : Nat → Int) (z : Array Value) : Parts (w.alloc (.cells (madeCells z (n * 2)) 63)) w.heap.size n 0 ss zs :=
  ⟨_, heap_alloc_new w _, size_madeCells _ _, fun _ h => absurd h (Nat.not_lt_zero _)⟩

theorem Parts.room {w : World} {g n k : Nat} {ss : Nat → ByteArray} {zs : Nat → Int} (h : Parts w g n k ss zs) (j : Nat) (hj : j < n * 2) :
    (∃ v, w.cell? ⟨g, j, none⟩ = some v) ∧ w.frozen? ⟨g, j, none⟩ = false := by
  obtain ⟨cur, hg, hs, _⟩ := h
  exact ⟨⟨cur[j]'(by omega), by rw [cell_of_row w g j cur 63 (0, 0) hg]; exact Array.getElem?_eq_getElem _⟩, frozen_of_row w g j cur 63 hg⟩

theorem Parts.at {w : World} {g n k : Nat} {ss : Nat → ByteArray} {zs : Nat → Int} (h : Parts w g n k ss zs) (j : Nat) (hj : j < k) :
    w.cell? ⟨g, j * 2, none⟩ = some (.string (ss j)) ∧ w.cell? ⟨g, j * 2 + 1, none⟩ = some (.int .i64 (zs j)) := by
  obtain ⟨cur, hg, hs, hc⟩ := h
  rw [cell_of_row w g _ cur 63 (0, 0) hg, cell_of_row w g _ cur 63 (0, 0) hg]
  exact hc j hj

theorem Parts.step {w : World} {g n k : Nat} {ss : Nat → ByteArray} {zs : Nat → Int} (h : Parts w g n k ss zs) (hk : k < n) {s : ByteArray} {z : Int} (es : s = ss k) (ez : z = zs k) :
    Parts ((w.setCell ⟨g, k * 2, none⟩ (.string s)).setCell ⟨g, k * 2 + 1, none⟩ (.int .i64 z)) g n (k + 1) ss zs := by
  obtain ⟨cur, hg, hs, hc⟩ := h
  subst es ez
  refine ⟨_, heap_setCell_same _ g _ _ 63 _ (heap_setCell_same w g _ cur 63 _ hg), by simpa using hs, fun j hj => ?_⟩
  by_cases e : j = k
  · subst e
    constructor
    · rw [Array.getElem?_setIfInBounds_ne (by omega), Array.getElem?_setIfInBounds_self_of_lt (by omega)]
    · rw [Array.getElem?_setIfInBounds_self_of_lt (by simp; omega)]
  · have := hc j (by omega)
    constructor
    · rw [Array.getElem?_setIfInBounds_ne (by omega), Array.getElem?_setIfInBounds_ne (by omega)]; exact this.1
    · rw [Array.getElem?_setIfInBounds_ne (by omega), Array.getElem?_setIfInBounds_ne (by omega)]; exact this.2

set_option maxHeartbeats 400000 in
theorem build_any (a1 : Option Addr) (n c1 : Nat) (ss : Nat → ByteArray) (a2 : Option Addr) (n2 c2 : Nat) (zs : Nat → Int) (w : World)
    (h1 : StrRow w a1 n ss) (h2 : IntRow w a2 n2 zs) (hn : n ≤ 1024) (hn2 : n2 ≤ 9223372036854775807) :
    Calls Yba.prog 20 #[.slice a1 n c1, .slice a2 n2 c2] w fun e w' => e = .returned (.slice (some ⟨w.heap.size, 0, none⟩) n n) ∧ Parts w' w.heap.size n n ss (kd n2 zs) ∧ Below w.heap.size w w' := by
  have hmk := run_make58 n hn
  go_enter Yba.func20, Yba.ntmps20
  go_wp2
  go_loopw [6] (fun i wr => ∃ k : Nat, k ≤ n ∧ i = .int .i64 k ∧ Parts wr w.heap.size n k ss (kd n2 zs) ∧ Below w.heap.size w wr) (fun i _ => n - (intOf i).toNat)
  case atStart => exact ⟨0, Nat.zero_le _, rfl, Parts.start _ _ _ _ _, (Below.refl _ _).alloc (Nat.le_refl _) _⟩
  case round =>
    obtain ⟨k, hk, rfl, hp, hb⟩ := hrel
    by_cases hlt : k < n
    · rcases h1 with h1 | ⟨b, off, rfl, hbl, hc⟩
      · omega
      have hcr : wr.cell? ⟨b, off + k, none⟩ = some (.string (ss k)) := (hb.cell (by exact hbl)).trans (hc k hlt)
      clear hc
      obtain ⟨⟨o1, ho1⟩, hf1⟩ := hp.room (k * 2) (by omega)
      obtain ⟨⟨o2, ho2⟩, hf2⟩ := hp.room (k * 2 + 1) (by omega)
      by_cases hz : n2 = 0
      · subst hz
        go_wp2
        go_roundw
        case rel => exact ⟨k + 1, by omega, by go_num, hp.step hlt rfl (by simp [kd]), (hb.setCell (Nat.le_refl _) _).setCell (Nat.le_refl _) _⟩
        case measure => simp [intOf]; omega
      · rcases h2 with h2 | ⟨b', off', rfl, hbl', hc'⟩
        · omega
        have hm : k % n2 < n2 := Nat.mod_lt _ (by omega)
        have hcr' : wr.cell? ⟨b', off' + k % n2, none⟩ = some (.int .i64 (zs (k % n2))) := (hb.cell (by exact hbl')).trans (hc' _ hm)
        clear hc'
        go_wp2
        go_roundw
        case rel => exact ⟨k + 1, by omega, by go_num, hp.step hlt rfl (by simp [kd, hz]), (hb.setCell (Nat.le_refl _) _).setCell (Nat.le_refl _) _⟩
        case measure => simp [intOf]; omega
    · go_wp2
      go_ret
      have e : k = n := by omega
      subst e
      exact ⟨rfl, hp, hb⟩
end Go.Proofs.Ybulkbhxe.CNames
