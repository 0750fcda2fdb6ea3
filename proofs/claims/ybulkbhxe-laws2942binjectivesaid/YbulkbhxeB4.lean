/-
  The walk of LawS2942BInjective (function 6), a theorem a mode: it returns true, and writes nothing that was there.
-/
import Derived.Test.YbulkbhxeB3
namespace Go.Proofs.Ybulkbhxe.BVal
open Go.ChangeShapes Go.WideShapes Go.ChangeAt Go.RowKit
attribute [local go_sem ↓] Go.wp_at_zero Go.wp_at_succ

theorem ret_ne {a b : List UInt8} (h : ¬ a = b) : Ending.returned (.bool (!(a == b))) = .returned (.bool true) := by simp [h]

theorem below_drewN {B : Nat} {w w' : World} (h : Below B w w') (n : Nat) : Below B w (w'.drewN n) :=
  ⟨h.os, h.tape, h.output, h.size, h.block⟩

set_option maxRecDepth 20000 in
set_option maxHeartbeats 1000000 in
theorem inj0 (dep : Nat) (n l : Int) (s : ByteArray) (mode : Int) (d : Int) (t : ByteArray) (w : World) (hdep : (uv dep).length ≤ 10)
    (n1 : -9223372036854775808 ≤ n) (n2 : n ≤ 9223372036854775807) (l1 : -9223372036854775808 ≤ l) (l2 : l ≤ 9223372036854775807) (hs : s.size ≤ 4096) (ht : t.size ≤ 4096)
    (m0 : 0 ≤ mode) (m1 : mode < 256) (hm : mode % 5 = 0) :
    Calls Yba.prog 6 #[.int .u64 (dep : Int), .int .i64 n, .int .i64 l, .string s, .int .u8 mode, .int .i64 d, .string t] w fun e w' => e = .returned (.bool true) ∧ Below w.heap.size w w' := by
  go_enter Yba.func6, Yba.ntmps6
  go_wp2_with fail
  refine (val16 (fun k => k < w.heap.size + 2) (.slice none 0 0) [] n s l dep _ (Row.nil _ _) (by simp) (by simp) hs n1 n2 l1 l2 hdep).mono ?_
  rintro e w1 ⟨v1, rfl, hr1, hs1⟩
  have a0 : w1.cell? ⟨w.heap.size, 0, none⟩ = some (.int .i64 n) := (hs1.cell (by omega)).trans (by simp)
  have a1 : w1.cell? ⟨w.heap.size, 1, none⟩ = some (.string s) := (hs1.cell (by omega)).trans (by simp)
  have a2 : w1.cell? ⟨w.heap.size, 2, none⟩ = some (.int .i64 l) := (hs1.cell (by omega)).trans (by simp)
  have a3 : w1.cell? ⟨w.heap.size, 3, none⟩ = some (.int .u64 dep) := (hs1.cell (by omega)).trans (by simp)
  have b0 : w1.cell? ⟨w.heap.size + 1, 0, none⟩ = some (.int .i64 n) := (hs1.cell (by omega)).trans (by simp)
  have b1 : w1.cell? ⟨w.heap.size + 1, 1, none⟩ = some (.string s) := (hs1.cell (by omega)).trans (by simp)
  have b2 : w1.cell? ⟨w.heap.size + 1, 2, none⟩ = some (.int .i64 l) := (hs1.cell (by omega)).trans (by simp)
  have b3 : w1.cell? ⟨w.heap.size + 1, 3, none⟩ = some (.int .u64 dep) := (hs1.cell (by omega)).trans (by simp)
  have hz1 : w.heap.size + 2 ≤ w1.heap.size := by have := hs1.size; simpa using this
  have hb1 : Below w.heap.size w w1 := ⟨hs1.os, hs1.tape, hs1.output, by omega, fun k hk => (hs1.block k (by omega)).trans (by rw [Below.heap_alloc _ _ _ (by simp; omega), Below.heap_alloc _ _ _ (by omega)])⟩
  clear hs1
  go_wp2_with fail
  refine (val16 (fun k => k < w1.heap.size) (.slice none 0 0) [] n s l dep _ (Row.nil _ _) (fun _ h => h) (by simp) hs n1 n2 l1 l2 hdep).mono ?_
  rintro e w2 ⟨v2, rfl, hr2, hs2⟩
  have c0 := (hs2.cell (k := w.heap.size) (j := 0) (by omega)).trans a0
  have c1 := (hs2.cell (k := w.heap.size) (j := 1) (by omega)).trans a1
  have c2 := (hs2.cell (k := w.heap.size) (j := 2) (by omega)).trans a2
  have c3 := (hs2.cell (k := w.heap.size) (j := 3) (by omega)).trans a3
  have d0 := (hs2.cell (k := w.heap.size + 1) (j := 0) (by omega)).trans b0
  have d1 := (hs2.cell (k := w.heap.size + 1) (j := 1) (by omega)).trans b1
  have d2 := (hs2.cell (k := w.heap.size + 1) (j := 2) (by omega)).trans b2
  have d3 := (hs2.cell (k := w.heap.size + 1) (j := 3) (by omega)).trans b3
  have hb2 : Below w.heap.size w w2 := hb1.trans (hs2.below.mono (by omega))
  have hr1' := hr1.carry hs2
  rw [List.nil_append] at hr1' hr2
  clear a0 a1 a2 a3 b0 b1 b2 b3 hr1 hs2 hb1 hz1
  go_wp2_with fail
  go_quiet ((go_at_call 19; exact Calls.quiet_of_same (equal19 _ _ _ _ _ (run_string_row _ _ _ _ hr1') (run_string_row _ _ _ _ hr2))))
  go_wp2
  go_ret
  exact ⟨rfl, below_drewN hb2 nq⟩

set_option maxRecDepth 20000 in
set_option maxHeartbeats 1000000 in
theorem inj1e (dep : Nat) (n l : Int) (s : ByteArray) (mode : Int) (d : Int) (t : ByteArray) (w : World) (hdep : (uv dep).length ≤ 10)
    (n1 : -9223372036854775808 ≤ n) (n2 : n ≤ 9223372036854775807) (l1 : -9223372036854775808 ≤ l) (l2 : l ≤ 9223372036854775807) (hs : s.size ≤ 4096) (ht : t.size ≤ 4096)
    (m0 : 0 ≤ mode) (m1 : mode < 256) (hm : mode % 5 = 1) (D' : Nat) (hD : (uv D').length ≤ 10) (hx : bits .xor .u64 (dep : Int) (IntKind.u64.wrap d) = (D' : Int)) (hE : dep = D') :
    Calls Yba.prog 6 #[.int .u64 (dep : Int), .int .i64 n, .int .i64 l, .string s, .int .u8 mode, .int .i64 d, .string t] w fun e w' => e = .returned (.bool true) ∧ Below w.heap.size w w' := by
  subst hE
  go_enter Yba.func6, Yba.ntmps6
  go_wp2_with fail
  refine (val16 (fun k => k < w.heap.size + 2) (.slice none 0 0) [] n s l dep _ (Row.nil _ _) (by simp) (by simp) hs n1 n2 l1 l2 hdep).mono ?_
  rintro e w1 ⟨v1, rfl, hr1, hs1⟩
  have a0 : w1.cell? ⟨w.heap.size, 0, none⟩ = some (.int .i64 n) := (hs1.cell (by omega)).trans (by simp)
  have a1 : w1.cell? ⟨w.heap.size, 1, none⟩ = some (.string s) := (hs1.cell (by omega)).trans (by simp)
  have a2 : w1.cell? ⟨w.heap.size, 2, none⟩ = some (.int .i64 l) := (hs1.cell (by omega)).trans (by simp)
  have a3 : w1.cell? ⟨w.heap.size, 3, none⟩ = some (.int .u64 dep) := (hs1.cell (by omega)).trans (by simp)
  have b0 : w1.cell? ⟨w.heap.size + 1, 0, none⟩ = some (.int .i64 n) := (hs1.cell (by omega)).trans (by simp)
  have b1 : w1.cell? ⟨w.heap.size + 1, 1, none⟩ = some (.string s) := (hs1.cell (by omega)).trans (by simp)
  have b2 : w1.cell? ⟨w.heap.size + 1, 2, none⟩ = some (.int .i64 l) := (hs1.cell (by omega)).trans (by simp)
  have b3 : w1.cell? ⟨w.heap.size + 1, 3, none⟩ = some (.int .u64 dep) := (hs1.cell (by omega)).trans (by simp)
  have hz1 : w.heap.size + 2 ≤ w1.heap.size := by have := hs1.size; simpa using this
  have hb1 : Below w.heap.size w w1 := ⟨hs1.os, hs1.tape, hs1.output, by omega, fun k hk => (hs1.block k (by omega)).trans (by rw [Below.heap_alloc _ _ _ (by simp; omega), Below.heap_alloc _ _ _ (by omega)])⟩
  clear hs1
  go_wp2_with fail
  refine (val16 (fun k => k < w1.heap.size) (.slice none 0 0) [] n s l dep _ (Row.nil _ _) (fun _ h => h) (by simp) hs n1 n2 l1 l2 hdep).mono ?_
  rintro e w2 ⟨v2, rfl, hr2, hs2⟩
  have c0 := (hs2.cell (k := w.heap.size) (j := 0) (by omega)).trans a0
  have c1 := (hs2.cell (k := w.heap.size) (j := 1) (by omega)).trans a1
  have c2 := (hs2.cell (k := w.heap.size) (j := 2) (by omega)).trans a2
  have c3 := (hs2.cell (k := w.heap.size) (j := 3) (by omega)).trans a3
  have d0 := (hs2.cell (k := w.heap.size + 1) (j := 0) (by omega)).trans b0
  have d1 := (hs2.cell (k := w.heap.size + 1) (j := 1) (by omega)).trans b1
  have d2 := (hs2.cell (k := w.heap.size + 1) (j := 2) (by omega)).trans b2
  have d3 := (hs2.cell (k := w.heap.size + 1) (j := 3) (by omega)).trans b3
  have hb2 : Below w.heap.size w w2 := hb1.trans (hs2.below.mono (by omega))
  have hr1' := hr1.carry hs2
  rw [List.nil_append] at hr1' hr2
  clear a0 a1 a2 a3 b0 b1 b2 b3 hr1 hs2 hb1 hz1
  go_wp2_with fail
  go_quiet ((go_at_call 19; exact Calls.quiet_of_same (equal19 _ _ _ _ _ (run_string_row _ _ _ _ hr1') (run_string_row _ _ _ _ hr2))))
  go_wp2
  go_ret
  exact ⟨rfl, below_drewN hb2 nq⟩

set_option maxRecDepth 20000 in
set_option maxHeartbeats 1000000 in
theorem inj2e (dep : Nat) (n l : Int) (s : ByteArray) (mode : Int) (d : Int) (t : ByteArray) (w : World) (hdep : (uv dep).length ≤ 10)
    (n1 : -9223372036854775808 ≤ n) (n2 : n ≤ 9223372036854775807) (l1 : -9223372036854775808 ≤ l) (l2 : l ≤ 9223372036854775807) (hs : s.size ≤ 4096) (ht : t.size ≤ 4096)
    (m0 : 0 ≤ mode) (m1 : mode < 256) (hm : mode % 5 = 2) (N' : Int) (p1 : -9223372036854775808 ≤ N') (p2 : N' ≤ 9223372036854775807) (hx : wrap64 (n + d) = N') (hE : n = N') :
    Calls Yba.prog 6 #[.int .u64 (dep : Int), .int .i64 n, .int .i64 l, .string s, .int .u8 mode, .int .i64 d, .string t] w fun e w' => e = .returned (.bool true) ∧ Below w.heap.size w w' := by
  subst hE
  go_enter Yba.func6, Yba.ntmps6
  go_wp2_with fail
  refine (val16 (fun k => k < w.heap.size + 2) (.slice none 0 0) [] n s l dep _ (Row.nil _ _) (by simp) (by simp) hs n1 n2 l1 l2 hdep).mono ?_
  rintro e w1 ⟨v1, rfl, hr1, hs1⟩
  have a0 : w1.cell? ⟨w.heap.size, 0, none⟩ = some (.int .i64 n) := (hs1.cell (by omega)).trans (by simp)
  have a1 : w1.cell? ⟨w.heap.size, 1, none⟩ = some (.string s) := (hs1.cell (by omega)).trans (by simp)
  have a2 : w1.cell? ⟨w.heap.size, 2, none⟩ = some (.int .i64 l) := (hs1.cell (by omega)).trans (by simp)
  have a3 : w1.cell? ⟨w.heap.size, 3, none⟩ = some (.int .u64 dep) := (hs1.cell (by omega)).trans (by simp)
  have b0 : w1.cell? ⟨w.heap.size + 1, 0, none⟩ = some (.int .i64 n) := (hs1.cell (by omega)).trans (by simp)
  have b1 : w1.cell? ⟨w.heap.size + 1, 1, none⟩ = some (.string s) := (hs1.cell (by omega)).trans (by simp)
  have b2 : w1.cell? ⟨w.heap.size + 1, 2, none⟩ = some (.int .i64 l) := (hs1.cell (by omega)).trans (by simp)
  have b3 : w1.cell? ⟨w.heap.size + 1, 3, none⟩ = some (.int .u64 dep) := (hs1.cell (by omega)).trans (by simp)
  have hz1 : w.heap.size + 2 ≤ w1.heap.size := by have := hs1.size; simpa using this
  have hb1 : Below w.heap.size w w1 := ⟨hs1.os, hs1.tape, hs1.output, by omega, fun k hk => (hs1.block k (by omega)).trans (by rw [Below.heap_alloc _ _ _ (by simp; omega), Below.heap_alloc _ _ _ (by omega)])⟩
  clear hs1
  go_wp2_with fail
  refine (val16 (fun k => k < w1.heap.size) (.slice none 0 0) [] n s l dep _ (Row.nil _ _) (fun _ h => h) (by simp) hs n1 n2 l1 l2 hdep).mono ?_
  rintro e w2 ⟨v2, rfl, hr2, hs2⟩
  have c0 := (hs2.cell (k := w.heap.size) (j := 0) (by omega)).trans a0
  have c1 := (hs2.cell (k := w.heap.size) (j := 1) (by omega)).trans a1
  have c2 := (hs2.cell (k := w.heap.size) (j := 2) (by omega)).trans a2
  have c3 := (hs2.cell (k := w.heap.size) (j := 3) (by omega)).trans a3
  have d0 := (hs2.cell (k := w.heap.size + 1) (j := 0) (by omega)).trans b0
  have d1 := (hs2.cell (k := w.heap.size + 1) (j := 1) (by omega)).trans b1
  have d2 := (hs2.cell (k := w.heap.size + 1) (j := 2) (by omega)).trans b2
  have d3 := (hs2.cell (k := w.heap.size + 1) (j := 3) (by omega)).trans b3
  have hb2 : Below w.heap.size w w2 := hb1.trans (hs2.below.mono (by omega))
  have hr1' := hr1.carry hs2
  rw [List.nil_append] at hr1' hr2
  clear a0 a1 a2 a3 b0 b1 b2 b3 hr1 hs2 hb1 hz1
  go_wp2_with fail
  go_quiet ((go_at_call 19; exact Calls.quiet_of_same (equal19 _ _ _ _ _ (run_string_row _ _ _ _ hr1') (run_string_row _ _ _ _ hr2))))
  go_wp2
  go_ret
  exact ⟨rfl, below_drewN hb2 nq⟩

set_option maxRecDepth 20000 in
set_option maxHeartbeats 1000000 in
theorem inj3e (dep : Nat) (n l : Int) (s : ByteArray) (mode : Int) (d : Int) (t : ByteArray) (w : World) (hdep : (uv dep).length ≤ 10)
    (n1 : -9223372036854775808 ≤ n) (n2 : n ≤ 9223372036854775807) (l1 : -9223372036854775808 ≤ l) (l2 : l ≤ 9223372036854775807) (hs : s.size ≤ 4096) (ht : t.size ≤ 4096)
    (m0 : 0 ≤ mode) (m1 : mode < 256) (hm : mode % 5 = 3) (L' : Int) (p1 : -9223372036854775808 ≤ L') (p2 : L' ≤ 9223372036854775807) (hx : wrap64 (l + d) = L') (hE : l = L') :
    Calls Yba.prog 6 #[.int .u64 (dep : Int), .int .i64 n, .int .i64 l, .string s, .int .u8 mode, .int .i64 d, .string t] w fun e w' => e = .returned (.bool true) ∧ Below w.heap.size w w' := by
  subst hE
  go_enter Yba.func6, Yba.ntmps6
  go_wp2_with fail
  refine (val16 (fun k => k < w.heap.size + 2) (.slice none 0 0) [] n s l dep _ (Row.nil _ _) (by simp) (by simp) hs n1 n2 l1 l2 hdep).mono ?_
  rintro e w1 ⟨v1, rfl, hr1, hs1⟩
  have a0 : w1.cell? ⟨w.heap.size, 0, none⟩ = some (.int .i64 n) := (hs1.cell (by omega)).trans (by simp)
  have a1 : w1.cell? ⟨w.heap.size, 1, none⟩ = some (.string s) := (hs1.cell (by omega)).trans (by simp)
  have a2 : w1.cell? ⟨w.heap.size, 2, none⟩ = some (.int .i64 l) := (hs1.cell (by omega)).trans (by simp)
  have a3 : w1.cell? ⟨w.heap.size, 3, none⟩ = some (.int .u64 dep) := (hs1.cell (by omega)).trans (by simp)
  have b0 : w1.cell? ⟨w.heap.size + 1, 0, none⟩ = some (.int .i64 n) := (hs1.cell (by omega)).trans (by simp)
  have b1 : w1.cell? ⟨w.heap.size + 1, 1, none⟩ = some (.string s) := (hs1.cell (by omega)).trans (by simp)
  have b2 : w1.cell? ⟨w.heap.size + 1, 2, none⟩ = some (.int .i64 l) := (hs1.cell (by omega)).trans (by simp)
  have b3 : w1.cell? ⟨w.heap.size + 1, 3, none⟩ = some (.int .u64 dep) := (hs1.cell (by omega)).trans (by simp)
  have hz1 : w.heap.size + 2 ≤ w1.heap.size := by have := hs1.size; simpa using this
  have hb1 : Below w.heap.size w w1 := ⟨hs1.os, hs1.tape, hs1.output, by omega, fun k hk => (hs1.block k (by omega)).trans (by rw [Below.heap_alloc _ _ _ (by simp; omega), Below.heap_alloc _ _ _ (by omega)])⟩
  clear hs1
  go_wp2_with fail
  refine (val16 (fun k => k < w1.heap.size) (.slice none 0 0) [] n s l dep _ (Row.nil _ _) (fun _ h => h) (by simp) hs n1 n2 l1 l2 hdep).mono ?_
  rintro e w2 ⟨v2, rfl, hr2, hs2⟩
  have c0 := (hs2.cell (k := w.heap.size) (j := 0) (by omega)).trans a0
  have c1 := (hs2.cell (k := w.heap.size) (j := 1) (by omega)).trans a1
  have c2 := (hs2.cell (k := w.heap.size) (j := 2) (by omega)).trans a2
  have c3 := (hs2.cell (k := w.heap.size) (j := 3) (by omega)).trans a3
  have d0 := (hs2.cell (k := w.heap.size + 1) (j := 0) (by omega)).trans b0
  have d1 := (hs2.cell (k := w.heap.size + 1) (j := 1) (by omega)).trans b1
  have d2 := (hs2.cell (k := w.heap.size + 1) (j := 2) (by omega)).trans b2
  have d3 := (hs2.cell (k := w.heap.size + 1) (j := 3) (by omega)).trans b3
  have hb2 : Below w.heap.size w w2 := hb1.trans (hs2.below.mono (by omega))
  have hr1' := hr1.carry hs2
  rw [List.nil_append] at hr1' hr2
  clear a0 a1 a2 a3 b0 b1 b2 b3 hr1 hs2 hb1 hz1
  go_wp2_with fail
  go_quiet ((go_at_call 19; exact Calls.quiet_of_same (equal19 _ _ _ _ _ (run_string_row _ _ _ _ hr1') (run_string_row _ _ _ _ hr2))))
  go_wp2
  go_ret
  exact ⟨rfl, below_drewN hb2 nq⟩

set_option maxRecDepth 20000 in
set_option maxHeartbeats 1000000 in
theorem inj4e (dep : Nat) (n l : Int) (s : ByteArray) (mode : Int) (d : Int) (t : ByteArray) (w : World) (hdep : (uv dep).length ≤ 10)
    (n1 : -9223372036854775808 ≤ n) (n2 : n ≤ 9223372036854775807) (l1 : -9223372036854775808 ≤ l) (l2 : l ≤ 9223372036854775807) (hs : s.size ≤ 4096) (ht : t.size ≤ 4096)
    (m0 : 0 ≤ mode) (m1 : mode < 256) (hm : mode % 5 = 4) (hE : s = t) :
    Calls Yba.prog 6 #[.int .u64 (dep : Int), .int .i64 n, .int .i64 l, .string s, .int .u8 mode, .int .i64 d, .string t] w fun e w' => e = .returned (.bool true) ∧ Below w.heap.size w w' := by
  subst hE
  go_enter Yba.func6, Yba.ntmps6
  go_wp2_with fail
  refine (val16 (fun k => k < w.heap.size + 2) (.slice none 0 0) [] n s l dep _ (Row.nil _ _) (by simp) (by simp) hs n1 n2 l1 l2 hdep).mono ?_
  rintro e w1 ⟨v1, rfl, hr1, hs1⟩
  have a0 : w1.cell? ⟨w.heap.size, 0, none⟩ = some (.int .i64 n) := (hs1.cell (by omega)).trans (by simp)
  have a1 : w1.cell? ⟨w.heap.size, 1, none⟩ = some (.string s) := (hs1.cell (by omega)).trans (by simp)
  have a2 : w1.cell? ⟨w.heap.size, 2, none⟩ = some (.int .i64 l) := (hs1.cell (by omega)).trans (by simp)
  have a3 : w1.cell? ⟨w.heap.size, 3, none⟩ = some (.int .u64 dep) := (hs1.cell (by omega)).trans (by simp)
  have b0 : w1.cell? ⟨w.heap.size + 1, 0, none⟩ = some (.int .i64 n) := (hs1.cell (by omega)).trans (by simp)
  have b1 : w1.cell? ⟨w.heap.size + 1, 1, none⟩ = some (.string s) := (hs1.cell (by omega)).trans (by simp)
  have b2 : w1.cell? ⟨w.heap.size + 1, 2, none⟩ = some (.int .i64 l) := (hs1.cell (by omega)).trans (by simp)
  have b3 : w1.cell? ⟨w.heap.size + 1, 3, none⟩ = some (.int .u64 dep) := (hs1.cell (by omega)).trans (by simp)
  have hz1 : w.heap.size + 2 ≤ w1.heap.size := by have := hs1.size; simpa using this
  have hb1 : Below w.heap.size w w1 := ⟨hs1.os, hs1.tape, hs1.output, by omega, fun k hk => (hs1.block k (by omega)).trans (by rw [Below.heap_alloc _ _ _ (by simp; omega), Below.heap_alloc _ _ _ (by omega)])⟩
  clear hs1
  go_wp2_with fail
  refine (val16 (fun k => k < w1.heap.size) (.slice none 0 0) [] n s l dep _ (Row.nil _ _) (fun _ h => h) (by simp) hs n1 n2 l1 l2 hdep).mono ?_
  rintro e w2 ⟨v2, rfl, hr2, hs2⟩
  have c0 := (hs2.cell (k := w.heap.size) (j := 0) (by omega)).trans a0
  have c1 := (hs2.cell (k := w.heap.size) (j := 1) (by omega)).trans a1
  have c2 := (hs2.cell (k := w.heap.size) (j := 2) (by omega)).trans a2
  have c3 := (hs2.cell (k := w.heap.size) (j := 3) (by omega)).trans a3
  have d0 := (hs2.cell (k := w.heap.size + 1) (j := 0) (by omega)).trans b0
  have d1 := (hs2.cell (k := w.heap.size + 1) (j := 1) (by omega)).trans b1
  have d2 := (hs2.cell (k := w.heap.size + 1) (j := 2) (by omega)).trans b2
  have d3 := (hs2.cell (k := w.heap.size + 1) (j := 3) (by omega)).trans b3
  have hb2 : Below w.heap.size w w2 := hb1.trans (hs2.below.mono (by omega))
  have hr1' := hr1.carry hs2
  rw [List.nil_append] at hr1' hr2
  clear a0 a1 a2 a3 b0 b1 b2 b3 hr1 hs2 hb1 hz1
  go_wp2_with fail
  go_quiet ((go_at_call 19; exact Calls.quiet_of_same (equal19 _ _ _ _ _ (run_string_row _ _ _ _ hr1') (run_string_row _ _ _ _ hr2))))
  go_wp2
  go_ret
  exact ⟨rfl, below_drewN hb2 nq⟩

set_option maxRecDepth 20000 in
set_option maxHeartbeats 1000000 in
theorem inj1n (dep : Nat) (n l : Int) (s : ByteArray) (mode : Int) (d : Int) (t : ByteArray) (w : World) (hdep : (uv dep).length ≤ 10)
    (n1 : -9223372036854775808 ≤ n) (n2 : n ≤ 9223372036854775807) (l1 : -9223372036854775808 ≤ l) (l2 : l ≤ 9223372036854775807) (hs : s.size ≤ 4096) (ht : t.size ≤ 4096)
    (m0 : 0 ≤ mode) (m1 : mode < 256) (hm : mode % 5 = 1) (D' : Nat) (hD : (uv D').length ≤ 10) (hx : bits .xor .u64 (dep : Int) (IntKind.u64.wrap d) = (D' : Int)) (hE : ¬ (dep : Int) = (D' : Int)) :
    Calls Yba.prog 6 #[.int .u64 (dep : Int), .int .i64 n, .int .i64 l, .string s, .int .u8 mode, .int .i64 d, .string t] w fun e w' => e = .returned (.bool true) ∧ Below w.heap.size w w' := by
  go_enter Yba.func6, Yba.ntmps6
  go_wp2_with fail
  refine (val16 (fun k => k < w.heap.size + 2) (.slice none 0 0) [] n s l dep _ (Row.nil _ _) (by simp) (by simp) hs n1 n2 l1 l2 hdep).mono ?_
  rintro e w1 ⟨v1, rfl, hr1, hs1⟩
  have a0 : w1.cell? ⟨w.heap.size, 0, none⟩ = some (.int .i64 n) := (hs1.cell (by omega)).trans (by simp)
  have a1 : w1.cell? ⟨w.heap.size, 1, none⟩ = some (.string s) := (hs1.cell (by omega)).trans (by simp)
  have a2 : w1.cell? ⟨w.heap.size, 2, none⟩ = some (.int .i64 l) := (hs1.cell (by omega)).trans (by simp)
  have a3 : w1.cell? ⟨w.heap.size, 3, none⟩ = some (.int .u64 dep) := (hs1.cell (by omega)).trans (by simp)
  have b0 : w1.cell? ⟨w.heap.size + 1, 0, none⟩ = some (.int .i64 n) := (hs1.cell (by omega)).trans (by simp)
  have b1 : w1.cell? ⟨w.heap.size + 1, 1, none⟩ = some (.string s) := (hs1.cell (by omega)).trans (by simp)
  have b2 : w1.cell? ⟨w.heap.size + 1, 2, none⟩ = some (.int .i64 l) := (hs1.cell (by omega)).trans (by simp)
  have b3 : w1.cell? ⟨w.heap.size + 1, 3, none⟩ = some (.int .u64 D') := (hs1.cell (by omega)).trans (by simp)
  have hz1 : w.heap.size + 2 ≤ w1.heap.size := by have := hs1.size; simpa using this
  have hb1 : Below w.heap.size w w1 := ⟨hs1.os, hs1.tape, hs1.output, by omega, fun k hk => (hs1.block k (by omega)).trans (by rw [Below.heap_alloc _ _ _ (by simp; omega), Below.heap_alloc _ _ _ (by omega)])⟩
  clear hs1
  go_wp2_with fail
  refine (val16 (fun k => k < w1.heap.size) (.slice none 0 0) [] n s l D' _ (Row.nil _ _) (fun _ h => h) (by simp) hs n1 n2 l1 l2 hD).mono ?_
  rintro e w2 ⟨v2, rfl, hr2, hs2⟩
  have c0 := (hs2.cell (k := w.heap.size) (j := 0) (by omega)).trans a0
  have c1 := (hs2.cell (k := w.heap.size) (j := 1) (by omega)).trans a1
  have c2 := (hs2.cell (k := w.heap.size) (j := 2) (by omega)).trans a2
  have c3 := (hs2.cell (k := w.heap.size) (j := 3) (by omega)).trans a3
  have d0 := (hs2.cell (k := w.heap.size + 1) (j := 0) (by omega)).trans b0
  have d1 := (hs2.cell (k := w.heap.size + 1) (j := 1) (by omega)).trans b1
  have d2 := (hs2.cell (k := w.heap.size + 1) (j := 2) (by omega)).trans b2
  have d3 := (hs2.cell (k := w.heap.size + 1) (j := 3) (by omega)).trans b3
  have hb2 : Below w.heap.size w w2 := hb1.trans (hs2.below.mono (by omega))
  have hr1' := hr1.carry hs2
  rw [List.nil_append] at hr1' hr2
  clear a0 a1 a2 a3 b0 b1 b2 b3 hr1 hs2 hb1 hz1
  go_wp2_with fail
  go_quiet ((go_at_call 19; exact Calls.quiet_of_same (equal19 _ _ _ _ _ (run_string_row _ _ _ _ hr1') (run_string_row _ _ _ _ hr2))))
  go_wp2
  go_ret
  exact ⟨ret_ne (fun h => hE (congrArg Nat.cast (enc_inj h).1)), below_drewN hb2 nq⟩

set_option maxRecDepth 20000 in
set_option maxHeartbeats 1000000 in
theorem inj2n (dep : Nat) (n l : Int) (s : ByteArray) (mode : Int) (d : Int) (t : ByteArray) (w : World) (hdep : (uv dep).length ≤ 10)
    (n1 : -9223372036854775808 ≤ n) (n2 : n ≤ 9223372036854775807) (l1 : -9223372036854775808 ≤ l) (l2 : l ≤ 9223372036854775807) (hs : s.size ≤ 4096) (ht : t.size ≤ 4096)
    (m0 : 0 ≤ mode) (m1 : mode < 256) (hm : mode % 5 = 2) (N' : Int) (p1 : -9223372036854775808 ≤ N') (p2 : N' ≤ 9223372036854775807) (hx : wrap64 (n + d) = N') (hE : ¬ n = N') :
    Calls Yba.prog 6 #[.int .u64 (dep : Int), .int .i64 n, .int .i64 l, .string s, .int .u8 mode, .int .i64 d, .string t] w fun e w' => e = .returned (.bool true) ∧ Below w.heap.size w w' := by
  go_enter Yba.func6, Yba.ntmps6
  go_wp2_with fail
  refine (val16 (fun k => k < w.heap.size + 2) (.slice none 0 0) [] n s l dep _ (Row.nil _ _) (by simp) (by simp) hs n1 n2 l1 l2 hdep).mono ?_
  rintro e w1 ⟨v1, rfl, hr1, hs1⟩
  have a0 : w1.cell? ⟨w.heap.size, 0, none⟩ = some (.int .i64 n) := (hs1.cell (by omega)).trans (by simp)
  have a1 : w1.cell? ⟨w.heap.size, 1, none⟩ = some (.string s) := (hs1.cell (by omega)).trans (by simp)
  have a2 : w1.cell? ⟨w.heap.size, 2, none⟩ = some (.int .i64 l) := (hs1.cell (by omega)).trans (by simp)
  have a3 : w1.cell? ⟨w.heap.size, 3, none⟩ = some (.int .u64 dep) := (hs1.cell (by omega)).trans (by simp)
  have b0 : w1.cell? ⟨w.heap.size + 1, 0, none⟩ = some (.int .i64 N') := (hs1.cell (by omega)).trans (by simp)
  have b1 : w1.cell? ⟨w.heap.size + 1, 1, none⟩ = some (.string s) := (hs1.cell (by omega)).trans (by simp)
  have b2 : w1.cell? ⟨w.heap.size + 1, 2, none⟩ = some (.int .i64 l) := (hs1.cell (by omega)).trans (by simp)
  have b3 : w1.cell? ⟨w.heap.size + 1, 3, none⟩ = some (.int .u64 dep) := (hs1.cell (by omega)).trans (by simp)
  have hz1 : w.heap.size + 2 ≤ w1.heap.size := by have := hs1.size; simpa using this
  have hb1 : Below w.heap.size w w1 := ⟨hs1.os, hs1.tape, hs1.output, by omega, fun k hk => (hs1.block k (by omega)).trans (by rw [Below.heap_alloc _ _ _ (by simp; omega), Below.heap_alloc _ _ _ (by omega)])⟩
  clear hs1
  go_wp2_with fail
  refine (val16 (fun k => k < w1.heap.size) (.slice none 0 0) [] N' s l dep _ (Row.nil _ _) (fun _ h => h) (by simp) hs p1 p2 l1 l2 hdep).mono ?_
  rintro e w2 ⟨v2, rfl, hr2, hs2⟩
  have c0 := (hs2.cell (k := w.heap.size) (j := 0) (by omega)).trans a0
  have c1 := (hs2.cell (k := w.heap.size) (j := 1) (by omega)).trans a1
  have c2 := (hs2.cell (k := w.heap.size) (j := 2) (by omega)).trans a2
  have c3 := (hs2.cell (k := w.heap.size) (j := 3) (by omega)).trans a3
  have d0 := (hs2.cell (k := w.heap.size + 1) (j := 0) (by omega)).trans b0
  have d1 := (hs2.cell (k := w.heap.size + 1) (j := 1) (by omega)).trans b1
  have d2 := (hs2.cell (k := w.heap.size + 1) (j := 2) (by omega)).trans b2
  have d3 := (hs2.cell (k := w.heap.size + 1) (j := 3) (by omega)).trans b3
  have hb2 : Below w.heap.size w w2 := hb1.trans (hs2.below.mono (by omega))
  have hr1' := hr1.carry hs2
  rw [List.nil_append] at hr1' hr2
  clear a0 a1 a2 a3 b0 b1 b2 b3 hr1 hs2 hb1 hz1
  go_wp2_with fail
  go_quiet ((go_at_call 19; exact Calls.quiet_of_same (equal19 _ _ _ _ _ (run_string_row _ _ _ _ hr1') (run_string_row _ _ _ _ hr2))))
  go_wp2
  go_ret
  exact ⟨ret_ne (fun h => hE ((enc_inj h).2.1)), below_drewN hb2 nq⟩

set_option maxRecDepth 20000 in
set_option maxHeartbeats 1000000 in
theorem inj3n (dep : Nat) (n l : Int) (s : ByteArray) (mode : Int) (d : Int) (t : ByteArray) (w : World) (hdep : (uv dep).length ≤ 10)
    (n1 : -9223372036854775808 ≤ n) (n2 : n ≤ 9223372036854775807) (l1 : -9223372036854775808 ≤ l) (l2 : l ≤ 9223372036854775807) (hs : s.size ≤ 4096) (ht : t.size ≤ 4096)
    (m0 : 0 ≤ mode) (m1 : mode < 256) (hm : mode % 5 = 3) (L' : Int) (p1 : -9223372036854775808 ≤ L') (p2 : L' ≤ 9223372036854775807) (hx : wrap64 (l + d) = L') (hE : ¬ l = L') :
    Calls Yba.prog 6 #[.int .u64 (dep : Int), .int .i64 n, .int .i64 l, .string s, .int .u8 mode, .int .i64 d, .string t] w fun e w' => e = .returned (.bool true) ∧ Below w.heap.size w w' := by
  go_enter Yba.func6, Yba.ntmps6
  go_wp2_with fail
  refine (val16 (fun k => k < w.heap.size + 2) (.slice none 0 0) [] n s l dep _ (Row.nil _ _) (by simp) (by simp) hs n1 n2 l1 l2 hdep).mono ?_
  rintro e w1 ⟨v1, rfl, hr1, hs1⟩
  have a0 : w1.cell? ⟨w.heap.size, 0, none⟩ = some (.int .i64 n) := (hs1.cell (by omega)).trans (by simp)
  have a1 : w1.cell? ⟨w.heap.size, 1, none⟩ = some (.string s) := (hs1.cell (by omega)).trans (by simp)
  have a2 : w1.cell? ⟨w.heap.size, 2, none⟩ = some (.int .i64 l) := (hs1.cell (by omega)).trans (by simp)
  have a3 : w1.cell? ⟨w.heap.size, 3, none⟩ = some (.int .u64 dep) := (hs1.cell (by omega)).trans (by simp)
  have b0 : w1.cell? ⟨w.heap.size + 1, 0, none⟩ = some (.int .i64 n) := (hs1.cell (by omega)).trans (by simp)
  have b1 : w1.cell? ⟨w.heap.size + 1, 1, none⟩ = some (.string s) := (hs1.cell (by omega)).trans (by simp)
  have b2 : w1.cell? ⟨w.heap.size + 1, 2, none⟩ = some (.int .i64 L') := (hs1.cell (by omega)).trans (by simp)
  have b3 : w1.cell? ⟨w.heap.size + 1, 3, none⟩ = some (.int .u64 dep) := (hs1.cell (by omega)).trans (by simp)
  have hz1 : w.heap.size + 2 ≤ w1.heap.size := by have := hs1.size; simpa using this
  have hb1 : Below w.heap.size w w1 := ⟨hs1.os, hs1.tape, hs1.output, by omega, fun k hk => (hs1.block k (by omega)).trans (by rw [Below.heap_alloc _ _ _ (by simp; omega), Below.heap_alloc _ _ _ (by omega)])⟩
  clear hs1
  go_wp2_with fail
  refine (val16 (fun k => k < w1.heap.size) (.slice none 0 0) [] n s L' dep _ (Row.nil _ _) (fun _ h => h) (by simp) hs n1 n2 p1 p2 hdep).mono ?_
  rintro e w2 ⟨v2, rfl, hr2, hs2⟩
  have c0 := (hs2.cell (k := w.heap.size) (j := 0) (by omega)).trans a0
  have c1 := (hs2.cell (k := w.heap.size) (j := 1) (by omega)).trans a1
  have c2 := (hs2.cell (k := w.heap.size) (j := 2) (by omega)).trans a2
  have c3 := (hs2.cell (k := w.heap.size) (j := 3) (by omega)).trans a3
  have d0 := (hs2.cell (k := w.heap.size + 1) (j := 0) (by omega)).trans b0
  have d1 := (hs2.cell (k := w.heap.size + 1) (j := 1) (by omega)).trans b1
  have d2 := (hs2.cell (k := w.heap.size + 1) (j := 2) (by omega)).trans b2
  have d3 := (hs2.cell (k := w.heap.size + 1) (j := 3) (by omega)).trans b3
  have hb2 : Below w.heap.size w w2 := hb1.trans (hs2.below.mono (by omega))
  have hr1' := hr1.carry hs2
  rw [List.nil_append] at hr1' hr2
  clear a0 a1 a2 a3 b0 b1 b2 b3 hr1 hs2 hb1 hz1
  go_wp2_with fail
  go_quiet ((go_at_call 19; exact Calls.quiet_of_same (equal19 _ _ _ _ _ (run_string_row _ _ _ _ hr1') (run_string_row _ _ _ _ hr2))))
  go_wp2
  go_ret
  exact ⟨ret_ne (fun h => hE ((enc_inj h).2.2.1)), below_drewN hb2 nq⟩

set_option maxRecDepth 20000 in
set_option maxHeartbeats 1000000 in
theorem inj4n (dep : Nat) (n l : Int) (s : ByteArray) (mode : Int) (d : Int) (t : ByteArray) (w : World) (hdep : (uv dep).length ≤ 10)
    (n1 : -9223372036854775808 ≤ n) (n2 : n ≤ 9223372036854775807) (l1 : -9223372036854775808 ≤ l) (l2 : l ≤ 9223372036854775807) (hs : s.size ≤ 4096) (ht : t.size ≤ 4096)
    (m0 : 0 ≤ mode) (m1 : mode < 256) (hm : mode % 5 = 4) (hE : ¬ s.toList = t.toList) :
    Calls Yba.prog 6 #[.int .u64 (dep : Int), .int .i64 n, .int .i64 l, .string s, .int .u8 mode, .int .i64 d, .string t] w fun e w' => e = .returned (.bool true) ∧ Below w.heap.size w w' := by
  go_enter Yba.func6, Yba.ntmps6
  go_wp2_with fail
  refine (val16 (fun k => k < w.heap.size + 2) (.slice none 0 0) [] n s l dep _ (Row.nil _ _) (by simp) (by simp) hs n1 n2 l1 l2 hdep).mono ?_
  rintro e w1 ⟨v1, rfl, hr1, hs1⟩
  have a0 : w1.cell? ⟨w.heap.size, 0, none⟩ = some (.int .i64 n) := (hs1.cell (by omega)).trans (by simp)
  have a1 : w1.cell? ⟨w.heap.size, 1, none⟩ = some (.string s) := (hs1.cell (by omega)).trans (by simp)
  have a2 : w1.cell? ⟨w.heap.size, 2, none⟩ = some (.int .i64 l) := (hs1.cell (by omega)).trans (by simp)
  have a3 : w1.cell? ⟨w.heap.size, 3, none⟩ = some (.int .u64 dep) := (hs1.cell (by omega)).trans (by simp)
  have b0 : w1.cell? ⟨w.heap.size + 1, 0, none⟩ = some (.int .i64 n) := (hs1.cell (by omega)).trans (by simp)
  have b1 : w1.cell? ⟨w.heap.size + 1, 1, none⟩ = some (.string t) := (hs1.cell (by omega)).trans (by simp)
  have b2 : w1.cell? ⟨w.heap.size + 1, 2, none⟩ = some (.int .i64 l) := (hs1.cell (by omega)).trans (by simp)
  have b3 : w1.cell? ⟨w.heap.size + 1, 3, none⟩ = some (.int .u64 dep) := (hs1.cell (by omega)).trans (by simp)
  have hz1 : w.heap.size + 2 ≤ w1.heap.size := by have := hs1.size; simpa using this
  have hb1 : Below w.heap.size w w1 := ⟨hs1.os, hs1.tape, hs1.output, by omega, fun k hk => (hs1.block k (by omega)).trans (by rw [Below.heap_alloc _ _ _ (by simp; omega), Below.heap_alloc _ _ _ (by omega)])⟩
  clear hs1
  go_wp2_with fail
  refine (val16 (fun k => k < w1.heap.size) (.slice none 0 0) [] n t l dep _ (Row.nil _ _) (fun _ h => h) (by simp) ht n1 n2 l1 l2 hdep).mono ?_
  rintro e w2 ⟨v2, rfl, hr2, hs2⟩
  have c0 := (hs2.cell (k := w.heap.size) (j := 0) (by omega)).trans a0
  have c1 := (hs2.cell (k := w.heap.size) (j := 1) (by omega)).trans a1
  have c2 := (hs2.cell (k := w.heap.size) (j := 2) (by omega)).trans a2
  have c3 := (hs2.cell (k := w.heap.size) (j := 3) (by omega)).trans a3
  have d0 := (hs2.cell (k := w.heap.size + 1) (j := 0) (by omega)).trans b0
  have d1 := (hs2.cell (k := w.heap.size + 1) (j := 1) (by omega)).trans b1
  have d2 := (hs2.cell (k := w.heap.size + 1) (j := 2) (by omega)).trans b2
  have d3 := (hs2.cell (k := w.heap.size + 1) (j := 3) (by omega)).trans b3
  have hb2 : Below w.heap.size w w2 := hb1.trans (hs2.below.mono (by omega))
  have hr1' := hr1.carry hs2
  rw [List.nil_append] at hr1' hr2
  clear a0 a1 a2 a3 b0 b1 b2 b3 hr1 hs2 hb1 hz1
  go_wp2_with fail
  go_quiet ((go_at_call 19; exact Calls.quiet_of_same (equal19 _ _ _ _ _ (run_string_row _ _ _ _ hr1') (run_string_row _ _ _ _ hr2))))
  go_wp2
  go_ret
  exact ⟨ret_ne (fun h => hE (by rw [ByteArray.toList_eq, ByteArray.toList_eq]; exact (enc_inj h).2.2.2)), below_drewN hb2 nq⟩
end Go.Proofs.Ybulkbhxe.BVal
