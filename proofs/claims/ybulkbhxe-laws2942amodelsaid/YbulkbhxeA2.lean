/-
  The walks of the functions that take writes by value: zzs2942aprec, zzs2942abef, zzs2942aeq, zzs2942aeqs (functions 27, 26, 15, 14).
-/
import Derived.Test.YbulkbhxeA1
namespace Go.Proofs.Ybulkbhxe.AMem
open Go.ChangeShapes Go.WideShapes Go.ChangeAt Go.RowKit
set_option linter.unusedVariables false
attribute [local go_sem ↓] Go.wp_at_zero Go.wp_at_succ

theorem Clk.lt {w : World} {b : Nat} {l : List Nat} (h : Clk w b l) : b < w.heap.size := (Array.getElem?_eq_some_iff.1 h).1
theorem Clk.below {w w' : World} {b : Nat} {l : List Nat} (h : Clk w b l) (hb : Below w.heap.size w w') : Clk w' b l := (hb.block b h.lt).trans h
theorem Good.below {w w' : World} {x : Wr} (h : Good w x) (hb : Below w.heap.size w w') : Good w' x := ⟨h.clk.below hb, h.lt, h.small⟩
theorem below_drewN {B : Nat} {w w' : World} (h : Below B w w') (n : Nat) : Below B w (w'.drewN n) := ⟨h.os, h.tape, h.output, h.size, h.block⟩
theorem below_undrew {B : Nat} {w w' : World} (h : Below B w.drew w') : Below B w w' := ⟨h.os, h.tape, h.output, h.size, h.block⟩
theorem below_undrewN {B : Nat} {w w' : World} {n : Nat} (h : Below B (w.drewN n) w') : Below B w w' := ⟨h.os, h.tape, h.output, h.size, h.block⟩
theorem At.lt {w : World} {b o : Nat} {x : Wr} (h : At w b o x) : b < w.heap.size := World.block_lt_of_cell? _ _ h.c0
theorem At.same {w w' : World} {b o : Nat} {x : Wr} (h : At w b o x) (hb : w'.heap[b]? = w.heap[b]?) : At w' b o x := by
  have e : ∀ j, w'.cell? ⟨b, j, none⟩ = w.cell? ⟨b, j, none⟩ := fun j => World.cell?_of_block (w := w) (a := ⟨b, j, none⟩) hb
  exact ⟨(e _).trans h.c0, (e _).trans h.c1, (e _).trans h.c2, (e _).trans h.c3, (e _).trans h.c4, (e _).trans h.c5, (e _).trans h.c6⟩
theorem At.below {w w' : World} {b o : Nat} {x : Wr} (h : At w b o x) (hb : Below w.heap.size w w') : At w' b o x := h.same (hb.block b h.lt)

set_option maxHeartbeats 400000 in
theorem prec27 (x : Wr) (cb : Nat) (cl : List Nat) (w : World) (hx : Good w x) (hc : Clk w cb cl) (hl : cl.length ≤ 1024) :
    Calls Yba.prog 27 #[.agg #[.int .i64 x.N, .string ByteArray.empty, .int .i64 0, .int .u64 0, .int .i64 (x.g : Int), .slice (some ⟨x.b, 0, none⟩) x.at'.length x.at'.length, .int .u64 x.f], .slice (some ⟨cb, 0, none⟩) cl.length cl.length] w fun e w' => e = .returned (.bool (precB x cl)) ∧ Below w.heap.size w w' := by
  have h6 := hx.clk.cell x.g hx.lt
  have hlt : (x.g : Int) < (x.at'.length : Int) := by have := hx.lt; omega
  have hs := hx.small
  have hne := hx.clk.lt
  have hne' := hc.lt
  unfold precB
  by_cases hg : x.g < cl.length
  · have h7 := hc.cell x.g hg
    clear hx hc
    go_enter Yba.func27, Yba.ntmps27
    go_wp2
    go_ret
    exact ⟨rfl, (Below.refl _ _).alloc (Nat.le_refl _) _⟩
  · have hz : el cl x.g = 0 := by simp [el, List.getD, List.getElem?_eq_none (Nat.le_of_not_lt hg)]
    rw [hz]
    clear hz hx hc
    go_enter Yba.func27, Yba.ntmps27
    go_wp2
    go_ret
    exact ⟨rfl, (Below.refl _ _).alloc (Nat.le_refl _) _⟩

set_option maxHeartbeats 400000 in
theorem bef26 (x y : Wr) (w : World) (hx : Good w x) (hy : Good w y) :
    Calls Yba.prog 26 #[.agg #[.int .i64 x.N, .string ByteArray.empty, .int .i64 0, .int .u64 0, .int .i64 (x.g : Int), .slice (some ⟨x.b, 0, none⟩) x.at'.length x.at'.length, .int .u64 x.f], .agg #[.int .i64 y.N, .string ByteArray.empty, .int .i64 0, .int .u64 0, .int .i64 (y.g : Int), .slice (some ⟨y.b, 0, none⟩) y.at'.length y.at'.length, .int .u64 y.f]] w fun e w' => e = .returned (.bool (befB x y)) ∧ Below w.heap.size w w' := by
  unfold befB
  cases hg : ((x.g : Int) == (y.g : Int))
  · rw [Bool.false_or]
    go_enter Yba.func26, Yba.ntmps26
    go_wp2_with fail
    refine (prec27 x _ _ _ (hx.below (((Below.refl _ _).alloc (Nat.le_refl _) _).alloc (by simp) _)) (hy.clk.below (((Below.refl _ _).alloc (Nat.le_refl _) _).alloc (by simp) _)) hy.small).mono ?_
    rintro e w1 ⟨rfl, hb⟩
    have hb1 : Below w.heap.size w w1 := (((Below.refl _ _).alloc (Nat.le_refl _) _).alloc (by simp) _).trans (hb.mono (by simp; omega))
    clear hb
    go_wp2
    go_ret
    exact ⟨rfl, hb1⟩
  · rw [Bool.true_or]
    go_enter Yba.func26, Yba.ntmps26
    go_wp2
    go_ret
    exact ⟨rfl, ((Below.refl _ _).alloc (Nat.le_refl _) _).alloc (by simp) _⟩

set_option maxRecDepth 20000 in
set_option maxHeartbeats 1000000 in
theorem eq15 (x y : Wr) (w : World) (hx : Good w x) (hy : Good w y) :
    Calls Yba.prog 15 #[.agg #[.int .i64 x.N, .string ByteArray.empty, .int .i64 0, .int .u64 0, .int .i64 (x.g : Int), .slice (some ⟨x.b, 0, none⟩) x.at'.length x.at'.length, .int .u64 x.f], .agg #[.int .i64 y.N, .string ByteArray.empty, .int .i64 0, .int .u64 0, .int .i64 (y.g : Int), .slice (some ⟨y.b, 0, none⟩) y.at'.length y.at'.length, .int .u64 y.f]] w fun e w' => e = .returned (.bool (eqB x y)) ∧ Below w.heap.size w w' := by
  unfold eqB
  have hb2 : ∀ o o' : Obj, Below w.heap.size w ((w.alloc o).alloc o') := fun o o' => ((Below.refl _ _).alloc (Nat.le_refl _) _).alloc (by simp) _
  by_cases hN : x.N = y.N
  · rw [hN, beq_self_eq_true, Bool.true_and]
    clear hN
    cases hg : ((x.g : Int) == (y.g : Int))
    · rw [Bool.false_and]
      go_enter Yba.func15, Yba.ntmps15
      go_wp2
      go_ret
      exact ⟨rfl, hb2 _ _⟩
    · rw [Bool.true_and]
      cases hf : (x.f == y.f)
      · rw [Bool.false_and]
        go_enter Yba.func15, Yba.ntmps15
        go_wp2
        go_ret
        exact ⟨rfl, hb2 _ _⟩
      · rw [Bool.true_and]
        go_enter Yba.func15, Yba.ntmps15
        go_wp2_with fail
        refine (equal28 _ _ _ _ _ (hx.clk.below (hb2 _ _)) (hy.clk.below (hb2 _ _)) hx.small hy.small).mono ?_
        rintro e w1 ⟨rfl, n, rfl⟩
        go_wp2
        go_ret
        exact ⟨rfl, below_drewN (hb2 _ _) n⟩
  · have hb : (x.N == y.N) = false := beq_eq_false_iff_ne.2 hN
    rw [hb, Bool.false_and]
    go_enter Yba.func15, Yba.ntmps15
    go_wp2
    go_ret
    exact ⟨rfl, hb2 _ _⟩
end Go.Proofs.Ybulkbhxe.AMem
