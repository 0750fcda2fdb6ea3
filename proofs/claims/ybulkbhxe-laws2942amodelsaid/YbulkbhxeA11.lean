/-
  The walk of (memory).store (function 12), the common case.
-/
import Derived.Test.YbulkbhxeA10
import Derived.Deep.RegionLaw
import Derived.WalkMore
namespace Go.Proofs.Ybulkbhxe.AMem
open Go.ChangeShapes Go.WideShapes Go.ChangeAt Go.RowKit
set_option linter.unusedVariables false
attribute [local go_sem ↓] Go.wp_at_zero Go.wp_at_succ

theorem own_one {w : World} {g c : Nat} {x : Wr} (h : w.ownsRow 0 36 7 (.slice (some ⟨g, 0, none⟩) (0 + 1) c) (0 + 1) ([] ++ wc x)) : Own w g c [x] := by
  simpa [Own, flat_one] using h

set_option maxRecDepth 20000 in
set_option maxHeartbeats 2000000 in
theorem store_fast (M v mn r cap fb : Nat) (mc : Array Value) (W : List Wr) (x : Wr) (fl : List Nat) (w : World) (hv : v < mn) (hmn : mn ≤ 2)
    (hM : w.heap[M]? = some (.cells mc 42 (0, 0))) (ms : mc.size = mn * 2) (mv : mc[v * 2 + 1]? = some (.slice (some ⟨r, 0, none⟩) W.length cap))
    (own : Own w r cap W) (gs : Goods w W) (gx : Good w x) (clk : Clk w fb fl) (hl : W.length ≤ 1500) (hfl : fl.length ≤ 1024)
    (hp : precB x fl = true) (ha : (W.all fun y => befB y x) = true) :
    Calls Yba.prog 12 #[.slice (some ⟨M, 0, none⟩) mn mn, .int .i64 (v : Int), .agg #[.int .i64 x.N, .string ByteArray.empty, .int .i64 0, .int .u64 0, .int .i64 (x.g : Int), .slice (some ⟨x.b, 0, none⟩) x.at'.length x.at'.length, .int .u64 x.f], .slice (some ⟨fb, 0, none⟩) fl.length fl.length] w fun e w' => e = .returned (.tuple #[]) ∧ Done w M v mc r (res fl W x) w' := by
  obtain ⟨i, hi, hz0, hz1, hz2⟩ := info_parts info36
  have E := Env.start hM ms mv own gs gx clk
  have hvI : (v : Int) < (mn : Int) := by omega
  have hv0 : (0 : Int) ≤ (v : Int) := by omega
  rw [res_fast fl W x hp ha]
  go_enter Yba.func12, Yba.ntmps12
  go_wp2_with fail
  go_step3
  go_wp2_with fail
  refine (prec22 w.heap.size 0 fb x fl _ E.at E.gx E.clk hfl).mono ?_
  rintro e W1 ⟨rfl, n1, hw1⟩
  have E1 := E.drewN n1
  rw [← hw1] at E1
  clear hw1 E
  go_wp2_with fail
  refine (all23 M mn v r cap w.heap.size 0 W x _ hv hmn E1.cellM.1 E1.own.rows E1.gs E1.at E1.gx (by omega)).mono ?_
  rintro e W2 ⟨rfl, n2, hw2⟩
  have E2 := E1.drewN n2
  rw [← hw2] at E2
  clear hw2 E1
  obtain ⟨m0, mf⟩ := E2.cellM
  obtain ⟨c0, c1, c2, c3, c4, c5, c6⟩ := E2.at
  simp only [Nat.zero_add] at c0 c1 c2 c3 c4 c5 c6
  have hgx := E2.gx
  have ho := E2.own.none
  have hml : M < W2.heap.size := (Array.getElem?_eq_some_iff.1 E2.hM).1
  have hbl : w.heap.size < W2.heap.size := (Array.getElem?_eq_some_iff.1 E2.box).1
  go_wp2_with fail
  go_region_law ((refine step_append_lies _ (by rfl) (.tmp 27) (.tmp 29) 27 (by rfl) 0 36 i _ 7 80 Yba.underlying27 hi hz0 hz1 hz2 rfl (by decide) (.slice (some ⟨r, 0, none⟩) 0 cap) 0 [] (by rfl) (by exact World.ownsRow.alloc ho _) ⟨W2.heap.size, 0, none⟩ 1 1 (wc x) (by rfl) rfl (by exact World.news_of_block (cs := (wc x).toArray) (heap_alloc_new W2 _)) (wc_oneCell x) (by decide) (by unfold maxLen; omega) (by omega) (Nat.zero_le _) (W2.heap.size + 1) (by simp) ?_; intro g cg w3 hown3 hgrow3 hat3 hlt3; have E3 := E2.grown (undrew_grown (by exact hgrow3)); obtain ⟨⟨u3, m3⟩, f3⟩ := E3.cellM (j := v * 2 + 1) (by omega)))
  all_goals go_wp2_with fail
  all_goals
    have ho3 : Own w3 g cg [x] := own_one (by exact hown3)
    have hg3 : g = r ∨ w.heap.size ≤ g := by
      rcases hat3 with hat3 | hat3
      · simp [Value.ownBlock] at hat3; omega
      · omega
    rw [Exit.noGoto_ret]
    refine bodyPost_ret (results_none rfl _ _ _) rfl ?_
    exact ⟨rfl, done_of E3.hM ho3 E3.rest hg3 rfl⟩
end Go.Proofs.Ybulkbhxe.AMem
