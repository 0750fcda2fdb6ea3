/-
  The walks of appendString and appendValue (functions 31, 16) and of bytes.Equal (19).
-/
import Derived.Test.YbulkbhxeB2
import Derived.Deep.RegionHeld3
import Derived.Deep.DrawnRows
namespace Go.Proofs.Ybulkbhxe.BVal
open Go.ChangeShapes Go.WideShapes Go.ChangeAt Go.RowKit
attribute [local go_sem ↓] Go.wp_at_zero Go.wp_at_succ

theorem row_assoc {w : World} {Pr : Nat → Prop} {v : Value} {l a b : List UInt8} (h : Row w Pr v (l ++ a ++ b)) : Row w Pr v (l ++ (a ++ b)) := by
  rw [← List.append_assoc]; exact h

set_option maxRecDepth 20000 in
set_option maxHeartbeats 400000 in
theorem str31 (Pr : Nat → Prop) (v : Value) (l : List UInt8) (s : ByteArray) (w : World) (hown : Row w Pr v l) (hpr : ∀ k, Pr k → k < w.heap.size) (hl : l.length ≤ 800000) (hs : s.size ≤ 4096) :
    Calls Yba.prog 31 #[v, .string s] w fun e w' => ∃ v', e = .returned v' ∧ Row w' Pr v' (l ++ (uv s.size ++ s.data.toList)) ∧ Step Pr l.length w w' := by
  have hz := uv_len64 s.size (by omega)
  go_enter Yba.func31, Yba.ntmps31
  go_wp2_with fail
  refine (uv29 Pr v l s.size _ hz hown hpr (by omega)).mono ?_
  rintro e w1 ⟨v1, rfl, hr1, hs1⟩
  have hpr1 : ∀ k, Pr k → k < w1.heap.size := fun k hk => Nat.lt_of_lt_of_le (hpr k hk) hs1.size
  go_wp2_with (at_builtin; refine wpList_puts _ rfl (.tmp 9) (.tmp 10) rfl Pr _ (l ++ uv s.size) rfl hr1 s rfl ?c2 ?c3 ?_)
  case c2 => simp; omega
  case c3 => exact hpr1
  intro v' w2 hr2 hs2
  have hr3 : Row w2 Pr v' (l ++ (uv s.size ++ s.data.toList)) := by simpa using hr2
  have hs3 : Step Pr l.length w w2 := hs1.trans hs2 (by simp)
  clear hr2 hs2 hr1 hs1
  go_wp2
  go_ret
  exact ⟨v', rfl, hr3, hs3⟩

theorem Step.undrew {Pr : Nat → Prop} {n : Nat} {w w' : World} (h : Step Pr n w.drew w') : Step Pr n w w' := ⟨h.os, h.tape, h.output, h.size, h.block, fun k j hk hj => h.kept k j hk hj⟩

/-- What is guarded while a Value lies boxed in block B. -/
def And1 (Pr : Nat → Prop) (B : Nat) : Nat → Prop := fun k => Pr k ∨ k = B

theorem Row.guard {w : World} {Pr : Nat → Prop} {v : Value} {l : List UInt8} (h : Row w Pr v l) (o : Obj) : Row (w.alloc o) (And1 Pr w.heap.size) v l :=
  ⟨World.ownsRow.alloc h.1 o, fun k hk hp => by
    rcases hp with hp | hp
    · exact h.2 k hk hp
    · have := (h.1.lt k hk).2
      omega⟩
theorem Row.unguard {w : World} {Pr : Nat → Prop} {B : Nat} {v : Value} {l : List UInt8} (h : Row w (And1 Pr B) v l) : Row w Pr v l :=
  ⟨h.1, fun k hk hp => h.2 k hk (.inl hp)⟩

set_option maxRecDepth 20000 in
set_option maxHeartbeats 1000000 in
theorem val16 (Pr : Nat → Prop) (v : Value) (l : List UInt8) (n : Int) (s : ByteArray) (L : Int) (d : Nat) (w : World) (hown : Row w Pr v l) (hpr : ∀ k, Pr k → k < w.heap.size) (hl : l.length ≤ 700000) (hs : s.size ≤ 4096)
    (n1 : -9223372036854775808 ≤ n) (n2 : n ≤ 9223372036854775807) (l1 : -9223372036854775808 ≤ L) (l2 : L ≤ 9223372036854775807) (hd : (uv d).length ≤ 10) :
    Calls Yba.prog 16 #[v, .agg #[.int .i64 n, .string s, .int .i64 L, .int .u64 (d : Int)]] w fun e w' => ∃ v', e = .returned v' ∧ Row w' Pr v' (l ++ enc d n L s.data.toList) ∧ Step Pr l.length w w' := by
  obtain ⟨B, hB⟩ : ∃ B, B = w.heap.size := ⟨_, rfl⟩
  have hz1 := uv_len64 _ (zig_lt n1 n2)
  have hz2 := uv_len64 _ (zig_lt l1 l2)
  have hg := hown.guard (.cells #[.int .i64 n, .string s, .int .i64 L, .int .u64 (d : Int)] 32)
  have hgp : ∀ k, And1 Pr w.heap.size k → k < (w.alloc (.cells #[.int .i64 n, .string s, .int .i64 L, .int .u64 (d : Int)] 32)).heap.size := by
    intro k hk
    rcases hk with hk | hk
    · have := hpr k hk; simp; omega
    · simp; omega
  have hst0 : Step Pr l.length w (w.alloc (.cells #[.int .i64 n, .string s, .int .i64 L, .int .u64 (d : Int)] 32)) := Step.ofAlloc _ _ hpr _
  go_enter Yba.func16, Yba.ntmps16
  go_wp2_with fail
  refine (uv29 (And1 Pr w.heap.size) v l d _ hd hg hgp (by omega)).mono ?_
  rintro e w1 ⟨v1, rfl, hr1, hs1⟩
  have hgp1 : ∀ k, And1 Pr w.heap.size k → k < w1.heap.size := fun k hk => Nat.lt_of_lt_of_le (hgp k hk) hs1.size
  have c0 : w1.cell? ⟨w.heap.size, 0, none⟩ = some (.int .i64 n) := (hs1.cell (.inr rfl)).trans (by simp)
  have c1 : w1.cell? ⟨w.heap.size, 1, none⟩ = some (.string s) := (hs1.cell (.inr rfl)).trans (by simp)
  have c2 : w1.cell? ⟨w.heap.size, 2, none⟩ = some (.int .i64 L) := (hs1.cell (.inr rfl)).trans (by simp)
  go_wp2_with fail
  go_region_held3 (fun w' => w'.cell? ⟨w.heap.size, 0, none⟩ = some (.int .i64 n) ∧ w'.cell? ⟨w.heap.size, 2, none⟩ = some (.int .i64 L) ∧ w'.cell? ⟨w.heap.size, 1, none⟩ = some (.string s)) (go_keep)
    (first
      | (go_at_call_of 30 (Value.int IntKind.i64 n); refine (sv30 (And1 Pr w.heap.size) v1 (l ++ uv d) n _ n1 n2 ?_ ?_ ?_).mono ?_; exact hr1; exact hgp1; (simp; omega); rintro e w2 ⟨v2, rfl, hr2, hs2⟩; have b0 := (hs2.cell (k := w.heap.size) (j := 0) (.inr rfl)).trans c0; have b1 := (hs2.cell (k := w.heap.size) (j := 1) (.inr rfl)).trans c1; have b2 := (hs2.cell (k := w.heap.size) (j := 2) (.inr rfl)).trans c2; have hgp2 : ∀ k, And1 Pr w.heap.size k → k < w2.heap.size := fun k hk => Nat.lt_of_lt_of_le (hgp1 k hk) hs2.size)
      | (go_at_call_of 30 (Value.int IntKind.i64 L); refine (sv30 (And1 Pr w.heap.size) v2 (l ++ uv d ++ uv (zig n)) L _ l1 l2 ?_ ?_ ?_).mono ?_; exact hr2; exact hgp2; (simp; omega); rintro e w3 ⟨v3, rfl, hr3, hs3⟩; have d0 := (hs3.cell (k := w.heap.size) (j := 0) (.inr rfl)).trans b0; have d1 := (hs3.cell (k := w.heap.size) (j := 1) (.inr rfl)).trans b1; have d2 := (hs3.cell (k := w.heap.size) (j := 2) (.inr rfl)).trans b2))
  have hgp3 : ∀ k, And1 Pr w.heap.size k → k < w3.heap.size := fun k hk => Nat.lt_of_lt_of_le (hgp2 k hk) hs3.size
  have hs13 : Step (And1 Pr w.heap.size) l.length (w.alloc (.cells #[.int .i64 n, .string s, .int .i64 L, .int .u64 (d : Int)] 32)) w3 :=
    hs1.trans (hs2.undrew.trans hs3 (by simp)) (by simp)
  clear hs1 hs2 hs3 hr1 hr2 b0 b1 b2 c0 c1 c2 hg
  go_wp2_with fail
  refine (str31 (And1 Pr w.heap.size) v3 (l ++ uv d ++ uv (zig n) ++ uv (zig L)) s _ ?_ hgp3 ?_ hs).mono ?_
  · simpa using hr3
  · simp; omega
  rintro e w4 ⟨v4, rfl, hr4, hs4⟩
  have hs5 : Step Pr l.length w w4 := hst0.trans ((hs13.trans hs4 (by simp)).mono fun k hk => .inl hk) (Nat.le_refl _)
  have hr5 : Row w4 Pr v4 (l ++ enc d n L s.data.toList) := by
    have h := hr4.unguard
    rw [enc, Array.length_toList]
    simpa [List.append_assoc] using h
  clear hr4 hs4 hs13 hr3
  go_wp2
  go_ret
  exact ⟨v4, rfl, hr5, hs5⟩

/-- What 'string(..)' of an owned row is. -/
theorem run_string_row (w : World) (Pr : Nat → Prop) (v : Value) (l : List UInt8) (h : Row w Pr v l) : (convert 26 9 v).run Yba.prog w = .ok (.string ⟨l.toArray⟩) w := by
  rcases h.1.2 with ⟨rfl, h0⟩ | ⟨g, cap, cur, rfl, _, hg, hnc, hcm, hcs, htake⟩
  · have : l = [] := List.eq_nil_of_length_eq_zero h0
    subst this
    exact run_convert_bytes_nil w 26 5 Yba.underlying26 Yba.underlying5 0 0 9 Yba.underlying9
  · have hr := run_convert_bytes_arg (P := Yba.prog) w 26 5 Yba.underlying26 Yba.underlying5 g 0 l.length cap (l.map fun b => (b.toNat : Int)) (by simp) (by
      intro i hi
      have hc := h.1.cellAt (g := g) i (by omega)
      rw [Nat.zero_add, hc, bc, List.getElem?_map, List.getElem?_eq_getElem hi]
      simp [List.getD, List.getElem?_eq_getElem hi]) 9 Yba.underlying9
    rw [hr]
    congr 2
    unfold strOfNums
    rw [List.map_map]
    congr 2
    conv => rhs; rw [← List.map_id l]
    apply List.map_congr_left
    intro b _
    simp

set_option maxRecDepth 20000 in
theorem equal19 (u v : Value) (a b : List UInt8) (w : World) (g1 : (convert 26 9 u).run Yba.prog w = .ok (.string ⟨a.toArray⟩) w) (g2 : (convert 26 9 v).run Yba.prog w = .ok (.string ⟨b.toArray⟩) w) :
    Calls Yba.prog 19 #[u, v] w fun e w' => e = .returned (.bool (a == b)) ∧ w' = w := by
  go_enter Yba.func19, Yba.ntmps19
  go_wp2
  go_ret
  exact ⟨ret_val (congrArg Value.bool (by simp)), rfl⟩

theorem Row.carry {w w' : World} {Pr : Nat → Prop} {v : Value} {l : List UInt8} {n : Nat} (h : Row w Pr v l) (hs : Step (fun k => k < w.heap.size) n w w') : Row w' Pr v l := by
  refine ⟨⟨h.1.1, ?_⟩, h.2⟩
  rcases h.1.2 with hn | ⟨g, cap, cur, rfl, hb, hg, rest⟩
  · exact .inl hn
  · exact .inr ⟨g, cap, cur, rfl, hb, by rw [hs.block g (Array.getElem?_eq_some_iff.1 hg).1]; exact hg, rest⟩
end Go.Proofs.Ybulkbhxe.BVal
