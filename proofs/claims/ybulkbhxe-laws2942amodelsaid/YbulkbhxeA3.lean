/-
  Rows of writes; the walk of zzs2942aeqs (function 14) at two rows that hold the same writes.
-/
import Derived.Test.YbulkbhxeA2
namespace Go.Proofs.Ybulkbhxe.AMem
open Go.ChangeShapes Go.WideShapes Go.ChangeAt Go.RowKit
set_option linter.unusedVariables false
attribute [local go_sem ↓] Go.wp_at_zero Go.wp_at_succ

/-- Block r holds the writes W, one behind the other, from its head on. -/
def Rows (w : World) (r : Nat) (W : List Wr) : Prop := ∀ k x, W[k]? = some x → At w r (k * 7) x
def Goods (w : World) (W : List Wr) : Prop := ∀ x, x ∈ W → Good w x

theorem Rows.same {w w' : World} {r : Nat} {W : List Wr} (h : Rows w r W) (hb : w'.heap[r]? = w.heap[r]?) : Rows w' r W := fun k x hx => (h k x hx).same hb
theorem Rows.below {w w' : World} {r : Nat} {W : List Wr} (h : Rows w r W) (hb : Below w.heap.size w w') : Rows w' r W := fun k x hx => (h k x hx).below hb
theorem Goods.below {w w' : World} {W : List Wr} (h : Goods w W) (hb : Below w.heap.size w w') : Goods w' W := fun x hx => (h x hx).below hb

theorem eqB_refl (x : Wr) : eqB x x = true := by simp [eqB]

set_option maxRecDepth 20000 in
set_option maxHeartbeats 1000000 in
theorem eqs14 (r r' c c' : Nat) (W : List Wr) (w : World) (h : Rows w r W) (h' : Rows w r' W) (hg : Goods w W) (hl : W.length ≤ 2000) :
    Calls Yba.prog 14 #[.slice (some ⟨r, 0, none⟩) W.length c, .slice (some ⟨r', 0, none⟩) W.length c'] w fun e w' => e = .returned (.bool true) ∧ Below w.heap.size w w' := by
  obtain ⟨n, hn⟩ : ∃ n, n = W.length := ⟨_, rfl⟩
  rw [← hn]
  have hns : n ≤ 2000 := by omega
  have HN : Hid (n = W.length) := hn
  clear hn hl
  go_enter Yba.func14, Yba.ntmps14
  go_wp2
  go_loopw [5] (fun i wr => ∃ k : Nat, k ≤ n ∧ i = .int .i64 k ∧ Below w.heap.size w wr) (fun i _ => n - (intOf i).toNat)
  case atStart => exact ⟨0, Nat.zero_le _, rfl, Below.refl _ _⟩
  case round =>
    obtain ⟨k, hk, rfl, hb⟩ := hrel
    by_cases hlt : k < n
    · obtain ⟨x, hx⟩ : ∃ x, W[k]? = some x := ⟨W[k]'(by rw [← HN.out]; exact hlt), List.getElem?_eq_getElem _⟩
      have gx := (hg x (List.mem_of_getElem? hx)).below hb
      have A := (h k x hx).below hb
      have A' := (h' k x hx).below hb
      obtain ⟨a0, a1, a2, a3, a4, a5, a6⟩ := A
      obtain ⟨d0, d1, d2, d3, d4, d5, d6⟩ := A'
      have hr : eqB x x = true := eqB_refl x
      have hi : (k : Int) < (n : Int) := by omega
      have hi0 : (0 : Int) ≤ (k : Int) := by omega
      have HX : Hid (W[k]? = some x) := hx
      clear hx
      go_wp2
      go_region_held3 (fun w' => w'.cell? ⟨r, k * 7, none⟩ = some (.int .i64 x.N) ∧ w'.cell? ⟨r, k * 7 + 1, none⟩ = some (.string ByteArray.empty) ∧ w'.cell? ⟨r, k * 7 + 2, none⟩ = some (.int .i64 0) ∧ w'.cell? ⟨r, k * 7 + 3, none⟩ = some (.int .u64 0) ∧ w'.cell? ⟨r, k * 7 + 4, none⟩ = some (.int .i64 (x.g : Int)) ∧ w'.cell? ⟨r, k * 7 + 5, none⟩ = some (.slice (some ⟨x.b, 0, none⟩) x.at'.length x.at'.length) ∧ w'.cell? ⟨r, k * 7 + 6, none⟩ = some (.int .u64 x.f) ∧
          w'.cell? ⟨r', k * 7, none⟩ = some (.int .i64 x.N) ∧ w'.cell? ⟨r', k * 7 + 1, none⟩ = some (.string ByteArray.empty) ∧ w'.cell? ⟨r', k * 7 + 2, none⟩ = some (.int .i64 0) ∧ w'.cell? ⟨r', k * 7 + 3, none⟩ = some (.int .u64 0) ∧ w'.cell? ⟨r', k * 7 + 4, none⟩ = some (.int .i64 (x.g : Int)) ∧ w'.cell? ⟨r', k * 7 + 5, none⟩ = some (.slice (some ⟨x.b, 0, none⟩) x.at'.length x.at'.length) ∧ w'.cell? ⟨r', k * 7 + 6, none⟩ = some (.int .u64 x.f))
        (go_keep)
        (first | (go_at_call 15; refine (eq15 x x _ ?_ ?_).mono ?_; exact gx.drewN 1; exact gx.drewN 1; rintro e w1 ⟨rfl, hb1⟩; have hb2 : Below w.heap.size w w1 := hb.trans ((below_undrew hb1).mono hb.size); obtain ⟨e0, e1, e2, e3, e4, e5, e6⟩ := (h k x HX.out).below hb2; obtain ⟨f0, f1, f2, f3, f4, f5, f6⟩ := (h' k x HX.out).below hb2))
      all_goals go_wp2
      all_goals go_roundw
      all_goals first | (exact ⟨k + 1, by omega, by go_num, hb2⟩) | (simp [intOf]; omega)
    · go_wp2
      go_ret
      exact ⟨rfl, hb⟩
end Go.Proofs.Ybulkbhxe.AMem
