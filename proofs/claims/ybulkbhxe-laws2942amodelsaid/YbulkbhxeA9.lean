/-
  The walk of (memory).allBefore (function 23).
-/
import Derived.Test.YbulkbhxeA7
import Derived.Test.YbulkbhxeA8
namespace Go.Proofs.Ybulkbhxe.AMem
open Go.ChangeShapes Go.WideShapes Go.ChangeAt Go.RowKit
set_option linter.unusedVariables false

theorem Rows.drewN {w : World} {r : Nat} {W : List Wr} (h : Rows w r W) (n : Nat) : Rows (w.drewN n) r W := fun k x hx => (h k x hx).drewN n
theorem Goods.drewN {w : World} {W : List Wr} (h : Goods w W) (n : Nat) : Goods (w.drewN n) W := fun x hx => (h x hx).drewN n

set_option maxRecDepth 20000 in
set_option maxHeartbeats 400000 in
theorem all23 (M mn v r cap b o : Nat) (W : List Wr) (x : Wr) (w : World) (hv : v < mn) (hmn : mn ≤ 2) (hm : w.cell? ⟨M, v * 2 + 1, none⟩ = some (.slice (some ⟨r, 0, none⟩) W.length cap))
    (hW : Rows w r W) (hG : Goods w W) (hx : At w b o x) (gx : Good w x) (hl : W.length ≤ 2000) :
    Calls Yba.prog 23 #[.slice (some ⟨M, 0, none⟩) mn mn, .int .i64 (v : Int), .pointer (some ⟨b, o, none⟩)] w fun e w' => e = .returned (.bool (W.all fun y => befB y x)) ∧ ∃ n, w' = w.drewN n := by
  obtain ⟨n, hn⟩ : ∃ n, n = W.length := ⟨_, rfl⟩
  obtain ⟨R, hR⟩ : ∃ R, R = W.all fun y => befB y x := ⟨_, rfl⟩
  have HR : Hid (R = W.all fun y => befB y x) := hR
  have HN : Hid (n = W.length) := hn
  rw [← hR]
  rw [← hn] at hm hl
  have hvI : (v : Int) < (mn : Int) := by omega
  clear hR hn
  go_enter Yba.func23, Yba.ntmps23
  go_wp2
  go_loopw [14] (fun i wr => ∃ k : Nat, k ≤ n ∧ i = .int .i64 k ∧ (∃ m, wr = w.drewN m) ∧ Hid (∀ j y, j < k → W[j]? = some y → befB y x = true)) (fun i _ => n - (intOf i).toNat)
  case atStart => exact ⟨0, Nat.zero_le _, rfl, ⟨0, rfl⟩, fun j y hj => absurd hj (Nat.not_lt_zero _)⟩
  case round =>
    obtain ⟨k, hk, rfl, ⟨m, rfl⟩, HE⟩ := hrel
    by_cases hlt : k < n
    · obtain ⟨y, hy⟩ : ∃ y, W[k]? = some y := ⟨W[k]'(by rw [← HN.out]; exact hlt), List.getElem?_eq_getElem _⟩
      have hya := hW k y hy
      have gy := hG y (List.mem_of_getElem? hy)
      cases hb : befB y x
      · have hR0 : R = false := by
          rw [HR.out, List.all_eq_false]
          exact ⟨y, List.mem_of_getElem? hy, by simp [hb]⟩
        subst hR0
        clear hy HE
        go_wp2_with (go_at_call 24; refine (bef24 r (k * 7) b o y x _ (hya.drewN m) (hx.drewN m) (gy.drewN m) (gx.drewN m)).mono ?_; rintro e w1 ⟨rfl, n1, rfl⟩)
        go_ret
        exact ⟨rfl, _, rfl⟩
      · have HK : Hid (∀ j z, j < k + 1 → W[j]? = some z → befB z x = true) := fun j z hj hz => by
          by_cases e : j = k
          · subst e
            rw [hy] at hz
            injection hz with hz
            rw [← hz]
            exact hb
          · exact HE.out j z (by omega) hz
        clear hy HE
        go_wp2_with (go_at_call 24; refine (bef24 r (k * 7) b o y x _ (hya.drewN m) (hx.drewN m) (gy.drewN m) (gx.drewN m)).mono ?_; rintro e w1 ⟨rfl, n1, rfl⟩)
        go_roundw
        case rel => exact ⟨k + 1, by omega, by go_num, ⟨_, rfl⟩, HK⟩
        case measure => simp [intOf]; omega
    · have hR1 : R = true := by
        rw [HR.out, List.all_eq_true]
        intro y hy
        obtain ⟨j, hj, rfl⟩ := List.getElem_of_mem hy
        exact HE.out j _ (by have := HN.out; omega) (List.getElem?_eq_getElem hj)
      subst hR1
      go_wp2
      go_ret
      exact ⟨rfl, m, rfl⟩
end Go.Proofs.Ybulkbhxe.AMem
