/-
  The walk of LawS2943BCycle (function 4).
-/
import Derived.Test.YbulkbhxsK2
import Derived.LoopTactic
namespace Go.Proofs.Ybulkbhxs
open Go.Conc Go.RowKit Go.MuLone
set_option linter.unusedVariables false

/-- A slice of n bools at a, in w. -/
def BRow (w : World) (a : Option Addr) (n : Nat) : Prop := n = 0 ∨ ∃ b off, a = some ⟨b, off, none⟩ ∧ b < w.heap.size ∧ ∀ k, k < n → ∃ v, w.cell? ⟨b, off + k, none⟩ = some (.bool v)

/-- The connection that the model says. -/
def cn (m : Nat) : Bool → Value
  | true => .pointer (some ⟨m, 0, none⟩)
  | false => .pointer none

theorem kp_new (w : World) (c : Array Value) (t : TypeId) (h14 : c[14]? = some (.int .i32 0)) (h16 : c[16]? = some (.pointer none)) (h17 : c[17]? = some (.chan (some w.heap.size))) (h18 : c[18]? = some (.int .i64 0)) (h19 : c[19]? = some .nilIface) :
    Kp w.heap.size (w.heap.size + 1) w ((w.alloc (.chan 0 #[] false 0 0 false)).alloc (.cells c t)) 0 w.heap.size (.pointer none) false where
  lo := Nat.le_succ _
  loc := Nat.le_refl _
  hb := by simp
  hc := by simp; omega
  ne := by omega
  m := by simpa using h14
  k := by simpa using h16
  r := by simpa using h17
  d := by simpa using h18
  l := by simpa using h19
  fz i := by simp
  ch := (Below.heap_alloc _ _ _ (by simp)).trans (heap_alloc_new _ _)
  bel := ((Below.refl _ _).alloc (Nat.le_refl _) _).alloc (by simp) _

theorem ceqIn (d : Nat) (c : Nat) (w : World) : (Op.equalIn (d + 1) 25 (.chan (some c)) (.chan none)).run Yba.prog w = .ok false w := by
  simp [Op.equalIn, run_underlying Yba.underlying25]
theorem ceq (c : Nat) (w : World) : (binOp .eql 25 (.chan (some c)) (.chan none)).run Yba.prog w = .ok (.bool false) w := by
  have h : (Op.equal 25 (.chan (some c)) (.chan none)).run Yba.prog w = .ok false w := ceqIn 9999 c w
  simp only [binOp]
  simp [h]
theorem pneIn (d : Nat) (n : Nat) (w : World) : (Op.equalIn (d + 1) 43 (.pointer (some ⟨n, 0, none⟩)) (.pointer (some ⟨n, 0, none⟩))).run Yba.prog w = .ok true w := by
  simp [Op.equalIn, run_underlying Yba.underlying43, Yba.sizeOf58, sameAddr]
theorem pne (n : Nat) (w : World) : (binOp .neq 43 (.pointer (some ⟨n, 0, none⟩)) (.pointer (some ⟨n, 0, none⟩))).run Yba.prog w = .ok (.bool false) w := by
  have h : (Op.equal 43 (.pointer (some ⟨n, 0, none⟩)) (.pointer (some ⟨n, 0, none⟩))).run Yba.prog w = .ok true w := pneIn 9999 n w
  simp only [binOp]
  simp [h]
theorem pnnIn (d : Nat) (n : Nat) (w : World) : (Op.equalIn (d + 1) 43 (.pointer (some ⟨n, 0, none⟩)) (.pointer none)).run Yba.prog w = .ok false w := by
  simp [Op.equalIn, run_underlying Yba.underlying43]
theorem pnn (n : Nat) (w : World) : (binOp .neq 43 (.pointer (some ⟨n, 0, none⟩)) (.pointer none)).run Yba.prog w = .ok (.bool true) w := by
  have h : (Op.equal 43 (.pointer (some ⟨n, 0, none⟩)) (.pointer none)).run Yba.prog w = .ok false w := pnnIn 9999 n w
  simp only [binOp]
  simp [h]

set_option maxRecDepth 20000 in
set_option maxHeartbeats 4000000 in
theorem cycle_in (a : Option Addr) (n cap : Nat) (w : World) (h : BRow w a n) (hn : n ≤ 1024) :
    Calls Yba.prog 4 #[.slice a n cap] w fun e w' => e = .returned (.bool true) ∧ Below w.heap.size w w' := by
  have hm := mk0
  go_enter Yba.func4, Yba.ntmps4
  go_wp2
  go_loopw [16, 4] (fun ci vh wr => ∃ (k : Nat) (hs : Bool) (m c : Nat), ci = .int .i64 (k : Int) ∧ k ≤ n ∧ vh = .bool hs ∧ Kp w.heap.size (w.heap.size + 1) w wr 0 c (cn m hs) hs) (fun ci _ _ => n - (intOf ci).toNat)
  case atStart => exact ⟨0, false, 0, _, rfl, Nat.zero_le _, rfl, kp_new w _ _ rfl rfl rfl rfl rfl⟩
  case round =>
    obtain ⟨k, hs, m, c, rfl, hk, rfl, K⟩ := hrel
    clear hm
    by_cases hlt : k < n
    · rcases h with h | ⟨b, off, rfl, hbl, hcell⟩
      · omega
      obtain ⟨v, hv⟩ := hcell k hlt
      have hcr : wr.cell? ⟨b, off + k, none⟩ = some (.bool v) := (K.bel.cell (by exact hbl)).trans hv
      clear hcell hv
      have hi : (k : Int) < (n : Int) := by omega
      rcases Bool.eq_false_or_eq_true v with hv | hv <;> rcases Bool.eq_false_or_eq_true hs with hh | hh <;> subst hv hh
      · go_wp2_with fail
        refine (withdraw_ok K).mono ?_
        rintro e w1 ⟨rfl, c1, K1⟩
        clear hcr K
        have h16 := K1.k
        have q1 := ceq
        have q2 := pne
        have q3 := pnn
        have h17 := K1.r
        go_wp2_with fail
        refine (open_open c1 _ K1.ch).mono ?_
        rintro e w2 ⟨rfl, rfl⟩
        go_wp2
        go_roundw
        case rel => exact ⟨k + 1, false, 0, c1, by go_num, by omega, rfl, K1⟩
        case measure => simp [intOf]; omega
      · go_wp2_with fail
        refine (publish_ok K).mono ?_
        rintro e w1 ⟨m1, rfl, K1⟩
        clear hcr K
        have h16 := K1.k
        have q1 := ceq
        have q2 := pne
        have q3 := pnn
        have h17 := K1.r
        go_wp2_with fail
        refine (open_shut c _ K1.ch).mono ?_
        rintro e w2 ⟨rfl, rfl⟩
        go_wp2
        go_roundw
        case rel => exact ⟨k + 1, true, m1, c, by go_num, by omega, rfl, K1⟩
        case measure => simp [intOf]; omega
      · go_wp2_with fail
        refine (withdraw_ok K).mono ?_
        rintro e w1 ⟨rfl, c1, K1⟩
        clear hcr K
        have h16 := K1.k
        have q1 := ceq
        have q2 := pne
        have q3 := pnn
        have h17 := K1.r
        go_wp2_with fail
        refine (open_open c1 _ K1.ch).mono ?_
        rintro e w2 ⟨rfl, rfl⟩
        go_wp2
        go_roundw
        case rel => exact ⟨k + 1, false, 0, c1, by go_num, by omega, rfl, K1⟩
        case measure => simp [intOf]; omega
      · go_wp2_with fail
        refine (withdraw_ok K).mono ?_
        rintro e w1 ⟨rfl, c1, K1⟩
        clear hcr K
        have h16 := K1.k
        have q1 := ceq
        have q2 := pne
        have q3 := pnn
        have h17 := K1.r
        go_wp2_with fail
        refine (open_open c1 _ K1.ch).mono ?_
        rintro e w2 ⟨rfl, rfl⟩
        go_wp2
        go_roundw
        case rel => exact ⟨k + 1, false, 0, c1, by go_num, by omega, rfl, K1⟩
        case measure => simp [intOf]; omega
    · have h18 := K.d
      have h19 := K.l
      go_wp2
      go_ret
      exact ⟨rfl, K.bel⟩
end Go.Proofs.Ybulkbhxs
