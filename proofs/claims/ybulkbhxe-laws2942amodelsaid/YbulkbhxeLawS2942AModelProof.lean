/-
  The proof of 'Rows.LawS2942AModelSaid'. The frame follows the kit's shell for slices (proof-skeleton.mjs) at this function's number and types; the arguments are opened by YbulkbhxeA15.
-/
import Derived.Test.YbulkbhxeA17
import Derived.Test.YbulkbhxeA15
namespace Go.Proofs.Ybulkbhxe.lawS2942AModel
open Go.ChangeShapes Go.WideShapes Go.ChangeAt Go.RowKit
open Go.ChangeMaps (open_string shut_string)
open Go.Proofs.Ybulkbhxe.AMem
set_option linter.unusedVariables false

theorem own : ownKnob Yba.prog.godebug = none := by kernel_rfl
theorem laidOut : laidOutB Yba.prog = true := by kernel_rfl

theorem walk (a : Option Addr) (n c : Nat) (ao : Option Addr) (no co : Nat) (N G A0 A1 A2 L : Int) (F : Bool) (af : Option Addr) (nf cf : Nat) (zs : Nat → Int) (sel : Int) (w : World)
    (h1 : ARow w a n) (h2 : ARow w ao no) (g1 : 0 ≤ G ∧ G ≤ 255) (g2 : 0 ≤ A0 ∧ A0 ≤ 255) (g3 : 0 ≤ A1 ∧ A1 ≤ 255) (g4 : 0 ≤ A2 ∧ A2 ≤ 255) (g5 : 0 ≤ L ∧ L ≤ 255) (h3 : ByteRow w af nf zs) (hn : n ≤ 9223372036854775807) (hno : no ≤ 9223372036854775807) (hnf : nf ≤ 9223372036854775807)
    (hs : 0 ≤ sel ∧ sel ≤ 255) :
    Calls Yba.prog 3 #[.slice a n c, .slice ao no co, .agg #[.int .i8 N, .int .u8 G, .int .u8 A0, .int .u8 A1, .int .u8 A2, .int .u8 L, .bool F], .slice af nf cf, .int .u8 sel] w fun e w' => e = .returned (.bool true) ∧ Below w.heap.size w w' := by
  by_cases hb1 : (1024 : Int) < (n : Int)
  · go_enter Yba.func3, Yba.ntmps3
    go_wp2
    go_ret
    exact ⟨rfl, (Below.refl _ _).alloc (Nat.le_refl _) _⟩
  · by_cases hb2 : (1024 : Int) < (no : Int)
    · go_enter Yba.func3, Yba.ntmps3
      go_wp2
      go_ret
      exact ⟨rfl, (Below.refl _ _).alloc (Nat.le_refl _) _⟩
    · by_cases hb3 : (1024 : Int) < (nf : Int)
      · go_enter Yba.func3, Yba.ntmps3
        go_wp2
        go_ret
        exact ⟨rfl, (Below.refl _ _).alloc (Nat.le_refl _) _⟩
      · rcases (show sel % 2 = 0 ∨ sel % 2 = 1 by omega) with hv | hv
        · exact model_in0 a n c ao no co N G A0 A1 A2 L F af nf cf zs sel w h1 h2 g1 g2 g3 g4 g5 h3 (by omega) (by omega) (by omega) hs.1 hs.2 hv
        · exact model_in1 a n c ao no co N G A0 A1 A2 L F af nf cf zs sel w h1 h2 g1 g2 g3 g4 g5 h3 (by omega) (by omega) (by omega) hs.1 hs.2 hv

/-! ### THE ROW's STEP -/
set_option maxRecDepth 100000 in
theorem lifted (os : Os) (started : os.Started) (H : Type) (enc : TypeId × Value → H) :
    ReturnsInHanded {} Yba.checked os 3 .any (Rows.lawS2942AModelSpec.pre6 enc Yba.prog Yba.f3 Rows.lawS2942AModelRow.domain false) (Rows.lawS2942AModelSpec.post enc Yba.prog Yba.f3 false true false false) := by
  refine returnsInHanded_of_change (C := Yba.checked) own started (by kernel_rfl) Yba.func3
    (ChangeSpec.witness6 (enc := enc) (C := Yba.checked) false ⟨#[], #[.slice none 0 0, .slice none 0 0, .agg #[.int .i8 0, .int .u8 0, .int .u8 0, .int .u8 0, .int .u8 0, .int .u8 0, .bool false], .slice none 0 0, .int .u8 0], []⟩ 8 (by kernel_rfl) (by kernel_rfl) (by kernel_rfl) (by kernel_rfl)) ?_
  intro W base args ds gs before hval0 hW hcnd _
  have hval : ∀ (j : Nat) t v, Yba.f3.params[j]? = some t → args[j]? = some v → Value.okWide Yba.prog W .any base t v := hval0
  have hW' := hW
  obtain ⟨p, q, hA0, hV, rfl, hfz, hnd⟩ := hW
  have hA : DataW.TrodAll enc Yba.prog W 0 (fun _ => true) true Yba.f3.params.toList args.toList ds p := hA0
  rw [Yba.params3] at hA hval
  obtain ⟨v0, vs0, d0, ds0, p0, q0, hargs, rfl, rfl, h0, r0⟩ := trodAll_cons hA
  obtain ⟨v1, vs1, d1, ds1, p1, q1, rfl, rfl, rfl, h1, r1⟩ := trodAll_cons r0
  obtain ⟨v2, vs2, d2, ds2, p2, q2, rfl, rfl, rfl, h2, r2⟩ := trodAll_cons r1
  obtain ⟨v3, vs3, d3, ds3, p3, q3, rfl, rfl, rfl, h3, r3⟩ := trodAll_cons r2
  obtain ⟨v4, vs4, d4, ds4, p4, q4, rfl, rfl, rfl, h4, r4⟩ := trodAll_cons r3
  obtain ⟨rfl, rfl, rfl⟩ := trodAll_nil r4
  obtain rfl : args = #[v0, v1, v2, v3, v4] := by cases args; simp_all
  obtain ⟨rfl, rfl⟩ := trodVars_none hV
  obtain ⟨a0, len0, cap0, rfl⟩ := okWide_slice Yba.underlying22 (hval 0 22 v0 rfl rfl)
  have lt0 : ∀ x ∈ p0, x.block < W.heap.size := by obtain ⟨m, hm⟩ := h0; exact DataW.trod_lt m _ _ _ hm
  obtain ⟨w0, m0⟩ := open_data h0
  obtain ⟨a1, len1, cap1, rfl⟩ := okWide_slice Yba.underlying22 (hval 1 22 v1 rfl rfl)
  have lt1 : ∀ x ∈ p1, x.block < W.heap.size := by obtain ⟨m, hm⟩ := h1; exact DataW.trod_lt m _ _ _ hm
  obtain ⟨w1, m1⟩ := open_data h1
  have lt2 : ∀ x ∈ p2, x.block < W.heap.size := by obtain ⟨m, hm⟩ := h2; exact DataW.trod_lt m _ _ _ hm
  obtain ⟨N, G, A0, A1, A2, L, F, rfl, g1, g2, g3, g4, g5⟩ := open_datum (hval 2 25 v2 rfl rfl) h2
  obtain ⟨a3, len3, cap3, rfl⟩ := okWide_slice Yba.underlying26 (hval 3 26 v3 rfl rfl)
  have lt3 : ∀ x ∈ p3, x.block < W.heap.size := by obtain ⟨m, hm⟩ := h3; exact DataW.trod_lt m _ _ _ hm
  obtain ⟨⟨zs, w3⟩, m3⟩ := open_bytes h3
  obtain ⟨a4, rfl, rfl, rfl, w4⟩ := open_int Yba.underlying5 (hval 4 5 v4 rfl rfl) h4
  clear hA0 hval0
  unfold maxLen at m0 m1 m3
  refine (walk a0 len0 cap0 a1 len1 cap1 N G A0 A1 A2 L F a3 len3 cap3 zs a4 W w0 w1 g1 g2 g3 g4 g5 w3 m0 m1 m3 (bounds_u8 w4)).mono fun e W' ⟨he, bel⟩ => ?_
  subst he
  exact ⟨_, rfl, _, _, _, [], _, [], hW', trodAll_mk1 (shut_bool Yba.underlying4 _), (trodAll_cons_mk (Below.trod laidOut (by kernel_rfl) (of_decide_eq_true (by kernel_rfl)) h0 bel lt0) (trodAll_cons_mk (Below.trod laidOut (by kernel_rfl) (of_decide_eq_true (by kernel_rfl)) h1 bel lt1) (trodAll_cons_mk (Below.trod laidOut (by kernel_rfl) (of_decide_eq_true (by kernel_rfl)) h2 bel lt2) (trodAll_cons_mk (Below.trod laidOut (by kernel_rfl) (of_decide_eq_true (by kernel_rfl)) h3 bel lt3) (trodAll_cons_mk (shut_int Yba.underlying5 w4) trodAll_mk0))))), rfl, bel.frame _, fun h => by cases h⟩

theorem over : Rows.lawS2942AModelRow.holds Yba.pinned (OpenSpec.ofChange Rows.lawS2942AModelSpec) :=
  OpenClaim.holds_of_wide 3 Yba.f3 rfl rfl rfl rfl rfl rfl rfl ⟨rfl, rfl, rfl, rfl, rfl⟩ rfl rfl rfl rfl rfl (by kernel_rfl) Yba.func3 (by kernel_rfl)
    (of_decide_eq_true (by kernel_rfl)) (by unfold Func.isWrapper; first | (rw [if_pos (by decide +kernel)]; kernel_rfl) | (rw [if_neg (by decide +kernel)]; exact ⟨rfl, rfl⟩))
    (fun os started H enc _ => lifted os started H enc)

/-- THE STATEMENT -/
theorem proved : Rows.LawS2942AModelSaid := over
end Go.Proofs.Ybulkbhxe.lawS2942AModel
