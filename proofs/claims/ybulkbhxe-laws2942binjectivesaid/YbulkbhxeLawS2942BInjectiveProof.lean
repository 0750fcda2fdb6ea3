/-
  The proof of 'Rows.LawS2942BInjectiveSaid'. The frame is the kit's shell (proof-skeleton.mjs) at this function's number and types, with 'Below' in the place of 'Grown'; the walk is ours.
-/
import Derived.Test.YbulkbhxeRows
import Derived.Test.YbulkbhxeB4
import Derived.WalkKit
import Derived.ProofKit
import Derived.OpenShut
import Derived.ShutString
namespace Go.Proofs.Ybulkbhxe.lawS2942BInjective
open Go.ChangeShapes Go.WideShapes Go.ChangeAt Go.RowKit
open Go.ChangeMaps (open_string shut_string)
open Go.Proofs.Ybulkbhxe.BVal
set_option linter.unusedVariables false      -- a walk need not use every 'w<i>' (that an integer argument fits its kind)

theorem own : ownKnob Yba.prog.godebug = none := by kernel_rfl

/-! ### STEP 1: THE WALK: the Go text returns true. 'Grown w w'': the world has at most new blocks (Derived/RowKit3.lean). Part the cases AHEAD of 'go_enter' where a test parts the walk; take each callee by a contract of your own. -/
theorem xor_nat (a : Nat) (d : Int) (ha : a < 18446744073709551616) : ∃ D : Nat, D < 18446744073709551616 ∧ bits .xor .u64 (a : Int) (IntKind.u64.wrap d) = (D : Int) := by
  have h0 : 0 ≤ IntKind.u64.wrap d ∧ IntKind.u64.wrap d < 18446744073709551616 := by rw [IntKind.wrap_u64]; omega
  refine ⟨((a : Int).toNat ^^^ (IntKind.u64.wrap d).toNat), ?_, ?_⟩
  · exact Nat.xor_lt_two_pow (n := 64) (by omega) (by omega)
  · exact u64_xor _ _ (by omega) (by omega) h0.1 h0.2

theorem eq_of_toList {s t : ByteArray} (h : s.toList = t.toList) : s = t := by
  rw [ByteArray.toList_eq, ByteArray.toList_eq] at h
  cases s; cases t
  simpa using h

theorem walk (a0 : Int) (a1 : Int) (a2 : Int) (a3 : ByteArray) (a4 : Int) (a5 : Int) (a6 : ByteArray) (w0 : (Lit.int .u64 a0).wf = true) (w1 : (Lit.int .i64 a1).wf = true) (w2 : (Lit.int .i64 a2).wf = true) (w3 : a3.size ≤ maxLen) (w4 : (Lit.int .u8 a4).wf = true) (w5 : (Lit.int .i64 a5).wf = true) (w6 : a6.size ≤ maxLen) (w : World) :
    Calls Yba.prog 6 #[.int .u64 a0, .int .i64 a1, .int .i64 a2, .string a3, .int .u8 a4, .int .i64 a5, .string a6] w fun e w' => e = .returned (.bool true) ∧ Below w.heap.size w w' := by
  unfold maxLen at w3 w6
  by_cases hs : (4096 : Int) < (a3.size : Int)
  · go_enter Yba.func6, Yba.ntmps6
    go_wp2
    go_ret
    exact ⟨rfl, Below.refl _ _⟩
  by_cases ht : (4096 : Int) < (a6.size : Int)
  · go_enter Yba.func6, Yba.ntmps6
    go_wp2
    go_ret
    exact ⟨rfl, Below.refl _ _⟩
  have b0 := bounds_u64 w0
  have b1 := bounds_i64 w1
  have b2 := bounds_i64 w2
  have b4 := bounds_u8 w4
  have hs' : a3.size ≤ 4096 := by omega
  have ht' : a6.size ≤ 4096 := by omega
  obtain ⟨dep, rfl⟩ := Int.eq_ofNat_of_zero_le b0.1
  have hdep := uv_len64 dep (by omega)
  rcases (show a4 % 5 = 0 ∨ a4 % 5 = 1 ∨ a4 % 5 = 2 ∨ a4 % 5 = 3 ∨ a4 % 5 = 4 by omega) with h | h | h | h | h
  · exact inj0 dep a1 a2 a3 a4 a5 a6 w hdep b1.1 b1.2 b2.1 b2.2 hs' ht' b4.1 (by omega) h
  · obtain ⟨D, hD, hx⟩ := xor_nat dep a5 (by omega)
    by_cases e : (dep : Int) = (D : Int)
    · exact inj1e dep a1 a2 a3 a4 a5 a6 w hdep b1.1 b1.2 b2.1 b2.2 hs' ht' b4.1 (by omega) h D (uv_len64 D hD) hx (by omega)
    · exact inj1n dep a1 a2 a3 a4 a5 a6 w hdep b1.1 b1.2 b2.1 b2.2 hs' ht' b4.1 (by omega) h D (uv_len64 D hD) hx e
  · have hb := bounds_i64 (wrap64_wf (a1 + a5))
    by_cases e : a1 = wrap64 (a1 + a5)
    · exact inj2e dep a1 a2 a3 a4 a5 a6 w hdep b1.1 b1.2 b2.1 b2.2 hs' ht' b4.1 (by omega) h _ hb.1 hb.2 rfl e
    · exact inj2n dep a1 a2 a3 a4 a5 a6 w hdep b1.1 b1.2 b2.1 b2.2 hs' ht' b4.1 (by omega) h _ hb.1 hb.2 rfl e
  · have hb := bounds_i64 (wrap64_wf (a2 + a5))
    by_cases e : a2 = wrap64 (a2 + a5)
    · exact inj3e dep a1 a2 a3 a4 a5 a6 w hdep b1.1 b1.2 b2.1 b2.2 hs' ht' b4.1 (by omega) h _ hb.1 hb.2 rfl e
    · exact inj3n dep a1 a2 a3 a4 a5 a6 w hdep b1.1 b1.2 b2.1 b2.2 hs' ht' b4.1 (by omega) h _ hb.1 hb.2 rfl e
  · by_cases e : a3.toList = a6.toList
    · exact inj4e dep a1 a2 a3 a4 a5 a6 w hdep b1.1 b1.2 b2.1 b2.2 hs' ht' b4.1 (by omega) h (eq_of_toList e)
    · exact inj4n dep a1 a2 a3 a4 a5 a6 w hdep b1.1 b1.2 b2.1 b2.2 hs' ht' b4.1 (by omega) h e

/-! ### THE ROW's STEP: WRITTEN OUT: LEAVE IT -/
set_option maxRecDepth 100000 in
theorem lifted (os : Os) (started : os.Started) (H : Type) (en : TypeId × Value → H) :
    ReturnsInHanded {} Yba.checked os 6 .any (Rows.lawS2942BInjectiveSpec.pre6 en Yba.prog Yba.f6 Rows.lawS2942BInjectiveRow.domain false) (Rows.lawS2942BInjectiveSpec.post en Yba.prog Yba.f6 false true false false) := by
  refine returnsInHanded_of_change (C := Yba.checked) own started (by kernel_rfl) Yba.func6
    (ChangeSpec.witness6 (enc := en) (C := Yba.checked) false ⟨#[], #[.int .u64 0, .int .i64 0, .int .i64 0, .string ByteArray.empty, .int .u8 0, .int .i64 0, .string ByteArray.empty], []⟩ 8 (by kernel_rfl) (by kernel_rfl) (by kernel_rfl) (by kernel_rfl)) ?_
  intro W base args ds gs before hval0 hW hcnd _
  have hval : ∀ (j : Nat) t v, Yba.f6.params[j]? = some t → args[j]? = some v → Value.okWide Yba.prog W .any base t v := hval0
  have hW' := hW
  obtain ⟨p, q, hA0, hV, rfl, hfz, hnd⟩ := hW
  have hA : DataW.TrodAll en Yba.prog W 0 (fun _ => true) true Yba.f6.params.toList args.toList ds p := hA0
  rw [Yba.params6] at hA hval
  obtain ⟨v0, vs0, d0, ds0, p0, q0, hargs, rfl, rfl, h0, r0⟩ := trodAll_cons hA
  obtain ⟨v1, vs1, d1, ds1, p1, q1, rfl, rfl, rfl, h1, r1⟩ := trodAll_cons r0
  obtain ⟨v2, vs2, d2, ds2, p2, q2, rfl, rfl, rfl, h2, r2⟩ := trodAll_cons r1
  obtain ⟨v3, vs3, d3, ds3, p3, q3, rfl, rfl, rfl, h3, r3⟩ := trodAll_cons r2
  obtain ⟨v4, vs4, d4, ds4, p4, q4, rfl, rfl, rfl, h4, r4⟩ := trodAll_cons r3
  obtain ⟨v5, vs5, d5, ds5, p5, q5, rfl, rfl, rfl, h5, r5⟩ := trodAll_cons r4
  obtain ⟨v6, vs6, d6, ds6, p6, q6, rfl, rfl, rfl, h6, r6⟩ := trodAll_cons r5
  obtain ⟨rfl, rfl, rfl⟩ := trodAll_nil r6
  obtain rfl : args = #[v0, v1, v2, v3, v4, v5, v6] := by cases args; simp_all
  obtain ⟨rfl, rfl⟩ := trodVars_none hV
  obtain ⟨a0, rfl, rfl, rfl, w0⟩ := open_int Yba.underlying29 (hval 0 29 v0 rfl rfl) h0
  obtain ⟨a1, rfl, rfl, rfl, w1⟩ := open_int Yba.underlying2 (hval 1 2 v1 rfl rfl) h1
  obtain ⟨a2, rfl, rfl, rfl, w2⟩ := open_int Yba.underlying2 (hval 2 2 v2 rfl rfl) h2
  obtain ⟨a3, rfl, rfl, rfl, w3⟩ := open_string Yba.underlying9 (hval 3 9 v3 rfl rfl) h3
  obtain ⟨a4, rfl, rfl, rfl, w4⟩ := open_int Yba.underlying5 (hval 4 5 v4 rfl rfl) h4
  obtain ⟨a5, rfl, rfl, rfl, w5⟩ := open_int Yba.underlying2 (hval 5 2 v5 rfl rfl) h5
  obtain ⟨a6, rfl, rfl, rfl, w6⟩ := open_string Yba.underlying9 (hval 6 9 v6 rfl rfl) h6
  clear hA0 hval0
  refine (walk a0 a1 a2 a3 a4 a5 a6 w0 w1 w2 w3 w4 w5 w6 W).mono fun e W' ⟨he, bel⟩ => ?_
  subst he
  exact ⟨_, rfl, _, _, _, [], _, [], hW', trodAll_mk1 (shut_bool Yba.underlying4 _), (trodAll_cons_mk (shut_int Yba.underlying29 w0) (trodAll_cons_mk (shut_int Yba.underlying2 w1) (trodAll_cons_mk (shut_int Yba.underlying2 w2) (trodAll_cons_mk (shut_string Yba.underlying9 w3) (trodAll_cons_mk (shut_int Yba.underlying5 w4) (trodAll_cons_mk (shut_int Yba.underlying2 w5) (trodAll_cons_mk (shut_string Yba.underlying9 w6) trodAll_mk0))))))), rfl, bel.frame _, fun h => by cases h⟩

theorem over : Rows.lawS2942BInjectiveRow.holds Yba.pinned (OpenSpec.ofChange Rows.lawS2942BInjectiveSpec) :=
  OpenClaim.holds_of_wide 6 Yba.f6 rfl rfl rfl rfl rfl rfl rfl ⟨rfl, rfl, rfl, rfl, rfl⟩ rfl rfl rfl rfl rfl (by kernel_rfl) Yba.func6 (by kernel_rfl)
    (of_decide_eq_true (by kernel_rfl)) (by unfold Func.isWrapper; first | (rw [if_pos (by decide +kernel)]; kernel_rfl) | (rw [if_neg (by decide +kernel)]; exact ⟨rfl, rfl⟩))
    (fun os started H en _ => lifted os started H en)

/-- ████ THE STATEMENT ████ -/
theorem proved : Rows.LawS2942BInjectiveSaid :=
  over
end Go.Proofs.Ybulkbhxe.lawS2942BInjective
