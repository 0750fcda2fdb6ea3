/-
  The walk of slices.Clone at rows of writes (function 11).
-/
import Derived.Test.YbulkbhxeA6
namespace Go.Proofs.Ybulkbhxe.AMem
open Go.ChangeShapes Go.WideShapes Go.ChangeAt Go.RowKit
set_option linter.unusedVariables false

theorem Rows.news {w : World} {r : Nat} {W : List Wr} (h : Rows w r W) : ∀ j u, (flat W)[j]? = some u → w.cell? ((⟨r, 0, none⟩ : Addr).add j) = some u := by
  intro j u hu
  have hj : j < W.length * 7 := by rw [← flat_length]; exact (List.getElem?_eq_some_iff.1 hu).1
  have hadd : (⟨r, 0, none⟩ : Addr).add j = ⟨r, j, none⟩ := by unfold Addr.add; split <;> simp_all
  have hk : j / 7 < W.length := by omega
  have hx : W[j / 7]? = some W[j / 7] := List.getElem?_eq_getElem hk
  obtain ⟨c0, c1, c2, c3, c4, c5, c6⟩ := h _ _ hx
  have e : j = j / 7 * 7 + j % 7 := by omega
  have h2 := flat_get W _ _ hx (j % 7) (by omega)
  rw [← e, hu] at h2
  rw [hadd, h2]
  have hq : j % 7 < 7 := by omega
  generalize W[j / 7] = x at *
  generalize j % 7 = q at *
  generalize j / 7 * 7 = o at *
  rw [e]
  match q, hq with
  | 0, _ => exact c0
  | 1, _ => exact c1
  | 2, _ => exact c2
  | 3, _ => exact c3
  | 4, _ => exact c4
  | 5, _ => exact c5
  | 6, _ => exact c6

theorem own_made (w : World) : (w.alloc (.cells #[] 36)).ownsRow 0 36 7 (.slice (some ⟨w.heap.size, 0, none⟩) 0 0) 0 [] :=
  World.ownsRow_made w #[] 0 (Nat.zero_le _) (Nat.zero_le _) rfl

set_option maxRecDepth 20000 in
set_option maxHeartbeats 400000 in
theorem clone11 (r c : Nat) (W : List Wr) (w : World) (h : Rows w r W) (hl : W.length ≤ 2000) :
    Calls Yba.prog 11 #[.slice (some ⟨r, 0, none⟩) W.length c] w fun e w' => ∃ r' cap, e = .returned (.slice (some ⟨r', 0, none⟩) W.length cap) ∧ Own w' r' cap W ∧ Below w.heap.size w w' ∧ w.heap.size ≤ r' := by
  have q27 : ∀ (w : World) (a : Option Addr) (n c n' c' : Nat), (binOp .eql 27 (.slice a n c) (.slice none n' c')).run Yba.prog w = .ok (.bool a.isNone) w := fun w a n c n' c' => Lib.run_eql_slice_nil w _ _ a n c n' c' Yba.underlying27
  by_cases h0 : 0 < W.length
  · obtain ⟨i, hi, hz0, hz1, hz2⟩ := info_parts info36
    go_enter Yba.func11, Yba.ntmps11
    go_wp2_with (at_builtin; refine wpList_append_lies _ rfl (.tmp 5) (.tmp 6) 27 rfl 0 36 i _ 7 80 Yba.underlying27 hi hz0 hz1 hz2 rfl (by decide) _ 0 [] rfl ?c0 ⟨r, 0, none⟩ W.length c (flat W) rfl (flat_length W) ?c1 (flat_oneCell W) h0 ?c3 ?c4 (Nat.zero_le _) _ rfl ?_)
    case c0 => exact own_made w
    case c1 => exact (h.below ((Below.refl _ _).alloc (Nat.le_refl _) _)).news
    case c3 => unfold maxLen; omega
    case c4 => omega
    intro g cap w1 hown hgrow hat hlt
    have hb : Below w.heap.size w w1 := ((Below.refl _ _).alloc (Nat.le_refl _) _).grown hgrow (by simp) (fun k hk => by simp [Value.ownBlock] at hk; omega)
    have hg : w.heap.size ≤ g := by
      rcases hat with hat | hat
      · simp [Value.ownBlock] at hat; omega
      · omega
    have hown' : Own w1 g cap W := by simpa [Own] using hown
    clear hown hgrow hat
    go_wp2
    go_ret
    exact ⟨g, cap, rfl, hown', hb, hg⟩
  · have e : W = [] := List.eq_nil_of_length_eq_zero (by omega)
    subst e
    obtain ⟨i, hi, hz0, hz1, hz2⟩ := info_parts info36
    go_enter Yba.func11, Yba.ntmps11
    go_wp2_with (at_builtin; refine wpList_append_fits _ rfl (.tmp 5) (.tmp 6) 27 rfl 0 36 i 7 Yba.underlying27 hi hz1 w.heap.size 0 0 [] rfl ?d0 ⟨r, 0, none⟩ 0 c [] rfl rfl ?d1 ?d2 ?d3 ?_)
    case d0 => exact own_made w
    case d1 => simp
    case d2 => simp
    case d3 => simp
    intro w1 hown hgrow
    have hb : Below w.heap.size w w1 := ((Below.refl _ _).alloc (Nat.le_refl _) _).grown hgrow (by simp) (fun k hk => by simp at hk; omega)
    have hown' : Own w1 w.heap.size 0 [] := by simpa [Own, flat] using hown
    clear hown hgrow
    go_wp2
    go_ret
    exact ⟨w.heap.size, 0, rfl, hown', hb, Nat.le_refl _⟩
end Go.Proofs.Ybulkbhxe.AMem
