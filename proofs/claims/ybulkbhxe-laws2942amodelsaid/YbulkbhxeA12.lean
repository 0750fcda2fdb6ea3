/-
  (memory).store (function 12): the loop that keeps, in place, what is not hidden: what is known in each round.
-/
import Derived.Test.YbulkbhxeA11
namespace Go.Proofs.Ybulkbhxe.AMem
open Go.ChangeShapes Go.WideShapes Go.ChangeAt Go.RowKit
set_option linter.unusedVariables false

theorem own_more {w : World} {g c : Nat} {W : List Wr} {x : Wr} (h : w.ownsRow 0 36 7 (.slice (some ⟨g, 0, none⟩) (W.length + 1) c) (W.length + 1) (flat W ++ wc x)) : Own w g c (W ++ [x]) := by
  simpa [Own, flat_append, flat_one] using h

/-- Ahead of round i: K is kept at the row's head, the writes from i on lie where they lay. -/
structure Loop (w0 w : World) (M : Nat) (mc : Array Value) (r g cg : Nat) (WW : List Wr) (fb : Nat) (fl : List Nat) (i : Nat) (K : List Wr) : Prop where
  hM : w.heap[M]? = some (.cells mc 42 (0, 0))
  row : ∃ cur : Array Value, w.heap[g]? = some (.cells cur 36 (0, 0)) ∧ cur.size = cg * 7 ∧ (∀ t y, K[t]? = some y → Sits cur t y) ∧ ∀ t y, i ≤ t → WW[t]? = some y → Sits cur t y
  gs : Goods w WW
  clk : Clk w fb fl
  rest : Rest w0 M r w
  hg : g = r ∨ w0.heap.size ≤ g
  kl : K.length ≤ i
  nl : WW.length ≤ cg
  cm : cg ≤ maxLen
  keep : K ++ keepL fl (WW.drop i) = keepL fl WW
  sub : ∀ y, y ∈ K → y ∈ WW

theorem Loop.start {w0 w : World} {M : Nat} {mc : Array Value} {r g cg : Nat} {W : List Wr} {B : Nat} {x : Wr} {fb : Nat} {fl : List Nat} (h : Env2 w0 w M mc r W B x fb fl) (ho : Own w g cg (W ++ [x])) (hg : g = r ∨ w0.heap.size ≤ g) : Loop w0 w M mc r g cg (W ++ [x]) fb fl 0 [] := by
  obtain ⟨cur, hc, hn, hs, ht⟩ := ho.block
  refine ⟨h.hM, ⟨cur, hc, hs, fun t y hy => by simp at hy, fun t y _ hy => sits_of_take ht hy⟩, fun y hy => ?_, h.clk, h.rest, hg, Nat.zero_le _, hn, ho.cap_le, by simp, fun y hy => by cases hy⟩
  rcases List.mem_append.1 hy with hy | hy
  · exact h.gs y hy
  · simp at hy; subst hy; exact h.gx
theorem Loop.drewN {w0 w : World} {M : Nat} {mc : Array Value} {r g cg : Nat} {WW : List Wr} {fb : Nat} {fl : List Nat} {i : Nat} {K : List Wr} (h : Loop w0 w M mc r g cg WW fb fl i K) (n : Nat) : Loop w0 (w.drewN n) M mc r g cg WW fb fl i K :=
  ⟨h.hM, h.row, h.gs.drewN n, h.clk, h.rest.drewN n, h.hg, h.kl, h.nl, h.cm, h.keep, h.sub⟩
theorem Loop.at {w0 w : World} {M : Nat} {mc : Array Value} {r g cg : Nat} {WW : List Wr} {fb : Nat} {fl : List Nat} {i : Nat} {K : List Wr} (h : Loop w0 w M mc r g cg WW fb fl i K) {t : Nat} {y : Wr} (ht : i ≤ t) (hy : WW[t]? = some y) : At w g (t * 7) y := by
  obtain ⟨cur, hc, _, _, hs⟩ := h.row
  exact (hs t y ht hy).at hc
theorem Loop.atK {w0 w : World} {M : Nat} {mc : Array Value} {r g cg : Nat} {WW : List Wr} {fb : Nat} {fl : List Nat} {i : Nat} {K : List Wr} (h : Loop w0 w M mc r g cg WW fb fl i K) {t : Nat} {y : Wr} (hy : K[t]? = some y) : At w g (t * 7) y := by
  obtain ⟨cur, hc, _, hs, _⟩ := h.row
  exact (hs t y hy).at hc
theorem drop_cons {WW : List Wr} {i : Nat} {y : Wr} (hy : WW[i]? = some y) : WW.drop i = y :: WW.drop (i + 1) := by
  obtain ⟨hlt, rfl⟩ := List.getElem?_eq_some_iff.1 hy
  exact List.drop_eq_getElem_cons hlt
theorem Loop.skip {w0 w : World} {M : Nat} {mc : Array Value} {r g cg : Nat} {WW : List Wr} {fb : Nat} {fl : List Nat} {i : Nat} {K : List Wr} (h : Loop w0 w M mc r g cg WW fb fl i K) {y : Wr} (hy : WW[i]? = some y) (hh : hid fl y (WW.drop (i + 1)) = true) : Loop w0 w M mc r g cg WW fb fl (i + 1) K := by
  obtain ⟨cur, hc, hs, h1, h2⟩ := h.row
  refine ⟨h.hM, ⟨cur, hc, hs, h1, fun t z ht hz => h2 t z (by omega) hz⟩, h.gs, h.clk, h.rest, h.hg, by have := h.kl; omega, h.nl, h.cm, ?_, h.sub⟩
  have := h.keep
  rw [drop_cons hy, keepL, if_pos hh] at this
  exact this

theorem splice_sits {cur : Array Value} {k t cg : Nat} {y z : Wr} (hs : cur.size = cg * 7) (hk : k + 1 ≤ cg) (hne : t ≠ k) (h : Sits cur t z) : Sits (cur.toList.take (k * 7) ++ wc y ++ cur.toList.drop (k * 7 + (wc y).length)).toArray t z := by
  intro q hq
  have hl : (cur.toList.take (k * 7)).length = k * 7 := by rw [List.length_take, Array.length_toList]; omega
  rw [← h q hq, List.getElem?_toArray]
  rcases Nat.lt_or_ge t k with hlt | hge
  · rw [List.append_assoc, List.getElem?_append_left (by omega), List.getElem?_take_of_lt (by omega)]
    simp
  · rw [List.getElem?_append_right (by rw [List.length_append, hl, wc_length]; omega), List.length_append, hl, wc_length, List.getElem?_drop, show k * 7 + 7 + (t * 7 + q - (k * 7 + 7)) = t * 7 + q by omega]
    simp
theorem splice_new {cur : Array Value} {k cg : Nat} {y : Wr} (hs : cur.size = cg * 7) (hk : k + 1 ≤ cg) : Sits (cur.toList.take (k * 7) ++ wc y ++ cur.toList.drop (k * 7 + (wc y).length)).toArray k y := by
  intro q hq
  have hl : (cur.toList.take (k * 7)).length = k * 7 := by rw [List.length_take, Array.length_toList]; omega
  rw [List.getElem?_toArray, List.append_assoc, List.getElem?_append_right (by omega), hl, show k * 7 + q - k * 7 = q by omega, List.getElem?_append_left (by rw [wc_length]; exact hq)]
theorem splice_size {cur : Array Value} {k cg : Nat} {y : Wr} (hs : cur.size = cg * 7) (hk : k + 1 ≤ cg) : (cur.toList.take (k * 7) ++ wc y ++ cur.toList.drop (k * 7 + (wc y).length)).toArray.size = cg * 7 := by
  rw [List.size_toArray, List.length_append, List.length_append, List.length_take, List.length_drop, wc_length, Array.length_toList]
  omega

/-- 'kept = append(kept, ws[i])', in place. -/
theorem wpList_keep {ops : Array Oper} {rest : List Oper} {o : Oper} {a : Act} {Q : Exit → Act → World → Prop} (w : World) (hgd : o.guard = none) (s x : Operand)
    (ho : o.op = .call { callee := .builtin .append, args := #[s, x], argTypes := #[27, 27] })
    {w0 : World} {M : Nat} {mc : Array Value} {r g cg : Nat} {WW : List Wr} {fb : Nat} {fl : List Nat} {i : Nat} {K : List Wr} (L : Loop w0 w M mc r g cg WW fb fl i K)
    {y : Wr} (hy : WW[i]? = some y) (hh : hid fl y (WW.drop (i + 1)) = false) (k : Nat) (ek : k = K.length)
    (hs : a.eval s = .slice (some ⟨g, 0, none⟩) k cg) (hx : a.eval x = .slice (some ⟨w.heap.size, 0, none⟩) 1 1)
    (h : ∀ w', Loop w0 w' M mc r g cg WW fb fl (i + 1) (K ++ [y]) → wpList Yba.prog ops Q rest (a.put o.dst (.slice (some ⟨g, 0, none⟩) (k + 1) cg)) w') :
    wpList Yba.prog ops Q (o :: rest) a (w.alloc (.cells #[.int .i64 y.N, .string ByteArray.empty, .int .i64 0, .int .u64 0, .int .i64 (y.g : Int), .slice (some ⟨y.b, 0, none⟩) y.at'.length y.at'.length, .int .u64 y.f] 36)) := by
  obtain ⟨ti, hi, hz0, hz1, hz2⟩ := info_parts info36
  subst ek
  obtain ⟨cur, hc, hsz, h1, h2⟩ := L.row
  have hlt : i < WW.length := (List.getElem?_eq_some_iff.1 hy).1
  have hgl : g < w.heap.size := (Array.getElem?_eq_some_iff.1 hc).1
  have hroom : K.length + 1 ≤ cg := by have := L.kl; have := L.nl; omega
  have hb : Below w.heap.size w (w.alloc (.cells #[.int .i64 y.N, .string ByteArray.empty, .int .i64 0, .int .u64 0, .int .i64 (y.g : Int), .slice (some ⟨y.b, 0, none⟩) y.at'.length y.at'.length, .int .u64 y.f] 36)) := (Below.refl _ _).alloc (Nat.le_refl _) _
  have hc' := (hb.block g hgl).trans hc
  refine wpList_plain hgd fun J hJ => ?_
  have hr := run_append_room (P := Yba.prog) (w.alloc (.cells #[.int .i64 y.N, .string ByteArray.empty, .int .i64 0, .int .u64 0, .int .i64 (y.g : Int), .slice (some ⟨y.b, 0, none⟩) y.at'.length y.at'.length, .int .u64 y.f] 36)) 27 o.type 36 ti Yba.underlying27 hi g K.length cg cur hc' ⟨w.heap.size, 0, none⟩ 1 1 (wc y) (by rw [hz1]; rfl) (World.news_of_block (cs := (wc y).toArray) (heap_alloc_new w _)) (wc_oneCell y) hroom (by rw [hz1, wc_length, hsz]; omega)
  rw [hz1] at hr
  unfold Oper.wp execOp
  simp only [ho, resolve, invoke, builtin, Sem.run_bind, Sem.run_pure, Result.andThen_ok, List.map_toArray, List.map_cons, List.map_nil, hs, hx, hr]
  refine hJ _ _ (h _ ?_)
  have hother : ∀ k, k < w.heap.size → k ≠ g → ((w.alloc (.cells #[.int .i64 y.N, .string ByteArray.empty, .int .i64 0, .int .u64 0, .int .i64 (y.g : Int), .slice (some ⟨y.b, 0, none⟩) y.at'.length y.at'.length, .int .u64 y.f] 36)).setRow g (cur.toList.take (K.length * 7) ++ wc y ++ cur.toList.drop (K.length * 7 + (wc y).length)).toArray).heap[k]? = w.heap[k]? := fun k hk hn => (setRow_other _ g k _ hn).trans (hb.block k hk)
  have hcl : ∀ b l, Clk w b l → Clk ((w.alloc (.cells #[.int .i64 y.N, .string ByteArray.empty, .int .i64 0, .int .u64 0, .int .i64 (y.g : Int), .slice (some ⟨y.b, 0, none⟩) y.at'.length y.at'.length, .int .u64 y.f] 36)).setRow g (cur.toList.take (K.length * 7) ++ wc y ++ cur.toList.drop (K.length * 7 + (wc y).length)).toArray) b l := fun b l hb => (hother b hb.lt (hb.ne hc (by decide))).trans hb
  refine ⟨(hother M (Array.getElem?_eq_some_iff.1 L.hM).1 (ne_of_type L.hM hc (by decide))).trans L.hM, ⟨_, setRow_heap _ g cur _ 36 (0, 0) hc', splice_size hsz hroom, fun t z hz => ?_, fun t z ht hz => ?_⟩, fun z hz => ⟨hcl _ _ (L.gs z hz).clk, (L.gs z hz).lt, (L.gs z hz).small⟩, hcl _ _ L.clk, (L.rest.alloc _).setRow (.inr L.hg) _, L.hg, by have := L.kl; simp; omega, L.nl, L.cm, ?_, fun z hz => ?_⟩
  · by_cases e : t = K.length
    · subst e
      simp at hz
      subst hz
      exact splice_new hsz hroom
    · have htl : t < K.length := by
        have := (List.getElem?_eq_some_iff.1 hz).1
        simp at this
        omega
      rw [List.getElem?_append_left htl] at hz
      exact splice_sits hsz hroom e (h1 t z hz)
  · exact splice_sits hsz hroom (by have := L.kl; omega) (h2 t z (by omega) hz)
  · have := L.keep
    rw [drop_cons hy, keepL, if_neg (by simp [hh])] at this
    simpa using this
  · rcases List.mem_append.1 hz with hz | hz
    · exact L.sub z hz
    · simp at hz; subst hz; exact List.mem_of_getElem? hy

/-- The loop has ended: the kept ones are all that is kept. -/
theorem Loop.done {w0 w : World} {M : Nat} {mc : Array Value} {r g cg : Nat} {WW : List Wr} {fb : Nat} {fl : List Nat} {i : Nat} {K : List Wr} (h : Loop w0 w M mc r g cg WW fb fl i K) (hi : WW.length ≤ i) : K = keepL fl WW := by
  have := h.keep
  rw [List.drop_eq_nil_of_le hi] at this
  simpa [keepL] using this
/-- The first k of them as a row of its own. -/
theorem Loop.own {w0 w : World} {M : Nat} {mc : Array Value} {r g cg : Nat} {WW : List Wr} {fb : Nat} {fl : List Nat} {i : Nat} {K : List Wr} (h : Loop w0 w M mc r g cg WW fb fl i K) (hi : i ≤ WW.length) (K' T : List Wr) (hK : K = K' ++ T) : Own w g cg K' := by
  obtain ⟨cur, hc, hs, h1, _⟩ := h.row
  have hkl := h.kl
  have hnl := h.nl
  have hlen : K'.length ≤ K.length := by rw [hK]; simp
  refine Own.of hc (by omega) h.cm hs ?_
  apply List.ext_getElem?
  intro j
  by_cases hj : j < K'.length * 7
  · have hk : j / 7 < K'.length := by omega
    have hx : K'[j / 7]? = some K'[j / 7] := List.getElem?_eq_getElem hk
    have hx' : K[j / 7]? = some K'[j / 7] := by rw [hK, List.getElem?_append_left hk]; exact hx
    have e : j = j / 7 * 7 + j % 7 := by omega
    rw [List.getElem?_take_of_lt hj]
    have g1 := h1 _ _ hx' (j % 7) (by omega)
    have g2 := flat_get K' _ _ hx (j % 7) (by omega)
    rw [← e] at g1 g2
    rw [g2, ← g1]
    simp
  · rw [List.getElem?_eq_none (by simp; omega), List.getElem?_eq_none (by rw [flat_length]; omega)]
end Go.Proofs.Ybulkbhxe.AMem
