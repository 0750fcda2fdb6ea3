/-
  The walk of zzs2942amodel (function 13): what the model says of a store.
-/
import Derived.Test.YbulkbhxeA14
import Derived.Lib.QuietBelow
namespace Go.Proofs.Ybulkbhxe.AMem
open Go.ChangeShapes Go.WideShapes Go.ChangeAt Go.RowKit Go.Sort
set_option linter.unusedVariables false
attribute [local go_sem ↓] Go.wp_at_zero Go.wp_at_succ

theorem run_make27z (n : Nat) (hn : n ≤ 1025) (w : World) : (Instr.makeSlice 27 (.int .i64 0) (.int .i64 ((n : Int) + 1))).run Yba.prog w =
    .ok (.slice (some ⟨w.heap.size, 0, none⟩) 0 (n + 1)) (w.alloc (.cells (madeCells #[.int .i64 0, .string ByteArray.empty, .int .i64 0, .int .u64 0, .int .i64 0, .slice none 0 0, .int .u64 0] ((n + 1) * 7)) 36)) := by
  obtain ⟨i, hi, hz0, hz1, hz2⟩ := info_parts info36
  have h := run_make (P := Yba.prog) w 27 36 i _ Yba.underlying27 hi hz0 .i64 .i64 0 ((n : Int) + 1) (by omega) (by omega) (by rw [hz2]; omega) (by omega)
  rw [hz1, show ((n : Int) + 1).toNat = n + 1 by omega] at h
  simpa [Value.cells] using h

theorem own_room (w : World) (cap : Nat) (z : Array Value) (hm : cap ≤ maxLen) : (w.alloc (.cells (madeCells z (cap * 7)) 36)).ownsRow 0 36 7 (.slice (some ⟨w.heap.size, 0, none⟩) 0 cap) 0 [] :=
  World.ownsRow_made w _ cap (Nat.zero_le _) hm (size_madeCells _ _)

theorem own_below {w w' : World} {base n : Nat} {v : Value} {xs : List Value} (h : w.ownsRow base 36 7 v n xs) (hb : Below w.heap.size w w') : w'.ownsRow base 36 7 v n xs := by
  refine ⟨h.1, ?_⟩
  rcases h.2 with hn | ⟨g, cap, cur, rfl, hg, hh, rest⟩
  · exact .inl hn
  · exact .inr ⟨g, cap, cur, rfl, hg, (hb.block g (Array.getElem?_eq_some_iff.1 hh).1).trans hh, rest⟩

theorem keep_skip {fl : List Nat} {WW E : List Wr} {i : Nat} {y : Wr} (h : E.length ≤ i ∧ E ++ keepL fl (WW.drop i) = keepL fl WW ∧ ∀ y, y ∈ E → y ∈ WW) (hy : WW[i]? = some y) (hh : hid fl y (WW.drop (i + 1)) = true) :
    E.length ≤ i + 1 ∧ E ++ keepL fl (WW.drop (i + 1)) = keepL fl WW ∧ ∀ y, y ∈ E → y ∈ WW := by
  obtain ⟨h1, h2, h3⟩ := h
  rw [drop_cons hy, keepL, if_pos hh] at h2
  exact ⟨by omega, h2, h3⟩
theorem keep_push {fl : List Nat} {WW E : List Wr} {i : Nat} {y : Wr} (h : E.length ≤ i ∧ E ++ keepL fl (WW.drop i) = keepL fl WW ∧ ∀ y, y ∈ E → y ∈ WW) (hy : WW[i]? = some y) (hh : hid fl y (WW.drop (i + 1)) = false) :
    (E ++ [y]).length ≤ i + 1 ∧ (E ++ [y]) ++ keepL fl (WW.drop (i + 1)) = keepL fl WW ∧ ∀ z, z ∈ E ++ [y] → z ∈ WW := by
  obtain ⟨h1, h2, h3⟩ := h
  rw [drop_cons hy, keepL, if_neg (by simp [hh])] at h2
  refine ⟨by simp; omega, by simpa using h2, fun z hz => ?_⟩
  rcases List.mem_append.1 hz with hz | hz
  · exact h3 z hz
  · simp at hz; subst hz; exact List.mem_of_getElem? hy
theorem own_of_base {w : World} {base g cap : Nat} {E : List Wr} (h : w.ownsRow base 36 7 (.slice (some ⟨g, 0, none⟩) E.length cap) E.length (flat E)) : Own w g cap E := by
  refine ⟨h.1, ?_⟩
  rcases h.2 with hn | ⟨g', c, cur, hv, _, rest⟩
  · exact .inl hn
  · exact .inr ⟨g', c, cur, hv, Nat.zero_le _, rest⟩
theorem Own.front {w : World} {g cap : Nat} {P T : List Wr} (h : Own w g cap (P ++ T)) : Own w g cap P := by
  obtain ⟨cur, hg, hn, hs, ht⟩ := h.block
  rw [List.length_append] at hn
  refine Own.of hg (by omega) h.cap_le hs ?_
  have e : (cur.toList.take ((P ++ T).length * 7)).take (P.length * 7) = cur.toList.take (P.length * 7) := by
    rw [List.take_take, List.length_append, Nat.min_eq_left (by omega)]
  rw [← e, ht, flat_append, ← flat_length, List.take_left]
theorem bef26_is (x y : Wr) (w : World) (b : Bool) (hb : befB x y = b) (hx : Good w x) (hy : Good w y) :
    Calls Yba.prog 26 #[.agg #[.int .i64 x.N, .string ByteArray.empty, .int .i64 0, .int .u64 0, .int .i64 (x.g : Int), .slice (some ⟨x.b, 0, none⟩) x.at'.length x.at'.length, .int .u64 x.f], .agg #[.int .i64 y.N, .string ByteArray.empty, .int .i64 0, .int .u64 0, .int .i64 (y.g : Int), .slice (some ⟨y.b, 0, none⟩) y.at'.length y.at'.length, .int .u64 y.f]] w fun e w' => e = .returned (.bool b) ∧ Below w.heap.size w w' := by
  rw [← hb]
  exact bef26 x y w hx hy
theorem eq15_is (x y : Wr) (w : World) (b : Bool) (hb : eqB x y = b) (hx : Good w x) (hy : Good w y) :
    Calls Yba.prog 15 #[.agg #[.int .i64 x.N, .string ByteArray.empty, .int .i64 0, .int .u64 0, .int .i64 (x.g : Int), .slice (some ⟨x.b, 0, none⟩) x.at'.length x.at'.length, .int .u64 x.f], .agg #[.int .i64 y.N, .string ByteArray.empty, .int .i64 0, .int .u64 0, .int .i64 (y.g : Int), .slice (some ⟨y.b, 0, none⟩) y.at'.length y.at'.length, .int .u64 y.f]] w fun e w' => e = .returned (.bool b) ∧ Below w.heap.size w w' := by
  rw [← hb]
  exact eq15 x y w hx hy
theorem prec27_is (x : Wr) (cb : Nat) (cl : List Nat) (w : World) (b : Bool) (hb : precB x cl = b) (hx : Good w x) (hc : Clk w cb cl) (hl : cl.length ≤ 1024) :
    Calls Yba.prog 27 #[.agg #[.int .i64 x.N, .string ByteArray.empty, .int .i64 0, .int .u64 0, .int .i64 (x.g : Int), .slice (some ⟨x.b, 0, none⟩) x.at'.length x.at'.length, .int .u64 x.f], .slice (some ⟨cb, 0, none⟩) cl.length cl.length] w fun e w' => e = .returned (.bool b) ∧ Below w.heap.size w w' := by
  rw [← hb]
  exact prec27 x cb cl w hx hc hl

set_option maxRecDepth 20000 in
set_option maxHeartbeats 4000000 in
theorem model13 (r c fb : Nat) (W : List Wr) (x : Wr) (fl : List Nat) (w : World) (hW : Rows w r W) (gs : Goods w W) (gx : Good w x) (clk : Clk w fb fl) (hl : W.length ≤ 1024) (hfl : fl.length ≤ 1024) :
    Calls Yba.prog 13 #[.slice (some ⟨r, 0, none⟩) W.length c, .agg #[.int .i64 x.N, .string ByteArray.empty, .int .i64 0, .int .u64 0, .int .i64 (x.g : Int), .slice (some ⟨x.b, 0, none⟩) x.at'.length x.at'.length, .int .u64 x.f], .slice (some ⟨fb, 0, none⟩) fl.length fl.length] w fun e w' => ∃ g cap, e = .returned (.slice (some ⟨g, 0, none⟩) (res fl W x).length cap) ∧ Own w' g cap (res fl W x) ∧ Below w.heap.size w w' := by
  obtain ⟨ti, hi, hz0, hz1, hz2⟩ := info_parts info36
  obtain ⟨n, hn⟩ : ∃ n, n = W.length := ⟨_, rfl⟩
  have HN : Hid (n = W.length) := hn
  have hmk := run_make27z n (by omega)
  have hba : ∀ o, Below w.heap.size w (w.alloc o) := fun o => (Below.refl _ _).alloc (Nat.le_refl _) _
  have hbb : ∀ o o', Below w.heap.size w ((w.alloc o).alloc o') := fun o o' => (hba o).alloc (by simp) _
  have hfw : (flat W).length = n * 7 := by rw [flat_length, hn]
  have HFW : Hid ((flat W).length = n * 7) := hfw
  rw [← hn] at hl ⊢
  clear hn hfw
  go_enter Yba.func13, Yba.ntmps13
  go_wp2_with (at_builtin; refine wpList_append_fits _ rfl (.tmp 17) (.tmp 18) 27 rfl 0 36 ti 7 Yba.underlying27 hi hz1 (w.heap.size + 1) 0 (n + 1) [] rfl ?c0 ⟨r, 0, none⟩ n c (flat W) rfl HFW.out ?c1 (flat_oneCell W) ?c3 ?_)
  case c0 => have := own_room (w.alloc (.cells #[.int .i64 x.N, .string ByteArray.empty, .int .i64 0, .int .u64 0, .int .i64 (x.g : Int), .slice (some ⟨x.b, 0, none⟩) x.at'.length x.at'.length, .int .u64 x.f] 36)) (n + 1) #[.int .i64 0, .string ByteArray.empty, .int .i64 0, .int .u64 0, .int .i64 0, .slice none 0 0, .int .u64 0] (by unfold maxLen; omega); simpa using this
  case c1 => exact (hW.below (hbb _ _)).news
  case c3 => omega
  intro w1 hown1 hgrow1
  have own1 : w1.ownsRow 0 36 7 (.slice (some ⟨w.heap.size + 1, 0, none⟩) n (n + 1)) n (flat W) := by simpa using hown1
  have box1 : w1.heap[w.heap.size]? = some (.cells (wc x).toArray 36 (0, 0)) := (hgrow1.block w.heap.size (by simp; omega) (by simp)).trans ((Below.heap_alloc _ _ _ (by simp)).trans (heap_alloc_new w _))
  have b1 : Below w.heap.size w w1 := (hbb _ _).grown hgrow1 (by simp; omega) (fun k hk => by simp at hk; omega)
  have z1 : w.heap.size + 2 ≤ w1.heap.size := by have := hgrow1.size; simpa using this
  obtain ⟨x0, x1, x2, x3, x4, x5, x6⟩ := At.of_block box1
  simp only [Nat.zero_add] at x0 x1 x2 x3 x4 x5 x6
  clear hown1 hgrow1 hmk
  go_wp2_with (at_builtin; refine wpList_append_fits _ rfl (.tmp 20) (.tmp 22) 27 rfl 0 36 ti 7 Yba.underlying27 hi hz1 (w.heap.size + 1) n (n + 1) (flat W) rfl ?d0 ⟨w1.heap.size, 0, none⟩ 1 1 (wc x) rfl rfl ?d1 (wc_oneCell x) ?d3 ?_)
  case d0 => exact World.ownsRow.alloc own1 _
  case d1 => exact World.news_of_block (cs := (wc x).toArray) (heap_alloc_new w1 _)
  case d3 => omega
  intro w2 hown2 hgrow2
  obtain ⟨WW, hWW⟩ : ∃ WW, WW = W ++ [x] := ⟨_, rfl⟩
  have own2 : Own w2 (w.heap.size + 1) (n + 1) WW := by
    rw [hWW]
    refine own_more ?_
    rw [← HN.out]
    exact hown2
  have b2 : Below w.heap.size w w2 := (b1.alloc (by omega) _).grown hgrow2 (by simp; omega) (fun k hk => by simp at hk; omega)
  have gs2 : Goods w2 WW := fun y hy => by
    rw [hWW] at hy
    rcases List.mem_append.1 hy with hy | hy
    · exact (gs y hy).below b2
    · simp at hy; subst hy; exact gx.below b2
  have ck2 := clk.below b2
  have HWL : Hid (WW.length = n + 1) := by show _ = _; rw [hWW, List.length_append, ← HN.out]; rfl
  have HWW : Hid (WW = W ++ [x]) := hWW
  clear hown2 hgrow2 x0 x1 x2 x3 x4 x5 x6 box1 own1 b1 z1 hWW hba hbb
  go_wp2_with fail
  go_loopw [9, 8] (fun ci ve wr => ∃ (i : Nat) (E : List Wr), ci = .int .i64 (i : Int) ∧ i ≤ n + 1 ∧ wr.ownsRow w2.heap.size 36 7 ve E.length (flat E) ∧ Below w2.heap.size w2 wr ∧ Hid (E.length ≤ i ∧ E ++ keepL fl (WW.drop i) = keepL fl WW ∧ ∀ y, y ∈ E → y ∈ WW)) (fun ci _ _ => n + 1 - (intOf ci).toNat)
  case atStart => exact ⟨0, [], rfl, Nat.zero_le _, World.ownsRow_nil _ _ _ _, Below.refl _ _, ⟨Nat.zero_le _, by simp, fun y hy => by cases hy⟩⟩
  case round =>
    obtain ⟨i, E, rfl, hin, hE, hb, HE⟩ := hrel
    obtain ⟨wo, hwo⟩ : ∃ wo, wo = wr := ⟨_, rfl⟩
    subst hwo
    by_cases hlt : i < n + 1
    · obtain ⟨xi, hxi⟩ : ∃ xi, WW[i]? = some xi := ⟨WW[i]'(by rw [HWL.out]; exact hlt), List.getElem?_eq_getElem _⟩
      have HXI : Hid (WW[i]? = some xi) := hxi
      clear hxi
      have hdi : decide ((i : Int) < (n : Int) + 1) = true := decide_eq_true (by omega)
      have hiI : (i : Int) < (n : Int) + 1 := by omega
      have hi0 : (0 : Int) ≤ (i : Int) := by omega
      have hCi : ∀ V, Below w2.heap.size w2 V → V.cell? ⟨w.heap.size + 1, i * 7, none⟩ = some (.int .i64 xi.N) ∧ V.cell? ⟨w.heap.size + 1, i * 7 + 1, none⟩ = some (.string ByteArray.empty) ∧ V.cell? ⟨w.heap.size + 1, i * 7 + 2, none⟩ = some (.int .i64 0) ∧ V.cell? ⟨w.heap.size + 1, i * 7 + 3, none⟩ = some (.int .u64 0) ∧ V.cell? ⟨w.heap.size + 1, i * 7 + 4, none⟩ = some (.int .i64 (xi.g : Int)) ∧ V.cell? ⟨w.heap.size + 1, i * 7 + 5, none⟩ = some (.slice (some ⟨xi.b, 0, none⟩) xi.at'.length xi.at'.length) ∧ V.cell? ⟨w.heap.size + 1, i * 7 + 6, none⟩ = some (.int .u64 xi.f) := fun V hV => by
        obtain ⟨a0, a1, a2, a3, a4, a5, a6⟩ := (own2.rows i xi HXI.out).below hV
        exact ⟨a0, a1, a2, a3, a4, a5, a6⟩
      have HCI : Hid (∀ V, Below w2.heap.size w2 V → V.cell? ⟨w.heap.size + 1, i * 7, none⟩ = some (.int .i64 xi.N) ∧ V.cell? ⟨w.heap.size + 1, i * 7 + 1, none⟩ = some (.string ByteArray.empty) ∧ V.cell? ⟨w.heap.size + 1, i * 7 + 2, none⟩ = some (.int .i64 0) ∧ V.cell? ⟨w.heap.size + 1, i * 7 + 3, none⟩ = some (.int .u64 0) ∧ V.cell? ⟨w.heap.size + 1, i * 7 + 4, none⟩ = some (.int .i64 (xi.g : Int)) ∧ V.cell? ⟨w.heap.size + 1, i * 7 + 5, none⟩ = some (.slice (some ⟨xi.b, 0, none⟩) xi.at'.length xi.at'.length) ∧ V.cell? ⟨w.heap.size + 1, i * 7 + 6, none⟩ = some (.int .u64 xi.f)) := hCi
      have Gi := gs2 xi (List.mem_of_getElem? HXI.out)
      clear hCi
      go_wp2_with fail
      go_loopw [10, 11] (fun ch cj wi => ∃ j : Nat, ch = .bool false ∧ cj = .int .i64 (j : Int) ∧ i + 1 ≤ j ∧ j ≤ n + 1 ∧ Below w2.heap.size w2 wi ∧ wi.ownsRow w2.heap.size 36 7 u8 E.length (flat E) ∧ Hid (∀ t y, i + 1 ≤ t → t < j → WW[t]? = some y → (befB xi y && precB y fl) = false)) (fun _ cj _ => n + 1 - (intOf cj).toNat)
      case atStart => exact ⟨i + 1, rfl, by go_num, Nat.le_refl _, by omega, hb, hE, fun t y h1 h2 => by omega⟩
      case round =>
        obtain ⟨wi, hwwi⟩ : ∃ wi, wi = wr := ⟨_, rfl⟩
        subst hwwi
        obtain ⟨j, rfl, rfl, hij, hjn, hbi, hEi, HT⟩ := hrel
        by_cases hjlt : j < n + 1
        · obtain ⟨yj, hyj⟩ : ∃ yj, WW[j]? = some yj := ⟨WW[j]'(by rw [HWL.out]; exact hjlt), List.getElem?_eq_getElem _⟩
          have HYJ : Hid (WW[j]? = some yj) := hyj
          have hCj : ∀ V, Below w2.heap.size w2 V → V.cell? ⟨w.heap.size + 1, j * 7, none⟩ = some (.int .i64 yj.N) ∧ V.cell? ⟨w.heap.size + 1, j * 7 + 1, none⟩ = some (.string ByteArray.empty) ∧ V.cell? ⟨w.heap.size + 1, j * 7 + 2, none⟩ = some (.int .i64 0) ∧ V.cell? ⟨w.heap.size + 1, j * 7 + 3, none⟩ = some (.int .u64 0) ∧ V.cell? ⟨w.heap.size + 1, j * 7 + 4, none⟩ = some (.int .i64 (yj.g : Int)) ∧ V.cell? ⟨w.heap.size + 1, j * 7 + 5, none⟩ = some (.slice (some ⟨yj.b, 0, none⟩) yj.at'.length yj.at'.length) ∧ V.cell? ⟨w.heap.size + 1, j * 7 + 6, none⟩ = some (.int .u64 yj.f) := fun V hV => by
            obtain ⟨a0, a1, a2, a3, a4, a5, a6⟩ := (own2.rows j yj HYJ.out).below hV
            exact ⟨a0, a1, a2, a3, a4, a5, a6⟩
          have HCJ : Hid (∀ V, Below w2.heap.size w2 V → V.cell? ⟨w.heap.size + 1, j * 7, none⟩ = some (.int .i64 yj.N) ∧ V.cell? ⟨w.heap.size + 1, j * 7 + 1, none⟩ = some (.string ByteArray.empty) ∧ V.cell? ⟨w.heap.size + 1, j * 7 + 2, none⟩ = some (.int .i64 0) ∧ V.cell? ⟨w.heap.size + 1, j * 7 + 3, none⟩ = some (.int .u64 0) ∧ V.cell? ⟨w.heap.size + 1, j * 7 + 4, none⟩ = some (.int .i64 (yj.g : Int)) ∧ V.cell? ⟨w.heap.size + 1, j * 7 + 5, none⟩ = some (.slice (some ⟨yj.b, 0, none⟩) yj.at'.length yj.at'.length) ∧ V.cell? ⟨w.heap.size + 1, j * 7 + 6, none⟩ = some (.int .u64 yj.f)) := hCj
          have Gj := gs2 yj (List.mem_of_getElem? HYJ.out)
          obtain ⟨a0, a1, a2, a3, a4, a5, a6⟩ := HCI.out wi hbi
          obtain ⟨d0, d1, d2, d3, d4, d5, d6⟩ := HCJ.out wi hbi
          have hjI : (j : Int) < (n : Int) + 1 := by omega
          have hj0 : (0 : Int) ≤ (j : Int) := by omega
          have k0 := cell_regrown a0
          have k1 := cell_regrown a1
          have k2 := cell_regrown a2
          have k3 := cell_regrown a3
          have k4 := cell_regrown a4
          have k5 := cell_regrown a5
          have k6 := cell_regrown a6
          have l0 := cell_regrown d0
          have l1 := cell_regrown d1
          have l2 := cell_regrown d2
          have l3 := cell_regrown d3
          have l4 := cell_regrown d4
          have l5 := cell_regrown d5
          have l6 := cell_regrown d6
          clear hyj hCj a0 a1 a2 a3 a4 a5 a6 d0 d1 d2 d3 d4 d5 d6
          cases hbf : befB xi yj
          · have HT' : Hid (∀ t y, i + 1 ≤ t → t < j + 1 → WW[t]? = some y → (befB xi y && precB y fl) = false) := not_yet HT.out HYJ.out (by rw [hbf]; rfl)
            have c26 : ∀ d os, Calls Yba.prog 26 #[.agg #[.int .i64 xi.N, .string ByteArray.empty, .int .i64 0, .int .u64 0, .int .i64 (xi.g : Int), .slice (some ⟨xi.b, 0, none⟩) xi.at'.length xi.at'.length, .int .u64 xi.f], .agg #[.int .i64 yj.N, .string ByteArray.empty, .int .i64 0, .int .u64 0, .int .i64 (yj.g : Int), .slice (some ⟨yj.b, 0, none⟩) yj.at'.length yj.at'.length, .int .u64 yj.f]] (grow (redrawn wi d) os) fun e w'' => e = .returned (.bool false) ∧ ∃ p : Regrown, w'' = grow (redrawn wi p.d) p.os := fun d os => Calls.regrown_of (bef26_is xi yj _ false hbf (Gi.below (hbi.trans ((below_regrown wi d os).mono hbi.size))) (Gj.below (hbi.trans ((below_regrown wi d os).mono hbi.size))))
            clear HT
            go_wp2_with fail
            refine wp_region_quiet_below (by kernel_rfl) (by kernel_rfl) ?_
            repeat (first | go_big_quiet_step ((go_at_call 26; exact c26 _ _)) | quiet_step ((go_at_call 26; exact c26 _ _)))
            refine wpQuiet_nil ?_
            intro _ hw'
            obtain ⟨⟨dq, osq⟩, hw''⟩ := hw'
            subst hw''
            have hbA := below_regrown wi dq osq
            generalize grow (redrawn wi dq) osq = wA at *
            have hbB : Below w2.heap.size w2 wA := hbi.trans (hbA.mono hbi.size)
            have hEA := own_below hEi hbA
            clear hbA k0 k1 k2 k3 k4 k5 k6 l0 l1 l2 l3 l4 l5 l6 c26
            go_wp2
            go_roundw
            case rel => exact ⟨j + 1, rfl, by go_num, by omega, by omega, hbB, hEA, HT'⟩
            case measure => simp [intOf]; omega
          · cases hpf : precB yj fl
            · have HT' : Hid (∀ t y, i + 1 ≤ t → t < j + 1 → WW[t]? = some y → (befB xi y && precB y fl) = false) := not_yet HT.out HYJ.out (by rw [hpf, Bool.and_false])
              have c26 : ∀ d os, Calls Yba.prog 26 #[.agg #[.int .i64 xi.N, .string ByteArray.empty, .int .i64 0, .int .u64 0, .int .i64 (xi.g : Int), .slice (some ⟨xi.b, 0, none⟩) xi.at'.length xi.at'.length, .int .u64 xi.f], .agg #[.int .i64 yj.N, .string ByteArray.empty, .int .i64 0, .int .u64 0, .int .i64 (yj.g : Int), .slice (some ⟨yj.b, 0, none⟩) yj.at'.length yj.at'.length, .int .u64 yj.f]] (grow (redrawn wi d) os) fun e w'' => e = .returned (.bool true) ∧ ∃ p : Regrown, w'' = grow (redrawn wi p.d) p.os := fun d os => Calls.regrown_of (bef26_is xi yj _ true hbf (Gi.below (hbi.trans ((below_regrown wi d os).mono hbi.size))) (Gj.below (hbi.trans ((below_regrown wi d os).mono hbi.size))))
              have c27 : ∀ d os, Calls Yba.prog 27 #[.agg #[.int .i64 yj.N, .string ByteArray.empty, .int .i64 0, .int .u64 0, .int .i64 (yj.g : Int), .slice (some ⟨yj.b, 0, none⟩) yj.at'.length yj.at'.length, .int .u64 yj.f], .slice (some ⟨fb, 0, none⟩) fl.length fl.length] (grow (redrawn wi d) os) fun e w'' => e = .returned (.bool false) ∧ ∃ p : Regrown, w'' = grow (redrawn wi p.d) p.os := fun d os => Calls.regrown_of (prec27_is yj fb fl _ false hpf (Gj.below (hbi.trans ((below_regrown wi d os).mono hbi.size))) (ck2.below (hbi.trans ((below_regrown wi d os).mono hbi.size))) hfl)
              clear HT
              go_wp2_with fail
              refine wp_region_quiet_below (by kernel_rfl) (by kernel_rfl) ?_
              repeat (first | go_big_quiet_step ((first | (go_at_call 26; exact c26 _ _) | (go_at_call 27; exact c27 _ _))) | quiet_step ((first | (go_at_call 26; exact c26 _ _) | (go_at_call 27; exact c27 _ _))))
              refine wpQuiet_nil ?_
              intro _ hw'
              obtain ⟨⟨dq, osq⟩, hw''⟩ := hw'
              subst hw''
              have hbA := below_regrown wi dq osq
              generalize grow (redrawn wi dq) osq = wA at *
              have hbB : Below w2.heap.size w2 wA := hbi.trans (hbA.mono hbi.size)
              have hEA := own_below hEi hbA
              clear hbA k0 k1 k2 k3 k4 k5 k6 l0 l1 l2 l3 l4 l5 l6 c26 c27
              go_wp2
              go_roundw
              case rel => exact ⟨j + 1, rfl, by go_num, by omega, by omega, hbB, hEA, HT'⟩
              case measure => simp [intOf]; omega
            · have hh : hid fl xi (WW.drop (i + 1)) = true := hid_of HYJ.out (by omega) (by rw [hbf, hpf]; rfl)
              have HE' : Hid (E.length ≤ i + 1 ∧ E ++ keepL fl (WW.drop (i + 1)) = keepL fl WW ∧ ∀ y, y ∈ E → y ∈ WW) := keep_skip HE.out HXI.out hh
              have c26 : ∀ d os, Calls Yba.prog 26 #[.agg #[.int .i64 xi.N, .string ByteArray.empty, .int .i64 0, .int .u64 0, .int .i64 (xi.g : Int), .slice (some ⟨xi.b, 0, none⟩) xi.at'.length xi.at'.length, .int .u64 xi.f], .agg #[.int .i64 yj.N, .string ByteArray.empty, .int .i64 0, .int .u64 0, .int .i64 (yj.g : Int), .slice (some ⟨yj.b, 0, none⟩) yj.at'.length yj.at'.length, .int .u64 yj.f]] (grow (redrawn wi d) os) fun e w'' => e = .returned (.bool true) ∧ ∃ p : Regrown, w'' = grow (redrawn wi p.d) p.os := fun d os => Calls.regrown_of (bef26_is xi yj _ true hbf (Gi.below (hbi.trans ((below_regrown wi d os).mono hbi.size))) (Gj.below (hbi.trans ((below_regrown wi d os).mono hbi.size))))
              have c27 : ∀ d os, Calls Yba.prog 27 #[.agg #[.int .i64 yj.N, .string ByteArray.empty, .int .i64 0, .int .u64 0, .int .i64 (yj.g : Int), .slice (some ⟨yj.b, 0, none⟩) yj.at'.length yj.at'.length, .int .u64 yj.f], .slice (some ⟨fb, 0, none⟩) fl.length fl.length] (grow (redrawn wi d) os) fun e w'' => e = .returned (.bool true) ∧ ∃ p : Regrown, w'' = grow (redrawn wi p.d) p.os := fun d os => Calls.regrown_of (prec27_is yj fb fl _ true hpf (Gj.below (hbi.trans ((below_regrown wi d os).mono hbi.size))) (ck2.below (hbi.trans ((below_regrown wi d os).mono hbi.size))) hfl)
              clear HT HE hh
              go_wp2_with fail
              refine wp_region_quiet_below (by kernel_rfl) (by kernel_rfl) ?_
              repeat (first | go_big_quiet_step ((first | (go_at_call 26; exact c26 _ _) | (go_at_call 27; exact c27 _ _))) | quiet_step ((first | (go_at_call 26; exact c26 _ _) | (go_at_call 27; exact c27 _ _))))
              refine wpQuiet_nil ?_
              intro _ hw'
              obtain ⟨⟨dq, osq⟩, hw''⟩ := hw'
              subst hw''
              have hbA := below_regrown wi dq osq
              generalize grow (redrawn wi dq) osq = wA at *
              have hbB : Below w2.heap.size w2 wA := hbi.trans (hbA.mono hbi.size)
              have hEA := own_below hEi hbA
              clear hbA k0 k1 k2 k3 k4 k5 k6 l0 l1 l2 l3 l4 l5 l6 c26 c27
              go_wp2
              go_roundw
              case rel => exact ⟨i + 1, E, by go_num, by omega, hEA, hbB, HE'⟩
              case measure => simp [intOf]; omega
        · have hh : hid fl xi (WW.drop (i + 1)) = false := hid_not HT.out (by rw [HWL.out]; omega)
          have HE' : Hid ((E ++ [xi]).length ≤ i + 1 ∧ (E ++ [xi]) ++ keepL fl (WW.drop (i + 1)) = keepL fl WW ∧ ∀ y, y ∈ E ++ [xi] → y ∈ WW) := keep_push HE.out HXI.out hh
          have hEl : E.length ≤ 1026 := by have := HE.out.1; omega
          have hbz := hbi.size
          obtain ⟨a0, a1, a2, a3, a4, a5, a6⟩ := HCI.out wi hbi
          clear HT HE hh hE hb
          go_wp2_with (at_builtin; refine wpList_append_lies _ rfl (.tmp 57) (.tmp 62) 27 rfl w2.heap.size 36 ti _ 7 80 Yba.underlying27 hi hz0 hz1 hz2 rfl (by decide) _ E.length (flat E) rfl (World.ownsRow.alloc hEi _) ⟨wi.heap.size, 0, none⟩ 1 1 (wc xi) rfl rfl ?e1 (wc_oneCell xi) (by decide) ?e3 ?e4 ?e5 _ rfl ?_)
          case e1 => exact World.news_of_block (cs := (wc xi).toArray) (heap_alloc_new wi _)
          case e3 => unfold maxLen; omega
          case e4 => omega
          case e5 => simp; omega
          intro gg cg w3 hown3 hgrow3 hat3 hlt3
          have hb3 : Below w2.heap.size w2 w3 := (hbi.alloc hbz _).grown hgrow3 (by simp; omega) (fun k hk => (hEi.lt k hk).1)
          have hE3 : w3.ownsRow w2.heap.size 36 7 (.slice (some ⟨gg, 0, none⟩) (E.length + 1) cg) (E ++ [xi]).length (flat (E ++ [xi])) := by
            rw [flat_append, flat_one, List.length_append]
            exact hown3
          clear hown3 hgrow3 hat3 hlt3 a0 a1 a2 a3 a4 a5 a6 hEi hbi
          go_wp2
          go_roundw
          case rel => exact ⟨i + 1, E ++ [xi], by go_num, by omega, hE3, hb3, HE'⟩
          case measure => simp [intOf]; omega
    · have hK : E = keepL fl WW := by
        have := HE.out.2.1
        rw [List.drop_eq_nil_of_le (by rw [HWL.out]; omega)] at this
        simpa [keepL] using this
      have hne : 0 < E.length := by rw [hK, HWW.out, keepL_snoc, List.length_append]; simp
      obtain ⟨gg, cg, rfl, _, _⟩ := hE.form hne
      have oE : Own wo gg cg E := own_of_base hE
      have gE : Goods wo E := fun y hy => (gs2 y (HE.out.2.2 y hy)).below hb
      have hEl : E.length ≤ 1026 := by have := HE.out.1; omega
      have HKK : Hid (E = keepL fl WW) := hK
      have bw : Below w.heap.size w wo := b2.trans (hb.mono b2.size)
      clear hK hE
      rcases two_forms E with hs | ⟨E', y, z, hEyz⟩
      · obtain ⟨kn, hkn⟩ : ∃ kn, kn = E.length := ⟨_, rfl⟩
        have hkI : decide ((1 : Int) < (kn : Int)) = false := decide_eq_false (by omega)
        have HR : Hid (res fl W x = E) := by show _ = _; rw [res, ← HWW.out, ← HKK.out]; exact dedup_short hs
        have HKN : Hid (kn = E.length) := hkn
        rw [← hkn] at hEl ⊢
        clear hkn hs
        go_wp2_with fail
        go_quiet (fail)
        go_wp2
        go_ret
        refine ⟨gg, cg, ?_, ?_, below_drewN bw nq⟩
        · rw [HR.out, ← HKN.out]; rfl
        · rw [HR.out]; exact oE
      · obtain ⟨k2, hk2⟩ : ∃ k2, k2 = E'.length := ⟨_, rfl⟩
        have hk : E.length = k2 + 2 := by rw [hEyz, List.length_append, ← hk2]; rfl
        obtain ⟨a0, a1, a2, a3, a4, a5, a6⟩ := oE.rows k2 y (by rw [hEyz, hk2]; simp)
        obtain ⟨d0, d1, d2, d3, d4, d5, d6⟩ := oE.rows (k2 + 1) z (by rw [hEyz, hk2]; simp)
        have Gy := gE y (by rw [hEyz]; simp)
        have Gz := gE z (by rw [hEyz]; simp)
        have hres : res fl W x = if eqB y z then E' ++ [y] else E := by rw [res, ← HWW.out, ← HKK.out, hEyz]; exact dedup_two E' y z
        have oF : Own wo gg cg (E' ++ [y]) := Own.front (T := [z]) (by rw [hEyz] at oE; simpa using oE)
        have HK2 : Hid (k2 = E'.length) := hk2
        have HKL : Hid (E.length = k2 + 2) := hk
        have hkc : k2 + 2 ≤ cg := by obtain ⟨_, _, h, _⟩ := oE.block; omega
        have k0 := cell_regrown a0
        have k1 := cell_regrown a1
        have k2' := cell_regrown a2
        have k3 := cell_regrown a3
        have k4 := cell_regrown a4
        have k5 := cell_regrown a5
        have k6 := cell_regrown a6
        have l0 := cell_regrown d0
        have l1 := cell_regrown d1
        have l2 := cell_regrown d2
        have l3 := cell_regrown d3
        have l4 := cell_regrown d4
        have l5 := cell_regrown d5
        have l6 := cell_regrown d6
        rw [hk] at hEl ⊢
        clear hEyz hk2 hk a0 a1 a2 a3 a4 a5 a6 d0 d1 d2 d3 d4 d5 d6 hne
        have hkI : decide ((1 : Int) < (k2 : Int) + 2) = true := decide_eq_true (by omega)
        cases he : eqB y z
        · rw [he, if_neg (by simp)] at hres
          have HR : Hid (res fl W x = E) := hres
          have c15 : ∀ d os, Calls Yba.prog 15 #[.agg #[.int .i64 y.N, .string ByteArray.empty, .int .i64 0, .int .u64 0, .int .i64 (y.g : Int), .slice (some ⟨y.b, 0, none⟩) y.at'.length y.at'.length, .int .u64 y.f], .agg #[.int .i64 z.N, .string ByteArray.empty, .int .i64 0, .int .u64 0, .int .i64 (z.g : Int), .slice (some ⟨z.b, 0, none⟩) z.at'.length z.at'.length, .int .u64 z.f]] (grow (redrawn wo d) os) fun e w'' => e = .returned (.bool false) ∧ ∃ p : Regrown, w'' = grow (redrawn wo p.d) p.os := fun d os => Calls.regrown_of (eq15_is y z _ false he (Gy.below (below_regrown wo d os)) (Gz.below (below_regrown wo d os)))
          clear hres
          go_wp2_with fail
          refine wp_region_quiet_below (by kernel_rfl) (by kernel_rfl) ?_
          repeat (first | go_big_quiet_step (((go_at_call 15; exact c15 _ _))) | quiet_step (((go_at_call 15; exact c15 _ _))))
          refine wpQuiet_nil ?_
          intro _ hw'
          obtain ⟨⟨dq, osq⟩, hw''⟩ := hw'
          subst hw''
          have hbA := below_regrown wo dq osq
          generalize grow (redrawn wo dq) osq = wA at *
          clear k0 k1 k2' k3 k4 k5 k6 l0 l1 l2 l3 l4 l5 l6 c15
          go_wp2
          go_ret
          refine ⟨gg, cg, ?_, ?_, bw.trans (hbA.mono bw.size)⟩
          · rw [HR.out, HKL.out]; rfl
          · rw [HR.out]; exact oE.below hbA
        · rw [he, if_pos rfl] at hres
          have HR : Hid (res fl W x = E' ++ [y]) := hres
          have HL : Hid ((E' ++ [y]).length = k2 + 1) := by show _ = _; rw [List.length_append, ← HK2.out]; rfl
          have c15 : ∀ d os, Calls Yba.prog 15 #[.agg #[.int .i64 y.N, .string ByteArray.empty, .int .i64 0, .int .u64 0, .int .i64 (y.g : Int), .slice (some ⟨y.b, 0, none⟩) y.at'.length y.at'.length, .int .u64 y.f], .agg #[.int .i64 z.N, .string ByteArray.empty, .int .i64 0, .int .u64 0, .int .i64 (z.g : Int), .slice (some ⟨z.b, 0, none⟩) z.at'.length z.at'.length, .int .u64 z.f]] (grow (redrawn wo d) os) fun e w'' => e = .returned (.bool true) ∧ ∃ p : Regrown, w'' = grow (redrawn wo p.d) p.os := fun d os => Calls.regrown_of (eq15_is y z _ true he (Gy.below (below_regrown wo d os)) (Gz.below (below_regrown wo d os)))
          clear hres
          go_wp2_with fail
          refine wp_region_quiet_below (by kernel_rfl) (by kernel_rfl) ?_
          repeat (first | go_big_quiet_step (((go_at_call 15; exact c15 _ _))) | quiet_step (((go_at_call 15; exact c15 _ _))))
          refine wpQuiet_nil ?_
          intro _ hw'
          obtain ⟨⟨dq, osq⟩, hw''⟩ := hw'
          subst hw''
          have hbA := below_regrown wo dq osq
          generalize grow (redrawn wo dq) osq = wA at *
          clear k0 k1 k2' k3 k4 k5 k6 l0 l1 l2 l3 l4 l5 l6 c15
          go_wp2
          go_ret
          refine ⟨gg, cg, ?_, ?_, bw.trans (hbA.mono bw.size)⟩
          · rw [HR.out, HL.out]; rfl
          · rw [HR.out]; exact oF.below hbA
end Go.Proofs.Ybulkbhxe.AMem
