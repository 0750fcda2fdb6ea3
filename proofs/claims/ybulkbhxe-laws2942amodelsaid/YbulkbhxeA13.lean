/-
  The walk of (memory).store (function 12), the other case.
-/
import Derived.Test.YbulkbhxeA12
namespace Go.Proofs.Ybulkbhxe.AMem
open Go.ChangeShapes Go.WideShapes Go.ChangeAt Go.RowKit
set_option linter.unusedVariables false
attribute [local go_sem ↓] Go.wp_at_zero Go.wp_at_succ

theorem not_yet {WW : List Wr} {xi yj : Wr} {fl : List Nat} {i j : Nat} (h : ∀ t y, i + 1 ≤ t → t < j → WW[t]? = some y → (befB xi y && precB y fl) = false) (hy : WW[j]? = some yj) (hb : (befB xi yj && precB yj fl) = false) :
    ∀ t y, i + 1 ≤ t → t < j + 1 → WW[t]? = some y → (befB xi y && precB y fl) = false := by
  intro t y h1 h2 h3
  by_cases e : t = j
  · subst e
    rw [hy] at h3
    injection h3 with h3
    rw [← h3]
    exact hb
  · exact h t y h1 (by omega) h3
theorem Done.drewN {w0 w : World} {M v : Nat} {mc : Array Value} {r : Nat} {K : List Wr} (h : Done w0 M v mc r K w) (n : Nat) : Done w0 M v mc r K (w.drewN n) := by
  obtain ⟨g, cap, h1, h2, h3, h4⟩ := h
  exact ⟨g, cap, h1, h2, h3.drewN n, h4⟩
theorem cell_there {w : World} {M : Nat} {mc : Array Value} (h : w.heap[M]? = some (.cells mc 42 (0, 0))) {j : Nat} (hj : j < mc.size) : (∃ u, w.cell? ⟨M, j, none⟩ = some u) ∧ w.frozen? ⟨M, j, none⟩ = false :=
  ⟨⟨mc[j], by rw [cell_of_row w M _ mc 42 (0, 0) h]; exact Array.getElem?_eq_getElem hj⟩, frozen_of_row w M _ mc 42 h⟩
theorem two_forms (K : List Wr) : K.length ≤ 1 ∨ ∃ K' y z, K = K' ++ [y, z] := by
  rcases snoc_form K with rfl | ⟨K1, z, rfl⟩
  · exact .inl (by simp)
  · rcases snoc_form K1 with rfl | ⟨K2, y, rfl⟩
    · exact .inl (by simp)
    · exact .inr ⟨K2, y, z, by simp⟩
theorem dedup_short {K : List Wr} (h : K.length ≤ 1) : dedup K = K := by
  match K, h with
  | [], _ => rfl
  | [x], _ => rfl
theorem dedup_two (K : List Wr) (y z : Wr) : dedup (K ++ [y, z]) = if eqB y z then K ++ [y] else K ++ [y, z] := by
  rw [dedup, twin_two]
  split
  · rw [show K ++ [y, z] = (K ++ [y]) ++ [z] by simp, List.dropLast_concat]
  · rfl
theorem hid_of {WW : List Wr} {xi yj : Wr} {fl : List Nat} {i j : Nat} (hy : WW[j]? = some yj) (hij : i + 1 ≤ j) (hb : (befB xi yj && precB yj fl) = true) : hid fl xi (WW.drop (i + 1)) = true := by
  rw [hid, List.any_eq_true]
  refine ⟨yj, ?_, hb⟩
  apply List.mem_of_getElem? (i := j - (i + 1))
  rw [List.getElem?_drop, show i + 1 + (j - (i + 1)) = j by omega]
  exact hy
theorem hid_not {WW : List Wr} {xi : Wr} {fl : List Nat} {i j : Nat} (h : ∀ t y, i + 1 ≤ t → t < j → WW[t]? = some y → (befB xi y && precB y fl) = false) (hj : WW.length ≤ j) : hid fl xi (WW.drop (i + 1)) = false := by
  rw [hid, List.any_eq_false]
  intro y hy
  obtain ⟨t, ht⟩ := List.mem_iff_getElem?.1 hy
  rw [List.getElem?_drop] at ht
  have := (List.getElem?_eq_some_iff.1 ht).1
  rw [h (i + 1 + t) y (by omega) (by omega) ht]
  simp

set_option maxRecDepth 20000 in
set_option maxHeartbeats 4000000 in
theorem store_slow1 (M v mn r cap fb : Nat) (mc : Array Value) (W : List Wr) (x : Wr) (fl : List Nat) (w : World) (hv : v < mn) (hmn : mn ≤ 2)
    (hM : w.heap[M]? = some (.cells mc 42 (0, 0))) (ms : mc.size = mn * 2) (mv : mc[v * 2 + 1]? = some (.slice (some ⟨r, 0, none⟩) W.length cap))
    (own : Own w r cap W) (gs : Goods w W) (gx : Good w x) (clk : Clk w fb fl) (hl : W.length ≤ 1500) (hfl : fl.length ≤ 1024)
    (hp : precB x fl = false) :
    Calls Yba.prog 12 #[.slice (some ⟨M, 0, none⟩) mn mn, .int .i64 (v : Int), .agg #[.int .i64 x.N, .string ByteArray.empty, .int .i64 0, .int .u64 0, .int .i64 (x.g : Int), .slice (some ⟨x.b, 0, none⟩) x.at'.length x.at'.length, .int .u64 x.f], .slice (some ⟨fb, 0, none⟩) fl.length fl.length] w fun e w' => e = .returned (.tuple #[]) ∧ Done w M v mc r (res fl W x) w' := by
  obtain ⟨i, hi, hz0, hz1, hz2⟩ := info_parts info36
  have E := Env.start hM ms mv own gs gx clk
  have hvI : (v : Int) < (mn : Int) := by omega
  have hv0 : (0 : Int) ≤ (v : Int) := by omega
  go_enter Yba.func12, Yba.ntmps12
  go_wp2_with fail
  go_step3
  go_wp2_with fail
  refine (prec22 w.heap.size 0 fb x fl _ E.at E.gx E.clk hfl).mono ?_
  rintro e W1 ⟨rfl, n1, hw1⟩
  have E1 := E.drewN n1
  rw [← hw1] at E1
  clear hw1 E
  obtain ⟨W2, hW2⟩ : ∃ W2, W2 = W1 := ⟨_, rfl⟩
  subst hW2
  have E2 := E1
  clear E1
  obtain ⟨m0, mf⟩ := E2.cellM
  obtain ⟨c0, c1, c2, c3, c4, c5, c6⟩ := E2.at
  simp only [Nat.zero_add] at c0 c1 c2 c3 c4 c5 c6
  have hml : M < W2.heap.size := (Array.getElem?_eq_some_iff.1 E2.hM).1
  have hbl : w.heap.size < W2.heap.size := (Array.getElem?_eq_some_iff.1 E2.box).1
  have ho := E2.own
  obtain ⟨n, hn⟩ : ∃ n, n = W.length := ⟨_, rfl⟩
  have HN : Hid (n = W.length) := hn
  have hmr := E2.mv
  rw [← hn] at m0 hl mv hmr
  have ho' : W2.ownsRow 0 36 7 (.slice (some ⟨r, 0, none⟩) n cap) n (flat W) := by rw [hn]; exact ho
  clear hn
  go_wp2_with fail
  go_region_held3 (fun w' => w'.cell? ⟨M, v * 2 + 1, none⟩ = some (.slice (some ⟨r, 0, none⟩) n cap) ∧ w'.cell? ⟨w.heap.size, 0, none⟩ = some (.int .i64 x.N) ∧ w'.cell? ⟨w.heap.size, 1, none⟩ = some (.string ByteArray.empty) ∧ w'.cell? ⟨w.heap.size, 2, none⟩ = some (.int .i64 0) ∧ w'.cell? ⟨w.heap.size, 3, none⟩ = some (.int .u64 0) ∧ w'.cell? ⟨w.heap.size, 4, none⟩ = some (.int .i64 (x.g : Int)) ∧ w'.cell? ⟨w.heap.size, 5, none⟩ = some (.slice (some ⟨x.b, 0, none⟩) x.at'.length x.at'.length) ∧ w'.cell? ⟨w.heap.size, 6, none⟩ = some (.int .u64 x.f)) (go_keep)
    ((refine step_append_lies _ (by rfl) (.tmp 37) (.tmp 39) 27 (by rfl) 0 36 i _ 7 80 Yba.underlying27 hi hz0 hz1 hz2 rfl (by decide) (.slice (some ⟨r, 0, none⟩) n cap) n (flat W) (by rfl) (by exact World.ownsRow.alloc ho' _) ⟨W2.heap.size, 0, none⟩ 1 1 (wc x) (by rfl) rfl (by exact World.news_of_block (cs := (wc x).toArray) (heap_alloc_new W2 _)) (wc_oneCell x) (by decide) (by unfold maxLen; omega) (by omega) (Nat.zero_le _) (W2.heap.size + 1) (by simp) ?_; intro g cg w3 hown3 hgrow3 hat3 hlt3; have E3 := E2.grown (undrew_grown (by exact hgrow3)); have m3 : w3.cell? ⟨M, v * 2 + 1, none⟩ = some (.slice (some ⟨r, 0, none⟩) n cap) := (by rw [cell_of_row w3 M _ mc 42 (0, 0) E3.hM]; exact hmr); obtain ⟨d0, d1, d2, d3, d4, d5, d6⟩ := At.of_block E3.box; simp only [Nat.zero_add] at d0 d1 d2 d3 d4 d5 d6))
  have ho3 : Own w3 g cg (W ++ [x]) := own_more (by rw [← HN.out]; exact hown3)
  have hg3 : g = r ∨ w.heap.size ≤ g := by
    rcases hat3 with hat3 | hat3
    · simp [Value.ownBlock] at hat3; omega
    · omega
  have mf3 : w3.frozen? ⟨M, v * 2 + 1, none⟩ = false := frozen_of_row w3 M _ mc 42 E3.hM
  have L0 := Loop.start E3 ho3 hg3
  obtain ⟨WW, hWW⟩ : ∃ WW, WW = W ++ [x] := ⟨_, rfl⟩
  have hwl : WW.length = n + 1 := by rw [hWW, List.length_append, ← HN.out]; rfl
  have HWL : Hid (WW.length = n + 1) := hwl
  have HWW : Hid (WW = W ++ [x]) := hWW
  rw [← hWW] at L0
  clear hown3 hgrow3 hat3 d0 d1 d2 d3 d4 d5 d6 c0 c1 c2 c3 c4 c5 c6 m0 mf ho' ho hml hbl E2 E3 ho3 m3 mf3 hlt3 hWW hwl
  go_wp2_with fail
  go_step3
  go_wp2_with fail
  go_loopw [45, 9] (fun c k wr => ∃ (i : Nat) (K : List Wr), c = .int .i64 (i : Int) ∧ k = .slice (some ⟨g, 0, none⟩) K.length cg ∧ i ≤ n + 1 ∧ Loop w wr M mc r g cg WW fb fl i K) (fun c _ _ => n + 1 - (intOf c).toNat)
  case atStart => exact ⟨0, [], rfl, rfl, Nat.zero_le _, L0⟩
  case round =>
    obtain ⟨i, K, rfl, rfl, hin, L⟩ := hrel
    obtain ⟨wo, hwo⟩ : ∃ wo, wo = wr := ⟨_, rfl⟩
    subst hwo
    clear L0
    obtain ⟨kn, hkn⟩ : ∃ kn, kn = K.length := ⟨_, rfl⟩
    have HKN : Hid (kn = K.length) := hkn
    have hki : kn ≤ i := by rw [hkn]; exact L.kl
    have hcg : n + 1 ≤ cg := by have := L.nl; rw [HWL.out] at this; exact this
    rw [← hkn]
    clear hkn
    by_cases hlt : i < n + 1
    · obtain ⟨xi, hxi⟩ : ∃ xi, WW[i]? = some xi := ⟨WW[i]'(by rw [HWL.out]; exact hlt), List.getElem?_eq_getElem _⟩
      have HXI : Hid (WW[i]? = some xi) := hxi
      have Ai := L.at (Nat.le_refl i) hxi
      have Gi := L.gs xi (List.mem_of_getElem? hxi)
      clear hxi
      have hdi : decide ((i : Int) < (n : Int) + 1) = true := decide_eq_true (by omega)
      go_wp2_with fail
      go_loopw [11] (fun c wi => ∃ j : Nat, c = .int .i64 (j : Int) ∧ i + 1 ≤ j ∧ j ≤ n + 1 ∧ (∃ m, wi = wo.drewN m) ∧ Hid (∀ t y, i + 1 ≤ t → t < j → WW[t]? = some y → (befB xi y && precB y fl) = false)) (fun c _ => n + 1 - (intOf c).toNat)
      case atStart => exact ⟨i + 1, by go_num, Nat.le_refl _, by omega, ⟨0, rfl⟩, fun t y h1 h2 => by omega⟩
      case round =>
        obtain ⟨wi, hwwi⟩ : ∃ wi, wi = wr := ⟨_, rfl⟩
        subst hwwi
        obtain ⟨j, rfl, hij, hjn, ⟨m, hwi⟩, HT⟩ := hrel
        have HWI : Hid (wi = wo.drewN m) := hwi
        have Ai' : At wi g (i * 7) xi := by rw [hwi]; exact Ai.drewN m
        have Gi' : Good wi xi := by rw [hwi]; exact Gi.drewN m
        have Li : Loop w wi M mc r g cg WW fb fl i K := by rw [hwi]; exact L.drewN m
        clear hwi
        by_cases hjlt : j < n + 1
        · obtain ⟨yj, hyj⟩ : ∃ yj, WW[j]? = some yj := ⟨WW[j]'(by rw [HWL.out]; exact hjlt), List.getElem?_eq_getElem _⟩
          have HYJ : Hid (WW[j]? = some yj) := hyj
          have Aj := Li.at (by omega) hyj
          have Gj := Li.gs yj (List.mem_of_getElem? hyj)
          have hck := Li.clk
          clear hyj
          have hjI : (j : Int) < (n : Int) + 1 := by omega
          have hiI : (i : Int) < (n : Int) + 1 := by omega
          cases hb : befB xi yj
          · have HT' : Hid (∀ t y, i + 1 ≤ t → t < j + 1 → WW[t]? = some y → (befB xi y && precB y fl) = false) := not_yet HT.out HYJ.out (by rw [hb]; rfl)
            clear HT
            go_wp2_with fail
            go_quiet ((go_at_call 24; exact Calls.quiet_of (bef24 g (i * 7) g (j * 7) xi yj _ (Ai'.drewN _) (Aj.drewN _) (Gi'.drewN _) (Gj.drewN _))))
            go_wp2
            go_roundw
            case rel => exact ⟨j + 1, by go_num, by omega, by omega, ⟨m + nq, by rw [HWI.out, World.drewN_drewN]⟩, HT'⟩
            case measure => simp [intOf]; omega
          · cases hp' : precB yj fl
            · have HT' : Hid (∀ t y, i + 1 ≤ t → t < j + 1 → WW[t]? = some y → (befB xi y && precB y fl) = false) := not_yet HT.out HYJ.out (by rw [hp', Bool.and_false])
              clear HT
              go_wp2_with fail
              go_quiet ((first | (go_at_call 24; exact Calls.quiet_of (bef24 g (i * 7) g (j * 7) xi yj _ (Ai'.drewN _) (Aj.drewN _) (Gi'.drewN _) (Gj.drewN _))) | (go_at_call 22; exact Calls.quiet_of (prec22 g (j * 7) fb yj fl _ (Aj.drewN _) (Gj.drewN _) hck hfl))))
              go_wp2
              go_roundw
              case rel => exact ⟨j + 1, by go_num, by omega, by omega, ⟨m + nq, by rw [HWI.out, World.drewN_drewN]⟩, HT'⟩
              case measure => simp [intOf]; omega
            · have hh : hid fl xi (WW.drop (i + 1)) = true := hid_of HYJ.out (by omega) (by rw [hb, hp']; rfl)
              have L' := Li.skip HXI.out hh
              clear HT hh
              go_wp2_with fail
              go_quiet ((first | (go_at_call 24; exact Calls.quiet_of (bef24 g (i * 7) g (j * 7) xi yj _ (Ai'.drewN _) (Aj.drewN _) (Gi'.drewN _) (Gj.drewN _))) | (go_at_call 22; exact Calls.quiet_of (prec22 g (j * 7) fb yj fl _ (Aj.drewN _) (Gj.drewN _) hck hfl))))
              go_wp2
              go_roundw
              case rel => exact ⟨i + 1, K, by go_num, by rw [HKN.out], by omega, L'.drewN nq⟩
              case measure => simp [intOf]; omega
        · have hh : hid fl xi (WW.drop (i + 1)) = false := hid_not HT.out (by rw [HWL.out]; omega)
          have HH : Hid (hid fl xi (WW.drop (i + 1)) = false) := hh
          obtain ⟨a0, a1, a2, a3, a4, a5, a6⟩ := Ai'
          have hiI : (i : Int) < (n : Int) + 1 := by omega
          clear HT hh
          go_wp2_with (at_builtin; refine wpList_keep _ rfl (.tmp 70) (.tmp 75) rfl Li HXI.out HH.out kn HKN.out rfl rfl ?_)
          intro wk Lk
          have HL : Hid (kn + 1 = (K ++ [xi]).length) := by show _ = _; rw [List.length_append, ← HKN.out]; rfl
          clear Li a0 a1 a2 a3 a4 a5 a6
          go_wp2
          go_roundw
          case rel => exact ⟨i + 1, K ++ [xi], by go_num, by rw [← HL.out], by omega, Lk⟩
          case measure => simp [intOf]; omega
    · have hK : K = keepL fl WW := L.done (by rw [HWL.out]; omega)
      have HKK : Hid (K = keepL fl WW) := hK
      obtain ⟨⟨u4, m4⟩, f4⟩ := cell_there L.hM (j := v * 2 + 1) (by omega)
      have hin' : i ≤ WW.length := by rw [HWL.out]; exact hin
      have HI : Hid (i ≤ WW.length) := hin'
      clear hK hin'
      rcases two_forms K with hs | ⟨K', y, z, hKyz⟩
      · have hkI : decide ((1 : Int) < (kn : Int)) = false := decide_eq_false (by have := HKN.out; omega)
        have hres : res fl W x = K := by rw [res, ← HWW.out, ← HKK.out]; exact dedup_short hs
        have hfin := Loop.own L HI.out K [] (by simp)
        have HR : Hid (res fl W x = K) := hres
        clear hres
        go_wp2_with fail
        go_quiet (fail)
        go_wp2
        rw [Exit.noGoto_normal]
        refine bodyPost_end (results_none rfl _ _ _) rfl ?_
        refine ⟨rfl, ?_⟩
        rw [HR.out]
        first | exact (done_of L.hM hfin L.rest L.hg HKN.out).drewN nq | exact done_of (w := wo.drewN nq) L.hM hfin (L.rest.drewN nq) L.hg HKN.out
      · obtain ⟨k2, hk2⟩ : ∃ k2, k2 = K'.length := ⟨_, rfl⟩
        have hk : kn = k2 + 2 := by rw [HKN.out, hKyz, List.length_append, ← hk2]; rfl
        have Ay := L.atK (t := k2) (y := y) (by rw [hKyz, hk2]; simp)
        have Az := L.atK (t := k2 + 1) (y := z) (by rw [hKyz, hk2]; simp)
        have Gy := L.gs y (L.sub y (by rw [hKyz]; simp))
        have Gz := L.gs z (L.sub z (by rw [hKyz]; simp))
        have HK2 : Hid (k2 = K'.length) := hk2
        have hres : res fl W x = if eqB y z then K' ++ [y] else K := by rw [res, ← HWW.out, ← HKK.out, hKyz]; exact dedup_two K' y z
        have hf1 := Loop.own L HI.out (K' ++ [y]) [z] (by rw [hKyz]; simp)
        have hf2 := Loop.own L HI.out K [] (by simp)
        have HKN2 : Hid (k2 + 2 = K.length) := by show _ = _; rw [← hk]; exact HKN.out
        have hkc : k2 + 2 ≤ cg := by have := L.nl; rw [HWL.out] at this; omega
        subst hk
        clear hKyz hk2
        have hkI : decide ((1 : Int) < (k2 : Int) + 2) = true := decide_eq_true (by omega)
        cases he : eqB y z
        · rw [he, if_neg (by simp)] at hres
          have HR : Hid (res fl W x = K) := hres
          clear hres
          go_wp2_with fail
          go_quiet ((go_at_call 25; exact Calls.quiet_of (equal25 g (k2 * 7) g ((k2 + 1) * 7) y z _ (Ay.drewN _) (Az.drewN _) (Gy.drewN _) (Gz.drewN _))))
          go_wp2
          rw [Exit.noGoto_normal]
          refine bodyPost_end (results_none rfl _ _ _) rfl ?_
          refine ⟨rfl, ?_⟩
          rw [HR.out]
          first | exact (done_of L.hM hf2 L.rest L.hg HKN2.out).drewN nq | exact done_of (w := wo.drewN nq) L.hM hf2 (L.rest.drewN nq) L.hg HKN2.out
        · rw [he, if_pos rfl] at hres
          have HR : Hid (res fl W x = K' ++ [y]) := hres
          have HL : Hid (k2 + 1 = (K' ++ [y]).length) := by show _ = _; rw [List.length_append, ← HK2.out]; rfl
          clear hres
          go_wp2_with fail
          go_quiet ((go_at_call 25; exact Calls.quiet_of (equal25 g (k2 * 7) g ((k2 + 1) * 7) y z _ (Ay.drewN _) (Az.drewN _) (Gy.drewN _) (Gz.drewN _))))
          go_wp2
          rw [Exit.noGoto_normal]
          refine bodyPost_end (results_none rfl _ _ _) rfl ?_
          refine ⟨rfl, ?_⟩
          rw [HR.out]
          first | exact (done_of L.hM hf1 L.rest L.hg HL.out).drewN nq | exact done_of (w := wo.drewN nq) L.hM hf1 (L.rest.drewN nq) L.hg HL.out

set_option maxRecDepth 20000 in
set_option maxHeartbeats 4000000 in
theorem store_slow2 (M v mn r cap fb : Nat) (mc : Array Value) (W : List Wr) (x : Wr) (fl : List Nat) (w : World) (hv : v < mn) (hmn : mn ≤ 2)
    (hM : w.heap[M]? = some (.cells mc 42 (0, 0))) (ms : mc.size = mn * 2) (mv : mc[v * 2 + 1]? = some (.slice (some ⟨r, 0, none⟩) W.length cap))
    (own : Own w r cap W) (gs : Goods w W) (gx : Good w x) (clk : Clk w fb fl) (hl : W.length ≤ 1500) (hfl : fl.length ≤ 1024)
    (hp : precB x fl = true) (ha : (W.all fun y => befB y x) = false) :
    Calls Yba.prog 12 #[.slice (some ⟨M, 0, none⟩) mn mn, .int .i64 (v : Int), .agg #[.int .i64 x.N, .string ByteArray.empty, .int .i64 0, .int .u64 0, .int .i64 (x.g : Int), .slice (some ⟨x.b, 0, none⟩) x.at'.length x.at'.length, .int .u64 x.f], .slice (some ⟨fb, 0, none⟩) fl.length fl.length] w fun e w' => e = .returned (.tuple #[]) ∧ Done w M v mc r (res fl W x) w' := by
  obtain ⟨i, hi, hz0, hz1, hz2⟩ := info_parts info36
  have E := Env.start hM ms mv own gs gx clk
  have hvI : (v : Int) < (mn : Int) := by omega
  have hv0 : (0 : Int) ≤ (v : Int) := by omega
  go_enter Yba.func12, Yba.ntmps12
  go_wp2_with fail
  go_step3
  go_wp2_with fail
  refine (prec22 w.heap.size 0 fb x fl _ E.at E.gx E.clk hfl).mono ?_
  rintro e W1 ⟨rfl, n1, hw1⟩
  have E1 := E.drewN n1
  rw [← hw1] at E1
  clear hw1 E
  go_wp2_with fail
  refine (all23 M mn v r cap w.heap.size 0 W x _ hv hmn E1.cellM.1 E1.own.rows E1.gs E1.at E1.gx (by omega)).mono ?_
  rintro e W2 ⟨rfl, n2, hw2⟩
  have E2 := E1.drewN n2
  rw [← hw2] at E2
  clear hw2 E1
  obtain ⟨m0, mf⟩ := E2.cellM
  obtain ⟨c0, c1, c2, c3, c4, c5, c6⟩ := E2.at
  simp only [Nat.zero_add] at c0 c1 c2 c3 c4 c5 c6
  have hml : M < W2.heap.size := (Array.getElem?_eq_some_iff.1 E2.hM).1
  have hbl : w.heap.size < W2.heap.size := (Array.getElem?_eq_some_iff.1 E2.box).1
  have ho := E2.own
  obtain ⟨n, hn⟩ : ∃ n, n = W.length := ⟨_, rfl⟩
  have HN : Hid (n = W.length) := hn
  have hmr := E2.mv
  rw [← hn] at m0 hl mv hmr
  have ho' : W2.ownsRow 0 36 7 (.slice (some ⟨r, 0, none⟩) n cap) n (flat W) := by rw [hn]; exact ho
  clear hn
  go_wp2_with fail
  go_region_held3 (fun w' => w'.cell? ⟨M, v * 2 + 1, none⟩ = some (.slice (some ⟨r, 0, none⟩) n cap) ∧ w'.cell? ⟨w.heap.size, 0, none⟩ = some (.int .i64 x.N) ∧ w'.cell? ⟨w.heap.size, 1, none⟩ = some (.string ByteArray.empty) ∧ w'.cell? ⟨w.heap.size, 2, none⟩ = some (.int .i64 0) ∧ w'.cell? ⟨w.heap.size, 3, none⟩ = some (.int .u64 0) ∧ w'.cell? ⟨w.heap.size, 4, none⟩ = some (.int .i64 (x.g : Int)) ∧ w'.cell? ⟨w.heap.size, 5, none⟩ = some (.slice (some ⟨x.b, 0, none⟩) x.at'.length x.at'.length) ∧ w'.cell? ⟨w.heap.size, 6, none⟩ = some (.int .u64 x.f)) (go_keep)
    ((refine step_append_lies _ (by rfl) (.tmp 37) (.tmp 39) 27 (by rfl) 0 36 i _ 7 80 Yba.underlying27 hi hz0 hz1 hz2 rfl (by decide) (.slice (some ⟨r, 0, none⟩) n cap) n (flat W) (by rfl) (by exact World.ownsRow.alloc ho' _) ⟨W2.heap.size, 0, none⟩ 1 1 (wc x) (by rfl) rfl (by exact World.news_of_block (cs := (wc x).toArray) (heap_alloc_new W2 _)) (wc_oneCell x) (by decide) (by unfold maxLen; omega) (by omega) (Nat.zero_le _) (W2.heap.size + 1) (by simp) ?_; intro g cg w3 hown3 hgrow3 hat3 hlt3; have E3 := E2.grown (undrew_grown (by exact hgrow3)); have m3 : w3.cell? ⟨M, v * 2 + 1, none⟩ = some (.slice (some ⟨r, 0, none⟩) n cap) := (by rw [cell_of_row w3 M _ mc 42 (0, 0) E3.hM]; exact hmr); obtain ⟨d0, d1, d2, d3, d4, d5, d6⟩ := At.of_block E3.box; simp only [Nat.zero_add] at d0 d1 d2 d3 d4 d5 d6))
  have ho3 : Own w3 g cg (W ++ [x]) := own_more (by rw [← HN.out]; exact hown3)
  have hg3 : g = r ∨ w.heap.size ≤ g := by
    rcases hat3 with hat3 | hat3
    · simp [Value.ownBlock] at hat3; omega
    · omega
  have mf3 : w3.frozen? ⟨M, v * 2 + 1, none⟩ = false := frozen_of_row w3 M _ mc 42 E3.hM
  have L0 := Loop.start E3 ho3 hg3
  obtain ⟨WW, hWW⟩ : ∃ WW, WW = W ++ [x] := ⟨_, rfl⟩
  have hwl : WW.length = n + 1 := by rw [hWW, List.length_append, ← HN.out]; rfl
  have HWL : Hid (WW.length = n + 1) := hwl
  have HWW : Hid (WW = W ++ [x]) := hWW
  rw [← hWW] at L0
  clear hown3 hgrow3 hat3 d0 d1 d2 d3 d4 d5 d6 c0 c1 c2 c3 c4 c5 c6 m0 mf ho' ho hml hbl E2 E3 ho3 m3 mf3 hlt3 hWW hwl
  go_wp2_with fail
  go_step3
  go_wp2_with fail
  go_loopw [45, 9] (fun c k wr => ∃ (i : Nat) (K : List Wr), c = .int .i64 (i : Int) ∧ k = .slice (some ⟨g, 0, none⟩) K.length cg ∧ i ≤ n + 1 ∧ Loop w wr M mc r g cg WW fb fl i K) (fun c _ _ => n + 1 - (intOf c).toNat)
  case atStart => exact ⟨0, [], rfl, rfl, Nat.zero_le _, L0⟩
  case round =>
    obtain ⟨i, K, rfl, rfl, hin, L⟩ := hrel
    obtain ⟨wo, hwo⟩ : ∃ wo, wo = wr := ⟨_, rfl⟩
    subst hwo
    clear L0
    obtain ⟨kn, hkn⟩ : ∃ kn, kn = K.length := ⟨_, rfl⟩
    have HKN : Hid (kn = K.length) := hkn
    have hki : kn ≤ i := by rw [hkn]; exact L.kl
    have hcg : n + 1 ≤ cg := by have := L.nl; rw [HWL.out] at this; exact this
    rw [← hkn]
    clear hkn
    by_cases hlt : i < n + 1
    · obtain ⟨xi, hxi⟩ : ∃ xi, WW[i]? = some xi := ⟨WW[i]'(by rw [HWL.out]; exact hlt), List.getElem?_eq_getElem _⟩
      have HXI : Hid (WW[i]? = some xi) := hxi
      have Ai := L.at (Nat.le_refl i) hxi
      have Gi := L.gs xi (List.mem_of_getElem? hxi)
      clear hxi
      have hdi : decide ((i : Int) < (n : Int) + 1) = true := decide_eq_true (by omega)
      go_wp2_with fail
      go_loopw [11] (fun c wi => ∃ j : Nat, c = .int .i64 (j : Int) ∧ i + 1 ≤ j ∧ j ≤ n + 1 ∧ (∃ m, wi = wo.drewN m) ∧ Hid (∀ t y, i + 1 ≤ t → t < j → WW[t]? = some y → (befB xi y && precB y fl) = false)) (fun c _ => n + 1 - (intOf c).toNat)
      case atStart => exact ⟨i + 1, by go_num, Nat.le_refl _, by omega, ⟨0, rfl⟩, fun t y h1 h2 => by omega⟩
      case round =>
        obtain ⟨wi, hwwi⟩ : ∃ wi, wi = wr := ⟨_, rfl⟩
        subst hwwi
        obtain ⟨j, rfl, hij, hjn, ⟨m, hwi⟩, HT⟩ := hrel
        have HWI : Hid (wi = wo.drewN m) := hwi
        have Ai' : At wi g (i * 7) xi := by rw [hwi]; exact Ai.drewN m
        have Gi' : Good wi xi := by rw [hwi]; exact Gi.drewN m
        have Li : Loop w wi M mc r g cg WW fb fl i K := by rw [hwi]; exact L.drewN m
        clear hwi
        by_cases hjlt : j < n + 1
        · obtain ⟨yj, hyj⟩ : ∃ yj, WW[j]? = some yj := ⟨WW[j]'(by rw [HWL.out]; exact hjlt), List.getElem?_eq_getElem _⟩
          have HYJ : Hid (WW[j]? = some yj) := hyj
          have Aj := Li.at (by omega) hyj
          have Gj := Li.gs yj (List.mem_of_getElem? hyj)
          have hck := Li.clk
          clear hyj
          have hjI : (j : Int) < (n : Int) + 1 := by omega
          have hiI : (i : Int) < (n : Int) + 1 := by omega
          cases hb : befB xi yj
          · have HT' : Hid (∀ t y, i + 1 ≤ t → t < j + 1 → WW[t]? = some y → (befB xi y && precB y fl) = false) := not_yet HT.out HYJ.out (by rw [hb]; rfl)
            clear HT
            go_wp2_with fail
            go_quiet ((go_at_call 24; exact Calls.quiet_of (bef24 g (i * 7) g (j * 7) xi yj _ (Ai'.drewN _) (Aj.drewN _) (Gi'.drewN _) (Gj.drewN _))))
            go_wp2
            go_roundw
            case rel => exact ⟨j + 1, by go_num, by omega, by omega, ⟨m + nq, by rw [HWI.out, World.drewN_drewN]⟩, HT'⟩
            case measure => simp [intOf]; omega
          · cases hp' : precB yj fl
            · have HT' : Hid (∀ t y, i + 1 ≤ t → t < j + 1 → WW[t]? = some y → (befB xi y && precB y fl) = false) := not_yet HT.out HYJ.out (by rw [hp', Bool.and_false])
              clear HT
              go_wp2_with fail
              go_quiet ((first | (go_at_call 24; exact Calls.quiet_of (bef24 g (i * 7) g (j * 7) xi yj _ (Ai'.drewN _) (Aj.drewN _) (Gi'.drewN _) (Gj.drewN _))) | (go_at_call 22; exact Calls.quiet_of (prec22 g (j * 7) fb yj fl _ (Aj.drewN _) (Gj.drewN _) hck hfl))))
              go_wp2
              go_roundw
              case rel => exact ⟨j + 1, by go_num, by omega, by omega, ⟨m + nq, by rw [HWI.out, World.drewN_drewN]⟩, HT'⟩
              case measure => simp [intOf]; omega
            · have hh : hid fl xi (WW.drop (i + 1)) = true := hid_of HYJ.out (by omega) (by rw [hb, hp']; rfl)
              have L' := Li.skip HXI.out hh
              clear HT hh
              go_wp2_with fail
              go_quiet ((first | (go_at_call 24; exact Calls.quiet_of (bef24 g (i * 7) g (j * 7) xi yj _ (Ai'.drewN _) (Aj.drewN _) (Gi'.drewN _) (Gj.drewN _))) | (go_at_call 22; exact Calls.quiet_of (prec22 g (j * 7) fb yj fl _ (Aj.drewN _) (Gj.drewN _) hck hfl))))
              go_wp2
              go_roundw
              case rel => exact ⟨i + 1, K, by go_num, by rw [HKN.out], by omega, L'.drewN nq⟩
              case measure => simp [intOf]; omega
        · have hh : hid fl xi (WW.drop (i + 1)) = false := hid_not HT.out (by rw [HWL.out]; omega)
          have HH : Hid (hid fl xi (WW.drop (i + 1)) = false) := hh
          obtain ⟨a0, a1, a2, a3, a4, a5, a6⟩ := Ai'
          have hiI : (i : Int) < (n : Int) + 1 := by omega
          clear HT hh
          go_wp2_with (at_builtin; refine wpList_keep _ rfl (.tmp 70) (.tmp 75) rfl Li HXI.out HH.out kn HKN.out rfl rfl ?_)
          intro wk Lk
          have HL : Hid (kn + 1 = (K ++ [xi]).length) := by show _ = _; rw [List.length_append, ← HKN.out]; rfl
          clear Li a0 a1 a2 a3 a4 a5 a6
          go_wp2
          go_roundw
          case rel => exact ⟨i + 1, K ++ [xi], by go_num, by rw [← HL.out], by omega, Lk⟩
          case measure => simp [intOf]; omega
    · have hK : K = keepL fl WW := L.done (by rw [HWL.out]; omega)
      have HKK : Hid (K = keepL fl WW) := hK
      obtain ⟨⟨u4, m4⟩, f4⟩ := cell_there L.hM (j := v * 2 + 1) (by omega)
      have hin' : i ≤ WW.length := by rw [HWL.out]; exact hin
      have HI : Hid (i ≤ WW.length) := hin'
      clear hK hin'
      rcases two_forms K with hs | ⟨K', y, z, hKyz⟩
      · have hkI : decide ((1 : Int) < (kn : Int)) = false := decide_eq_false (by have := HKN.out; omega)
        have hres : res fl W x = K := by rw [res, ← HWW.out, ← HKK.out]; exact dedup_short hs
        have hfin := Loop.own L HI.out K [] (by simp)
        have HR : Hid (res fl W x = K) := hres
        clear hres
        go_wp2_with fail
        go_quiet (fail)
        go_wp2
        rw [Exit.noGoto_normal]
        refine bodyPost_end (results_none rfl _ _ _) rfl ?_
        refine ⟨rfl, ?_⟩
        rw [HR.out]
        first | exact (done_of L.hM hfin L.rest L.hg HKN.out).drewN nq | exact done_of (w := wo.drewN nq) L.hM hfin (L.rest.drewN nq) L.hg HKN.out
      · obtain ⟨k2, hk2⟩ : ∃ k2, k2 = K'.length := ⟨_, rfl⟩
        have hk : kn = k2 + 2 := by rw [HKN.out, hKyz, List.length_append, ← hk2]; rfl
        have Ay := L.atK (t := k2) (y := y) (by rw [hKyz, hk2]; simp)
        have Az := L.atK (t := k2 + 1) (y := z) (by rw [hKyz, hk2]; simp)
        have Gy := L.gs y (L.sub y (by rw [hKyz]; simp))
        have Gz := L.gs z (L.sub z (by rw [hKyz]; simp))
        have HK2 : Hid (k2 = K'.length) := hk2
        have hres : res fl W x = if eqB y z then K' ++ [y] else K := by rw [res, ← HWW.out, ← HKK.out, hKyz]; exact dedup_two K' y z
        have hf1 := Loop.own L HI.out (K' ++ [y]) [z] (by rw [hKyz]; simp)
        have hf2 := Loop.own L HI.out K [] (by simp)
        have HKN2 : Hid (k2 + 2 = K.length) := by show _ = _; rw [← hk]; exact HKN.out
        have hkc : k2 + 2 ≤ cg := by have := L.nl; rw [HWL.out] at this; omega
        subst hk
        clear hKyz hk2
        have hkI : decide ((1 : Int) < (k2 : Int) + 2) = true := decide_eq_true (by omega)
        cases he : eqB y z
        · rw [he, if_neg (by simp)] at hres
          have HR : Hid (res fl W x = K) := hres
          clear hres
          go_wp2_with fail
          go_quiet ((go_at_call 25; exact Calls.quiet_of (equal25 g (k2 * 7) g ((k2 + 1) * 7) y z _ (Ay.drewN _) (Az.drewN _) (Gy.drewN _) (Gz.drewN _))))
          go_wp2
          rw [Exit.noGoto_normal]
          refine bodyPost_end (results_none rfl _ _ _) rfl ?_
          refine ⟨rfl, ?_⟩
          rw [HR.out]
          first | exact (done_of L.hM hf2 L.rest L.hg HKN2.out).drewN nq | exact done_of (w := wo.drewN nq) L.hM hf2 (L.rest.drewN nq) L.hg HKN2.out
        · rw [he, if_pos rfl] at hres
          have HR : Hid (res fl W x = K' ++ [y]) := hres
          have HL : Hid (k2 + 1 = (K' ++ [y]).length) := by show _ = _; rw [List.length_append, ← HK2.out]; rfl
          clear hres
          go_wp2_with fail
          go_quiet ((go_at_call 25; exact Calls.quiet_of (equal25 g (k2 * 7) g ((k2 + 1) * 7) y z _ (Ay.drewN _) (Az.drewN _) (Gy.drewN _) (Gz.drewN _))))
          go_wp2
          rw [Exit.noGoto_normal]
          refine bodyPost_end (results_none rfl _ _ _) rfl ?_
          refine ⟨rfl, ?_⟩
          rw [HR.out]
          first | exact (done_of L.hM hf1 L.rest L.hg HL.out).drewN nq | exact done_of (w := wo.drewN nq) L.hM hf1 (L.rest.drewN nq) L.hg HL.out

/-- store, whatever the case. -/
theorem store12 (M v mn r cap fb : Nat) (mc : Array Value) (W : List Wr) (x : Wr) (fl : List Nat) (w : World) (hv : v < mn) (hmn : mn ≤ 2)
    (hM : w.heap[M]? = some (.cells mc 42 (0, 0))) (ms : mc.size = mn * 2) (mv : mc[v * 2 + 1]? = some (.slice (some ⟨r, 0, none⟩) W.length cap))
    (own : Own w r cap W) (gs : Goods w W) (gx : Good w x) (clk : Clk w fb fl) (hl : W.length ≤ 1500) (hfl : fl.length ≤ 1024) :
    Calls Yba.prog 12 #[.slice (some ⟨M, 0, none⟩) mn mn, .int .i64 (v : Int), .agg #[.int .i64 x.N, .string ByteArray.empty, .int .i64 0, .int .u64 0, .int .i64 (x.g : Int), .slice (some ⟨x.b, 0, none⟩) x.at'.length x.at'.length, .int .u64 x.f], .slice (some ⟨fb, 0, none⟩) fl.length fl.length] w fun e w' => e = .returned (.tuple #[]) ∧ Done w M v mc r (res fl W x) w' := by
  cases hp : precB x fl
  · exact store_slow1 M v mn r cap fb mc W x fl w hv hmn hM ms mv own gs gx clk hl hfl hp
  · cases ha : (W.all fun y => befB y x)
    · exact store_slow2 M v mn r cap fb mc W x fl w hv hmn hM ms mv own gs gx clk hl hfl hp ha
    · exact store_fast M v mn r cap fb mc W x fl w hv hmn hM ms mv own gs gx clk hl hfl hp ha
end Go.Proofs.Ybulkbhxe.AMem
