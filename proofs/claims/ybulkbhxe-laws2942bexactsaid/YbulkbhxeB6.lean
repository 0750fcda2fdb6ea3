/-
  The walk of LawS2942BExact (function 5): it returns true, and writes nothing that was there.
-/
import Derived.Test.YbulkbhxeB5
namespace Go.Proofs.Ybulkbhxe.BVal
open Go.ChangeShapes Go.WideShapes Go.ChangeAt Go.RowKit
attribute [local go_sem ↓] Go.wp_at_zero Go.wp_at_succ

theorem size5 : (Yba.prog.info? 5).map (·.size) = some 1 := by
  obtain ⟨i, hi, _, hz1, _⟩ := info_parts info5
  simp [hi, hz1]

/-- 'copy(p, prefix)' right behind 'p := make([]byte, len(prefix))'. -/
theorem run_copy_pre (w : World) (a : Option Addr) (n c : Nat) (pl : List UInt8) (hp : Pre w a n c pl) :
    ∃ W1, (∀ ty, (Builtin.copy_ #[26, 26] ty #[.slice (some ⟨w.heap.size, 0, none⟩) n n, .slice a n c]).run Yba.prog (w.alloc (.cells (madeCells #[.int .u8 0] n) 5)) = .ok (.int .i64 n) W1) ∧
      W1.heap[w.heap.size]? = some (.cells (bc pl).toArray 5 (0, 0)) ∧ Below w.heap.size w W1 ∧ w.heap.size < W1.heap.size := by
  obtain ⟨W0, hW0⟩ : ∃ W0, W0 = w.alloc (.cells (madeCells #[.int .u8 0] n) 5) := ⟨_, rfl⟩
  have hh : W0.heap[w.heap.size]? = some (.cells (madeCells #[.int .u8 0] n) 5 (0, 0)) := by rw [hW0]; exact heap_alloc_new w _
  have hb : Below w.heap.size w W0 := by rw [hW0]; exact (Below.refl _ _).alloc (Nat.le_refl _) _
  have hs : w.heap.size < W0.heap.size := (Array.getElem?_eq_some_iff.1 hh).1
  rw [← hW0]
  by_cases h0 : n = 0
  · subst h0
    have e : pl = [] := List.eq_nil_of_length_eq_zero hp.len
    subst e
    refine ⟨W0, fun ty => run_copy_none (P := Yba.prog) W0 26 26 ty 5 _ a 0 0 0 c Yba.underlying26 size5 rfl, ?_, hb, hs⟩
    rw [hh]
    simp [madeCells, bc]
  · cases a with
    | none => exact absurd (hp.none rfl).1 h0
    | some x =>
      have hp' := hp.carry hb
      refine ⟨_, fun ty => by
        have := run_copy_row (P := Yba.prog) W0 26 26 ty 5 w.heap.size 0 n n x n c _ 5 (bc pl) Yba.underlying26 size5 hh (by rw [bc_length, hp.len]; simp) (hp'.cell x rfl) (by rw [bc_length, size_madeCells, hp.len]; omega) (bc_oneCell pl)
        rw [bc_length, hp.len] at this
        exact this, ?_, below_setRow hb (Nat.le_refl _) _, by simpa using hs⟩
      rw [setRow_heap W0 _ _ _ 5 (0, 0) hh]
      have e : (madeCells #[Value.int .u8 0] n).toList.drop (0 + n) = [] := by
        rw [List.drop_eq_nil_iff, Array.length_toList, size_madeCells]; omega
      rw [e]
      simp

theorem row_step {w w' : World} {Pr : Nat → Prop} {v : Value} {l : List UInt8} {n : Nat} (h : Row w Pr v l) (hs : Step (fun k => k < w.heap.size) n w w') : Row w' Pr v l := h.carry hs

/-- What p owns is kept while what was built on it grows. -/
theorem row_kept {w w' : World} {Pr : Nat → Prop} {g n c : Nat} {l : List UInt8} (h : Row w Pr (.slice (some ⟨g, 0, none⟩) n c) l) (hn : l.length = n) (hs : Kept n w w') : Pre w' (some ⟨g, 0, none⟩) n c l := by
  refine ⟨hn, fun h => (by cases h), fun x hx j u hu => ?_⟩
  injection hx with hx
  subst hx
  have hj : j < n := by
    have := (List.getElem?_eq_some_iff.1 hu).1
    rw [bc_length] at this
    omega
  have hadd : (⟨g, 0, none⟩ : Addr).add j = ⟨g, j, none⟩ := by unfold Addr.add; split <;> simp_all
  subst hn
  have hg := (h.1.lt g rfl).2
  rw [hadd, hs g j hg hj, h.1.cellAt j (by omega)]
  exact hu

set_option maxRecDepth 20000 in
set_option maxHeartbeats 2000000 in
theorem exact_in (a0 : Option Addr) (len cap : Nat) (pl : List UInt8) (dep : Nat) (n l : Int) (s : ByteArray) (w : World) (hp : Pre w a0 len cap pl) (hdep : (uv dep).length ≤ 10)
    (n1 : -9223372036854775808 ≤ n) (n2 : n ≤ 9223372036854775807) (l1 : -9223372036854775808 ≤ l) (l2 : l ≤ 9223372036854775807) (hs : s.size ≤ 4096) (hl : len ≤ 1024) :
    Calls Yba.prog 5 #[.slice a0 len cap, .int .u64 (dep : Int), .int .i64 n, .int .i64 l, .string s] w fun e w' => e = .returned (.bool true) ∧ Below w.heap.size w w' := by
  have hmk := run_make26 len (by omega)
  obtain ⟨W1, hcp, hg1, hb1, hz1⟩ := run_copy_pre w a0 len cap pl hp
  have hpl := hp.len
  have hzn := uv_len64 _ (zig_lt n1 n2)
  have hzl := uv_len64 _ (zig_lt l1 l2)
  have hzs := uv_len64 s.size (by omega)
  have hrp : Row W1 (fun k => k < w.heap.size) (.slice (some ⟨w.heap.size, 0, none⟩) len len) pl := by
    have := row_of_block (Pr := fun k => k < w.heap.size) hg1 (by omega) (by simp)
    rw [hpl] at this
    exact this
  have hmz : ∀ w, (Instr.makeSlice 26 (.int .i64 0) (.int .i64 ((len : Int) + (s.size : Int) + 40))).run Yba.prog w =
      .ok (.slice (some ⟨w.heap.size, 0, none⟩) 0 (len + s.size + 40)) (w.alloc (.cells (madeCells #[.int .u8 0] (len + s.size + 40)) 5)) := by
    intro w
    have h := run_make26z ((len : Int) + (s.size : Int) + 40) (by omega) (by omega) w
    rw [show ((len : Int) + (s.size : Int) + 40).toNat = len + s.size + 40 by omega] at h
    exact h
  clear hg1
  go_enter Yba.func5, Yba.ntmps5
  go_wp2_with fail
  refine (val16 (fun k => k < w.heap.size) _ pl n s l dep W1 hrp (fun k hk => by omega) (by omega) hs n1 n2 l1 l2 hdep).mono ?_
  rintro e w2 ⟨got, rfl, hr2, hs2⟩
  have hp2 : Pre w2 (some ⟨w.heap.size, 0, none⟩) len len pl := row_kept hrp hpl (by rw [← hpl]; exact hs2.kept)
  have hb2 : Below w.heap.size w w2 := hb1.trans hs2.below
  have hz2 : w.heap.size < w2.heap.size := by have := hs2.size; omega
  clear hs2 hrp hcp hb1 hz1
  obtain ⟨B, hB⟩ : ∃ B, B = w2.heap.size := ⟨_, rfl⟩
  have hrw := row_made w2 (len + s.size + 40) (by omega) (Pr := fun k => k < B) (by simp [hB])
  have hpw : Pre (w2.alloc (.cells (madeCells #[.int .u8 0] (len + s.size + 40)) 5)) a0 len cap pl := hp.carry (hb2.alloc (by omega) _)
  have hst3 : Step (fun k => k < B) 0 w2 (w2.alloc (.cells (madeCells #[.int .u8 0] (len + s.size + 40)) 5)) := Step.ofAlloc _ _ (by simp [hB]) _
  have hB3 : B < (w2.alloc (.cells (madeCells #[.int .u8 0] (len + s.size + 40)) 5)).heap.size := by simp [hB]
  have HB : Hid (B = w2.heap.size) := hB
  clear hB
  go_wp2_with (at_builtin; refine wpList_put_pre _ rfl (.tmp 42) (.tmp 43) rfl (fun k => k < B) _ [] rfl hrw a0 len cap pl rfl hpw ?c2 ?c3 ?_)
  case c2 => simp; omega
  case c3 => intro k hk; omega
  intro v3 w3 hr3 hs3
  have hr3 : Row w3 (fun k => k < B) v3 pl := by simpa using hr3
  have hst4 := hst3.trans hs3 (Nat.zero_le _)
  clear hs3 hst3 hrw hpw hmz
  have hp3 : ∀ k, k < B → k < w3.heap.size := fun k hk => by have := hst4.size; rw [HB.out] at hk; omega
  go_wp2_with fail
  refine (uv17 (fun k => k < B) v3 pl dep w3 hdep hr3 hp3 (by omega)).mono ?_
  rintro e w4 ⟨v4, rfl, hr4, hs4⟩
  have hst5 := hst4.trans hs4 (Nat.zero_le _)
  have hp4 : ∀ k, k < B → k < w4.heap.size := fun k hk => Nat.lt_of_lt_of_le (hp3 k hk) hs4.size
  clear hr3 hp3 hs4 hst4
  go_wp2_with fail
  refine (sv18 (fun k => k < B) v4 (pl ++ uv dep) n w4 n1 n2 hr4 hp4 (by simp; omega)).mono ?_
  rintro e w5 ⟨v5, rfl, hr5, hs5⟩
  have hst6 := hst5.trans hs5 (Nat.zero_le _)
  have hp5 : ∀ k, k < B → k < w5.heap.size := fun k hk => Nat.lt_of_lt_of_le (hp4 k hk) hs5.size
  clear hr4 hp4 hs5 hst5
  go_wp2_with fail
  refine (sv18 (fun k => k < B) v5 (pl ++ uv dep ++ uv (zig n)) l w5 l1 l2 hr5 hp5 (by simp; omega)).mono ?_
  rintro e w6 ⟨v6, rfl, hr6, hs6⟩
  have hst7 := hst6.trans hs6 (Nat.zero_le _)
  have hp6 : ∀ k, k < B → k < w6.heap.size := fun k hk => Nat.lt_of_lt_of_le (hp5 k hk) hs6.size
  clear hr5 hp5 hs6 hst6
  go_wp2_with fail
  refine (uv17 (fun k => k < B) v6 (pl ++ uv dep ++ uv (zig n) ++ uv (zig l)) s.size w6 hzs hr6 hp6 (by simp; omega)).mono ?_
  rintro e w7 ⟨v7, rfl, hr7, hs7⟩
  have hst8 := hst7.trans hs7 (Nat.zero_le _)
  have hp7 : ∀ k, k < B → k < w7.heap.size := fun k hk => Nat.lt_of_lt_of_le (hp6 k hk) hs7.size
  clear hr6 hp6 hs7 hst7
  go_wp2_with (at_builtin; refine wpList_puts _ rfl (.tmp 59) (.tmp 60) rfl (fun k => k < B) _ (pl ++ uv dep ++ uv (zig n) ++ uv (zig l) ++ uv s.size) rfl hr7 s rfl ?e2 ?e3 ?_)
  case e2 => simp; omega
  case e3 => exact hp7
  intro v8 w8 hr8 hs8
  have hst9 := hst8.trans hs8 (Nat.zero_le _)
  have hrw : Row w8 (fun k => k < B) v8 (pl ++ enc dep n l s.data.toList) := by
    rw [enc, Array.length_toList]
    simpa [List.append_assoc] using hr8
  rw [HB.out] at hst9
  have hrg : Row w8 (fun k => k < w.heap.size) got (pl ++ enc dep n l s.data.toList) := hr2.carry hst9
  have hpp : Pre w8 (some ⟨w.heap.size, 0, none⟩) len len pl := hp2.carry hst9.below
  have hb9 : Below w.heap.size w w8 := hb2.trans (hst9.below.mono (by omega))
  have hpr : Pre w8 a0 len cap pl := hp.carry hb9
  clear hr8 hs8 hst8 hst9 hr7 hp7 hr2 hp2 hb2
  go_wp2_with fail
  refine (equal19 _ _ _ _ w8 (run_string_row _ _ _ _ hrg) (run_string_row _ _ _ _ hrw)).mono ?_
  rintro e w9 ⟨rfl, rfl⟩
  go_wp2_with fail
  refine (equal19 _ _ _ _ _ (run_string_pre hpp) (run_string_pre hpr)).mono ?_
  rintro e w10 ⟨rfl, rfl⟩
  go_wp2
  go_ret
  exact ⟨ret_val (congrArg Value.bool (by simp)), hb9⟩
end Go.Proofs.Ybulkbhxe.BVal
