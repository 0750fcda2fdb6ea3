/-
  The walk of zzs2942amk (function 9): a write and its clock, made.
-/
import Derived.Test.YbulkbhxeA4
namespace Go.Proofs.Ybulkbhxe.AMem
open Go.ChangeShapes Go.WideShapes Go.ChangeAt Go.RowKit
set_option linter.unusedVariables false

/-- The call hands back a write that is good in the world that it leaves; nothing old has turned. -/
def Made (w : World) (e : Ending) (w' : World) : Prop := ∃ x : Wr, e = .returned (.agg #[.int .i64 x.N, .string ByteArray.empty, .int .i64 0, .int .u64 0, .int .i64 (x.g : Int), .slice (some ⟨x.b, 0, none⟩) x.at'.length x.at'.length, .int .u64 x.f]) ∧ Good w' x ∧ Below w.heap.size w w'

theorem Clk.set {w : World} {b : Nat} {l : List Nat} (h : Clk w b l) {a : Addr} (ha : b ≠ a.block) (v : Value) : Clk (w.setCell a v) b l := (heap_setCell_other w a b v ha).trans h

set_option maxRecDepth 20000 in
set_option maxHeartbeats 1000000 in
theorem mk9lt (N G A0 A1 A2 L : Int) (w : World) (gN lN : Nat) (hG0 : 0 ≤ G) (hG1 : G ≤ 255) (hG : G % 3 = (gN : Int)) (hg2 : gN ≤ 2) (hL0 : 0 ≤ L) (hL1 : L ≤ 255) (hL : L % 4 = (lN : Int)) (hl3 : lN ≤ 3)
   (a0 : 0 ≤ A0 ∧ A0 ≤ 255) (a1 : 0 ≤ A1 ∧ A1 ≤ 255) (a2 : 0 ≤ A2 ∧ A2 ≤ 255) (hlt :  lN < gN + 1) :
    Calls Yba.prog 9 #[.agg #[.int .i8 N, .int .u8 G, .int .u8 A0, .int .u8 A1, .int .u8 A2, .int .u8 L, .bool true]] w fun e w' => Made w e w' := by
  obtain ⟨n, hn⟩ : ∃ n, n = gN + 1 := ⟨_, rfl⟩
  have hn3 : n ≤ 3 := by omega
  have hng : gN < n := by omega
  have hmk : ∀ w, (Instr.makeSlice 34 (.int .i64 ((gN : Int) + 1)) (.int .i64 ((gN : Int) + 1))).run Yba.prog w = .ok (.slice (some ⟨w.heap.size, 0, none⟩) n n) (w.alloc (.cells (madeCells #[.int .u32 0] n) 65)) := fun w => by
    have := run_make34 n (by omega) w
    rw [hn] at this ⊢
    simpa using this
  obtain ⟨W0, hW0⟩ : ∃ W0, W0 = ((w.alloc (.cells #[.int .i8 N, .int .u8 G, .int .u8 A0, .int .u8 A1, .int .u8 A2, .int .u8 L, .bool true] 25)).alloc (.cells #[.int .i64 0, .string { data := #[] }, .int .i64 0, .int .u64 0, .int .i64 0, .slice none 0 0, .int .u64 0] 36)).alloc (.cells #[.int .u32 (A0 % 4), .int .u32 (A1 % 4), .int .u32 (A2 % 4)] 66) := ⟨_, rfl⟩
  have c0 : W0.cell? ⟨w.heap.size, 0, none⟩ = some (.int .i8 N) := by rw [hW0]; simp [go_sem]
  have c6 : W0.cell? ⟨w.heap.size, 6, none⟩ = some (.bool true) := by rw [hW0]; simp [go_sem]
  have s0 : W0.heap[w.heap.size + 1]? = some (.cells #[.int .i64 0, .string { data := #[] }, .int .i64 0, .int .u64 0, .int .i64 0, .slice none 0 0, .int .u64 0] 36 (0, 0)) := by
    rw [hW0, Below.heap_alloc _ _ _ (by simp)]
    have := heap_alloc_new (w.alloc (.cells #[.int .i8 N, .int .u8 G, .int .u8 A0, .int .u8 A1, .int .u8 A2, .int .u8 L, .bool true] 25)) (.cells #[.int .i64 0, .string { data := #[] }, .int .i64 0, .int .u64 0, .int .i64 0, .slice none 0 0, .int .u64 0] 36)
    simpa using this
  have x0 : W0.cell? ⟨w.heap.size + 1 + 1, 0, none⟩ = some (.int .u32 (A0 % 4)) := by rw [hW0]; simp [go_sem]
  have x1 : W0.cell? ⟨w.heap.size + 1 + 1, 1, none⟩ = some (.int .u32 (A1 % 4)) := by rw [hW0]; simp [go_sem]
  have x2 : W0.cell? ⟨w.heap.size + 1 + 1, 2, none⟩ = some (.int .u32 (A2 % 4)) := by rw [hW0]; simp [go_sem]
  have z0 : W0.heap.size = w.heap.size + 1 + 1 + 1 := by rw [hW0]; simp [go_sem]
  have bl : Below w.heap.size w W0 := by rw [hW0]; exact (((Below.refl _ _).alloc (Nat.le_refl _) _).alloc (by simp) _).alloc (by simp; omega) _
  obtain ⟨S, hS⟩ : ∃ S : Nat → Nat, ∀ k, k < 3 → W0.cell? ⟨w.heap.size + 1 + 1, k, none⟩ = some (.int .u32 ((S k : Nat) : Int)) := by
    refine ⟨fun k => if k = 0 then (A0 % 4).toNat else if k = 1 then (A1 % 4).toNat else (A2 % 4).toNat, fun k hk => ?_⟩
    match k, hk with
    | 0, _ => rw [x0]; congr 2; simp; omega
    | 1, _ => rw [x1]; congr 2; simp; omega
    | 2, _ => rw [x2]; congr 2; simp; omega
  have HS : Hid (∀ k, k < 3 → W0.cell? ⟨w.heap.size + 1 + 1, k, none⟩ = some (.int .u32 ((S k : Nat) : Int))) := hS
  have HW : Hid (W0 = ((w.alloc (.cells #[.int .i8 N, .int .u8 G, .int .u8 A0, .int .u8 A1, .int .u8 A2, .int .u8 L, .bool true] 25)).alloc (.cells #[.int .i64 0, .string { data := #[] }, .int .i64 0, .int .u64 0, .int .i64 0, .slice none 0 0, .int .u64 0] 36)).alloc (.cells #[.int .u32 (A0 % 4), .int .u32 (A1 % 4), .int .u32 (A2 % 4)] 66)) := hW0
  have HZ : Hid (W0.heap.size = w.heap.size + 1 + 1 + 1) := z0
  have HN : Hid (n = gN + 1) := hn
  clear hS hW0 x0 x1 x2 z0 hn
  go_enter Yba.func9, Yba.ntmps9
  go_wp2_with fail
  go_loopw [7] (fun i wr => ∃ l : List Nat, l.length ≤ n ∧ i = .int .i64 (l.length : Int) ∧ ClkTo wr (w.heap.size + 1 + 1 + 1) n l ∧ Below (w.heap.size + 1 + 1 + 1) W0 wr) (fun i _ => n - (intOf i).toNat)
  case atStart =>
    refine ⟨[], Nat.zero_le _, rfl, ?_, ?_⟩
    · rw [← HW.out, ← HZ.out]; exact ClkTo.start _ _ _
    · rw [← HW.out, ← HZ.out]; exact (Below.refl _ _).alloc (Nat.le_refl _) _
  case round =>
    obtain ⟨l, hk, rfl, hc, hb⟩ := hrel
    obtain ⟨k, hkl⟩ : ∃ k, k = l.length := ⟨_, rfl⟩
    have HK : Hid (k = l.length) := hkl
    rw [← hkl] at hk ⊢
    by_cases hkn : k < n
    · have hcr : wr.cell? ⟨w.heap.size + 1 + 1, k, none⟩ = some (.int .u32 ((S k : Nat) : Int)) := (hb.cell (by simp)).trans (HS.out k (by omega))
      obtain ⟨⟨o1, ho1⟩, hf1⟩ := hc.room k hkn
      have hkI : (k : Int) < 3 := by omega
      have hkI2 : (k : Int) < (gN : Int) + 1 := by have := HN.out; omega
      generalize S k = z at *
      clear hkl hmk c0 c6 s0
      go_wp2
      go_roundw
      case rel => exact ⟨l ++ [z], by rw [List.length_append, ← HK.out]; simp; omega, by rw [List.length_append, ← HK.out]; simp, hc.step (by rw [← HK.out]; exact hkn) z HK.out rfl, hb.setCell (by simp) _⟩
      case measure => simp [intOf]; omega
    · have e : n = l.length := by have := HK.out; omega
      have hd : Clk wr (w.heap.size + 1 + 1 + 1) l := hc.done e.symm
      have d0 : wr.cell? ⟨w.heap.size, 0, none⟩ = some (.int .i8 N) := (hb.cell (by simp; omega)).trans c0
      have d6 : wr.cell? ⟨w.heap.size, 6, none⟩ = some (.bool true) := (hb.cell (by simp; omega)).trans c6
      have t0 := (hb.block (w.heap.size + 1) (by omega)).trans s0
      have f : ∀ j, wr.frozen? ⟨w.heap.size + 1, j, none⟩ = false := fun j => frozen_of_row wr _ j _ 36 t0
      have e0 : wr.cell? ⟨w.heap.size + 1, 0, none⟩ = some (.int .i64 0) := by rw [cell_of_row wr _ _ _ 36 (0, 0) t0]; rfl
      have e1 : wr.cell? ⟨w.heap.size + 1, 1, none⟩ = some (.string { data := #[] }) := by rw [cell_of_row wr _ _ _ 36 (0, 0) t0]; rfl
      have e2 : wr.cell? ⟨w.heap.size + 1, 2, none⟩ = some (.int .i64 0) := by rw [cell_of_row wr _ _ _ 36 (0, 0) t0]; rfl
      have e3 : wr.cell? ⟨w.heap.size + 1, 3, none⟩ = some (.int .u64 0) := by rw [cell_of_row wr _ _ _ 36 (0, 0) t0]; rfl
      have e4 : wr.cell? ⟨w.heap.size + 1, 4, none⟩ = some (.int .i64 0) := by rw [cell_of_row wr _ _ _ 36 (0, 0) t0]; rfl
      have e5 : wr.cell? ⟨w.heap.size + 1, 5, none⟩ = some (.slice none 0 0) := by rw [cell_of_row wr _ _ _ 36 (0, 0) t0]; rfl
      have e6 : wr.cell? ⟨w.heap.size + 1, 6, none⟩ = some (.int .u64 0) := by rw [cell_of_row wr _ _ _ 36 (0, 0) t0]; rfl
      have hbb : Below w.heap.size w wr := bl.trans (hb.mono (by omega))
      have hkI2 : ¬ (k : Int) < (gN : Int) + 1 := by have := HN.out; omega
      have HE : Hid (n = l.length) := e
      have hng' : gN < l.length := by omega
      clear hmk hkl e t0 s0 c0 c6
      go_wp2
      refine bodyPost_ret (v := .agg #[.int .i64 (wrap64 (N.tmod 3)), .string { data := #[] }, .int .i64 0, .int .u64 0, .int .i64 (gN : Int), .slice (some ⟨w.heap.size + 1 + 1 + 1, 0, none⟩) n n, .int .u64 1]) (by simp [results, Yba.results9, go_sem, e0, e1, e2, e3, e4, e5, e6]) rfl ?_
      have hn' := HE.out
      subst hn'
      exact ⟨⟨wrap64 (N.tmod 3), gN, w.heap.size + 1 + 1 + 1, l, 1⟩, rfl, ⟨((((((hd.set (by simp; omega) _).set (by simp; omega) _).set (by simp; omega) _).set (by simp; omega) _).set (by simp; omega) _).set (by simp; omega) _).set (by simp; omega) _, hng', by show l.length ≤ 1024; omega⟩,
        ((((((hbb.setCell (by simp) _).setCell (by simp) _).setCell (by simp) _).setCell (by simp) _).setCell (by simp) _).setCell (by simp) _).setCell (by simp) _⟩

set_option maxRecDepth 20000 in
set_option maxHeartbeats 1000000 in
theorem mk9lf (N G A0 A1 A2 L : Int) (w : World) (gN lN : Nat) (hG0 : 0 ≤ G) (hG1 : G ≤ 255) (hG : G % 3 = (gN : Int)) (hg2 : gN ≤ 2) (hL0 : 0 ≤ L) (hL1 : L ≤ 255) (hL : L % 4 = (lN : Int)) (hl3 : lN ≤ 3)
   (a0 : 0 ≤ A0 ∧ A0 ≤ 255) (a1 : 0 ≤ A1 ∧ A1 ≤ 255) (a2 : 0 ≤ A2 ∧ A2 ≤ 255) (hlt :  lN < gN + 1) :
    Calls Yba.prog 9 #[.agg #[.int .i8 N, .int .u8 G, .int .u8 A0, .int .u8 A1, .int .u8 A2, .int .u8 L, .bool false]] w fun e w' => Made w e w' := by
  obtain ⟨n, hn⟩ : ∃ n, n = gN + 1 := ⟨_, rfl⟩
  have hn3 : n ≤ 3 := by omega
  have hng : gN < n := by omega
  have hmk : ∀ w, (Instr.makeSlice 34 (.int .i64 ((gN : Int) + 1)) (.int .i64 ((gN : Int) + 1))).run Yba.prog w = .ok (.slice (some ⟨w.heap.size, 0, none⟩) n n) (w.alloc (.cells (madeCells #[.int .u32 0] n) 65)) := fun w => by
    have := run_make34 n (by omega) w
    rw [hn] at this ⊢
    simpa using this
  obtain ⟨W0, hW0⟩ : ∃ W0, W0 = ((w.alloc (.cells #[.int .i8 N, .int .u8 G, .int .u8 A0, .int .u8 A1, .int .u8 A2, .int .u8 L, .bool false] 25)).alloc (.cells #[.int .i64 0, .string { data := #[] }, .int .i64 0, .int .u64 0, .int .i64 0, .slice none 0 0, .int .u64 0] 36)).alloc (.cells #[.int .u32 (A0 % 4), .int .u32 (A1 % 4), .int .u32 (A2 % 4)] 66) := ⟨_, rfl⟩
  have c0 : W0.cell? ⟨w.heap.size, 0, none⟩ = some (.int .i8 N) := by rw [hW0]; simp [go_sem]
  have c6 : W0.cell? ⟨w.heap.size, 6, none⟩ = some (.bool false) := by rw [hW0]; simp [go_sem]
  have s0 : W0.heap[w.heap.size + 1]? = some (.cells #[.int .i64 0, .string { data := #[] }, .int .i64 0, .int .u64 0, .int .i64 0, .slice none 0 0, .int .u64 0] 36 (0, 0)) := by
    rw [hW0, Below.heap_alloc _ _ _ (by simp)]
    have := heap_alloc_new (w.alloc (.cells #[.int .i8 N, .int .u8 G, .int .u8 A0, .int .u8 A1, .int .u8 A2, .int .u8 L, .bool false] 25)) (.cells #[.int .i64 0, .string { data := #[] }, .int .i64 0, .int .u64 0, .int .i64 0, .slice none 0 0, .int .u64 0] 36)
    simpa using this
  have x0 : W0.cell? ⟨w.heap.size + 1 + 1, 0, none⟩ = some (.int .u32 (A0 % 4)) := by rw [hW0]; simp [go_sem]
  have x1 : W0.cell? ⟨w.heap.size + 1 + 1, 1, none⟩ = some (.int .u32 (A1 % 4)) := by rw [hW0]; simp [go_sem]
  have x2 : W0.cell? ⟨w.heap.size + 1 + 1, 2, none⟩ = some (.int .u32 (A2 % 4)) := by rw [hW0]; simp [go_sem]
  have z0 : W0.heap.size = w.heap.size + 1 + 1 + 1 := by rw [hW0]; simp [go_sem]
  have bl : Below w.heap.size w W0 := by rw [hW0]; exact (((Below.refl _ _).alloc (Nat.le_refl _) _).alloc (by simp) _).alloc (by simp; omega) _
  obtain ⟨S, hS⟩ : ∃ S : Nat → Nat, ∀ k, k < 3 → W0.cell? ⟨w.heap.size + 1 + 1, k, none⟩ = some (.int .u32 ((S k : Nat) : Int)) := by
    refine ⟨fun k => if k = 0 then (A0 % 4).toNat else if k = 1 then (A1 % 4).toNat else (A2 % 4).toNat, fun k hk => ?_⟩
    match k, hk with
    | 0, _ => rw [x0]; congr 2; simp; omega
    | 1, _ => rw [x1]; congr 2; simp; omega
    | 2, _ => rw [x2]; congr 2; simp; omega
  have HS : Hid (∀ k, k < 3 → W0.cell? ⟨w.heap.size + 1 + 1, k, none⟩ = some (.int .u32 ((S k : Nat) : Int))) := hS
  have HW : Hid (W0 = ((w.alloc (.cells #[.int .i8 N, .int .u8 G, .int .u8 A0, .int .u8 A1, .int .u8 A2, .int .u8 L, .bool false] 25)).alloc (.cells #[.int .i64 0, .string { data := #[] }, .int .i64 0, .int .u64 0, .int .i64 0, .slice none 0 0, .int .u64 0] 36)).alloc (.cells #[.int .u32 (A0 % 4), .int .u32 (A1 % 4), .int .u32 (A2 % 4)] 66)) := hW0
  have HZ : Hid (W0.heap.size = w.heap.size + 1 + 1 + 1) := z0
  have HN : Hid (n = gN + 1) := hn
  clear hS hW0 x0 x1 x2 z0 hn
  go_enter Yba.func9, Yba.ntmps9
  go_wp2_with fail
  go_loopw [7] (fun i wr => ∃ l : List Nat, l.length ≤ n ∧ i = .int .i64 (l.length : Int) ∧ ClkTo wr (w.heap.size + 1 + 1 + 1) n l ∧ Below (w.heap.size + 1 + 1 + 1) W0 wr) (fun i _ => n - (intOf i).toNat)
  case atStart =>
    refine ⟨[], Nat.zero_le _, rfl, ?_, ?_⟩
    · rw [← HW.out, ← HZ.out]; exact ClkTo.start _ _ _
    · rw [← HW.out, ← HZ.out]; exact (Below.refl _ _).alloc (Nat.le_refl _) _
  case round =>
    obtain ⟨l, hk, rfl, hc, hb⟩ := hrel
    obtain ⟨k, hkl⟩ : ∃ k, k = l.length := ⟨_, rfl⟩
    have HK : Hid (k = l.length) := hkl
    rw [← hkl] at hk ⊢
    by_cases hkn : k < n
    · have hcr : wr.cell? ⟨w.heap.size + 1 + 1, k, none⟩ = some (.int .u32 ((S k : Nat) : Int)) := (hb.cell (by simp)).trans (HS.out k (by omega))
      obtain ⟨⟨o1, ho1⟩, hf1⟩ := hc.room k hkn
      have hkI : (k : Int) < 3 := by omega
      have hkI2 : (k : Int) < (gN : Int) + 1 := by have := HN.out; omega
      generalize S k = z at *
      clear hkl hmk c0 c6 s0
      go_wp2
      go_roundw
      case rel => exact ⟨l ++ [z], by rw [List.length_append, ← HK.out]; simp; omega, by rw [List.length_append, ← HK.out]; simp, hc.step (by rw [← HK.out]; exact hkn) z HK.out rfl, hb.setCell (by simp) _⟩
      case measure => simp [intOf]; omega
    · have e : n = l.length := by have := HK.out; omega
      have hd : Clk wr (w.heap.size + 1 + 1 + 1) l := hc.done e.symm
      have d0 : wr.cell? ⟨w.heap.size, 0, none⟩ = some (.int .i8 N) := (hb.cell (by simp; omega)).trans c0
      have d6 : wr.cell? ⟨w.heap.size, 6, none⟩ = some (.bool false) := (hb.cell (by simp; omega)).trans c6
      have t0 := (hb.block (w.heap.size + 1) (by omega)).trans s0
      have f : ∀ j, wr.frozen? ⟨w.heap.size + 1, j, none⟩ = false := fun j => frozen_of_row wr _ j _ 36 t0
      have e0 : wr.cell? ⟨w.heap.size + 1, 0, none⟩ = some (.int .i64 0) := by rw [cell_of_row wr _ _ _ 36 (0, 0) t0]; rfl
      have e1 : wr.cell? ⟨w.heap.size + 1, 1, none⟩ = some (.string { data := #[] }) := by rw [cell_of_row wr _ _ _ 36 (0, 0) t0]; rfl
      have e2 : wr.cell? ⟨w.heap.size + 1, 2, none⟩ = some (.int .i64 0) := by rw [cell_of_row wr _ _ _ 36 (0, 0) t0]; rfl
      have e3 : wr.cell? ⟨w.heap.size + 1, 3, none⟩ = some (.int .u64 0) := by rw [cell_of_row wr _ _ _ 36 (0, 0) t0]; rfl
      have e4 : wr.cell? ⟨w.heap.size + 1, 4, none⟩ = some (.int .i64 0) := by rw [cell_of_row wr _ _ _ 36 (0, 0) t0]; rfl
      have e5 : wr.cell? ⟨w.heap.size + 1, 5, none⟩ = some (.slice none 0 0) := by rw [cell_of_row wr _ _ _ 36 (0, 0) t0]; rfl
      have e6 : wr.cell? ⟨w.heap.size + 1, 6, none⟩ = some (.int .u64 0) := by rw [cell_of_row wr _ _ _ 36 (0, 0) t0]; rfl
      have hbb : Below w.heap.size w wr := bl.trans (hb.mono (by omega))
      have hkI2 : ¬ (k : Int) < (gN : Int) + 1 := by have := HN.out; omega
      have HE : Hid (n = l.length) := e
      have hng' : gN < l.length := by omega
      clear hmk hkl e t0 s0 c0 c6
      go_wp2
      refine bodyPost_ret (v := .agg #[.int .i64 (wrap64 (N.tmod 3)), .string { data := #[] }, .int .i64 0, .int .u64 0, .int .i64 (gN : Int), .slice (some ⟨w.heap.size + 1 + 1 + 1, 0, none⟩) n n, .int .u64 0]) (by simp [results, Yba.results9, go_sem, e0, e1, e2, e3, e4, e5, e6]) rfl ?_
      have hn' := HE.out
      subst hn'
      exact ⟨⟨wrap64 (N.tmod 3), gN, w.heap.size + 1 + 1 + 1, l, 0⟩, rfl, ⟨((((((hd.set (by simp; omega) _).set (by simp; omega) _).set (by simp; omega) _).set (by simp; omega) _).set (by simp; omega) _).set (by simp; omega) _).set (by simp; omega) _, hng', by show l.length ≤ 1024; omega⟩,
        ((((((hbb.setCell (by simp) _).setCell (by simp) _).setCell (by simp) _).setCell (by simp) _).setCell (by simp) _).setCell (by simp) _).setCell (by simp) _⟩

set_option maxRecDepth 20000 in
set_option maxHeartbeats 1000000 in
theorem mk9nt (N G A0 A1 A2 L : Int) (w : World) (gN lN : Nat) (hG0 : 0 ≤ G) (hG1 : G ≤ 255) (hG : G % 3 = (gN : Int)) (hg2 : gN ≤ 2) (hL0 : 0 ≤ L) (hL1 : L ≤ 255) (hL : L % 4 = (lN : Int)) (hl3 : lN ≤ 3)
   (a0 : 0 ≤ A0 ∧ A0 ≤ 255) (a1 : 0 ≤ A1 ∧ A1 ≤ 255) (a2 : 0 ≤ A2 ∧ A2 ≤ 255) (hlt : ¬ lN < gN + 1) :
    Calls Yba.prog 9 #[.agg #[.int .i8 N, .int .u8 G, .int .u8 A0, .int .u8 A1, .int .u8 A2, .int .u8 L, .bool true]] w fun e w' => Made w e w' := by
  obtain ⟨n, hn⟩ : ∃ n, n = lN := ⟨_, rfl⟩
  have hn3 : n ≤ 3 := by omega
  have hng : gN < n := by omega
  have hmk : ∀ w, (Instr.makeSlice 34 (.int .i64 ((lN : Int))) (.int .i64 ((lN : Int)))).run Yba.prog w = .ok (.slice (some ⟨w.heap.size, 0, none⟩) n n) (w.alloc (.cells (madeCells #[.int .u32 0] n) 65)) := fun w => by
    have := run_make34 n (by omega) w
    rw [hn] at this ⊢
    simpa using this
  obtain ⟨W0, hW0⟩ : ∃ W0, W0 = ((w.alloc (.cells #[.int .i8 N, .int .u8 G, .int .u8 A0, .int .u8 A1, .int .u8 A2, .int .u8 L, .bool true] 25)).alloc (.cells #[.int .i64 0, .string { data := #[] }, .int .i64 0, .int .u64 0, .int .i64 0, .slice none 0 0, .int .u64 0] 36)).alloc (.cells #[.int .u32 (A0 % 4), .int .u32 (A1 % 4), .int .u32 (A2 % 4)] 66) := ⟨_, rfl⟩
  have c0 : W0.cell? ⟨w.heap.size, 0, none⟩ = some (.int .i8 N) := by rw [hW0]; simp [go_sem]
  have c6 : W0.cell? ⟨w.heap.size, 6, none⟩ = some (.bool true) := by rw [hW0]; simp [go_sem]
  have s0 : W0.heap[w.heap.size + 1]? = some (.cells #[.int .i64 0, .string { data := #[] }, .int .i64 0, .int .u64 0, .int .i64 0, .slice none 0 0, .int .u64 0] 36 (0, 0)) := by
    rw [hW0, Below.heap_alloc _ _ _ (by simp)]
    have := heap_alloc_new (w.alloc (.cells #[.int .i8 N, .int .u8 G, .int .u8 A0, .int .u8 A1, .int .u8 A2, .int .u8 L, .bool true] 25)) (.cells #[.int .i64 0, .string { data := #[] }, .int .i64 0, .int .u64 0, .int .i64 0, .slice none 0 0, .int .u64 0] 36)
    simpa using this
  have x0 : W0.cell? ⟨w.heap.size + 1 + 1, 0, none⟩ = some (.int .u32 (A0 % 4)) := by rw [hW0]; simp [go_sem]
  have x1 : W0.cell? ⟨w.heap.size + 1 + 1, 1, none⟩ = some (.int .u32 (A1 % 4)) := by rw [hW0]; simp [go_sem]
  have x2 : W0.cell? ⟨w.heap.size + 1 + 1, 2, none⟩ = some (.int .u32 (A2 % 4)) := by rw [hW0]; simp [go_sem]
  have z0 : W0.heap.size = w.heap.size + 1 + 1 + 1 := by rw [hW0]; simp [go_sem]
  have bl : Below w.heap.size w W0 := by rw [hW0]; exact (((Below.refl _ _).alloc (Nat.le_refl _) _).alloc (by simp) _).alloc (by simp; omega) _
  obtain ⟨S, hS⟩ : ∃ S : Nat → Nat, ∀ k, k < 3 → W0.cell? ⟨w.heap.size + 1 + 1, k, none⟩ = some (.int .u32 ((S k : Nat) : Int)) := by
    refine ⟨fun k => if k = 0 then (A0 % 4).toNat else if k = 1 then (A1 % 4).toNat else (A2 % 4).toNat, fun k hk => ?_⟩
    match k, hk with
    | 0, _ => rw [x0]; congr 2; simp; omega
    | 1, _ => rw [x1]; congr 2; simp; omega
    | 2, _ => rw [x2]; congr 2; simp; omega
  have HS : Hid (∀ k, k < 3 → W0.cell? ⟨w.heap.size + 1 + 1, k, none⟩ = some (.int .u32 ((S k : Nat) : Int))) := hS
  have HW : Hid (W0 = ((w.alloc (.cells #[.int .i8 N, .int .u8 G, .int .u8 A0, .int .u8 A1, .int .u8 A2, .int .u8 L, .bool true] 25)).alloc (.cells #[.int .i64 0, .string { data := #[] }, .int .i64 0, .int .u64 0, .int .i64 0, .slice none 0 0, .int .u64 0] 36)).alloc (.cells #[.int .u32 (A0 % 4), .int .u32 (A1 % 4), .int .u32 (A2 % 4)] 66)) := hW0
  have HZ : Hid (W0.heap.size = w.heap.size + 1 + 1 + 1) := z0
  have HN : Hid (n = lN) := hn
  clear hS hW0 x0 x1 x2 z0 hn
  go_enter Yba.func9, Yba.ntmps9
  go_wp2_with fail
  go_loopw [7] (fun i wr => ∃ l : List Nat, l.length ≤ n ∧ i = .int .i64 (l.length : Int) ∧ ClkTo wr (w.heap.size + 1 + 1 + 1) n l ∧ Below (w.heap.size + 1 + 1 + 1) W0 wr) (fun i _ => n - (intOf i).toNat)
  case atStart =>
    refine ⟨[], Nat.zero_le _, rfl, ?_, ?_⟩
    · rw [← HW.out, ← HZ.out]; exact ClkTo.start _ _ _
    · rw [← HW.out, ← HZ.out]; exact (Below.refl _ _).alloc (Nat.le_refl _) _
  case round =>
    obtain ⟨l, hk, rfl, hc, hb⟩ := hrel
    obtain ⟨k, hkl⟩ : ∃ k, k = l.length := ⟨_, rfl⟩
    have HK : Hid (k = l.length) := hkl
    rw [← hkl] at hk ⊢
    by_cases hkn : k < n
    · have hcr : wr.cell? ⟨w.heap.size + 1 + 1, k, none⟩ = some (.int .u32 ((S k : Nat) : Int)) := (hb.cell (by simp)).trans (HS.out k (by omega))
      obtain ⟨⟨o1, ho1⟩, hf1⟩ := hc.room k hkn
      have hkI : (k : Int) < 3 := by omega
      have hkI2 : (k : Int) < (lN : Int) := by have := HN.out; omega
      generalize S k = z at *
      clear hkl hmk c0 c6 s0
      go_wp2
      go_roundw
      case rel => exact ⟨l ++ [z], by rw [List.length_append, ← HK.out]; simp; omega, by rw [List.length_append, ← HK.out]; simp, hc.step (by rw [← HK.out]; exact hkn) z HK.out rfl, hb.setCell (by simp) _⟩
      case measure => simp [intOf]; omega
    · have e : n = l.length := by have := HK.out; omega
      have hd : Clk wr (w.heap.size + 1 + 1 + 1) l := hc.done e.symm
      have d0 : wr.cell? ⟨w.heap.size, 0, none⟩ = some (.int .i8 N) := (hb.cell (by simp; omega)).trans c0
      have d6 : wr.cell? ⟨w.heap.size, 6, none⟩ = some (.bool true) := (hb.cell (by simp; omega)).trans c6
      have t0 := (hb.block (w.heap.size + 1) (by omega)).trans s0
      have f : ∀ j, wr.frozen? ⟨w.heap.size + 1, j, none⟩ = false := fun j => frozen_of_row wr _ j _ 36 t0
      have e0 : wr.cell? ⟨w.heap.size + 1, 0, none⟩ = some (.int .i64 0) := by rw [cell_of_row wr _ _ _ 36 (0, 0) t0]; rfl
      have e1 : wr.cell? ⟨w.heap.size + 1, 1, none⟩ = some (.string { data := #[] }) := by rw [cell_of_row wr _ _ _ 36 (0, 0) t0]; rfl
      have e2 : wr.cell? ⟨w.heap.size + 1, 2, none⟩ = some (.int .i64 0) := by rw [cell_of_row wr _ _ _ 36 (0, 0) t0]; rfl
      have e3 : wr.cell? ⟨w.heap.size + 1, 3, none⟩ = some (.int .u64 0) := by rw [cell_of_row wr _ _ _ 36 (0, 0) t0]; rfl
      have e4 : wr.cell? ⟨w.heap.size + 1, 4, none⟩ = some (.int .i64 0) := by rw [cell_of_row wr _ _ _ 36 (0, 0) t0]; rfl
      have e5 : wr.cell? ⟨w.heap.size + 1, 5, none⟩ = some (.slice none 0 0) := by rw [cell_of_row wr _ _ _ 36 (0, 0) t0]; rfl
      have e6 : wr.cell? ⟨w.heap.size + 1, 6, none⟩ = some (.int .u64 0) := by rw [cell_of_row wr _ _ _ 36 (0, 0) t0]; rfl
      have hbb : Below w.heap.size w wr := bl.trans (hb.mono (by omega))
      have hkI2 : ¬ (k : Int) < (lN : Int) := by have := HN.out; omega
      have HE : Hid (n = l.length) := e
      have hng' : gN < l.length := by omega
      clear hmk hkl e t0 s0 c0 c6
      go_wp2
      refine bodyPost_ret (v := .agg #[.int .i64 (wrap64 (N.tmod 3)), .string { data := #[] }, .int .i64 0, .int .u64 0, .int .i64 (gN : Int), .slice (some ⟨w.heap.size + 1 + 1 + 1, 0, none⟩) n n, .int .u64 1]) (by simp [results, Yba.results9, go_sem, e0, e1, e2, e3, e4, e5, e6]) rfl ?_
      have hn' := HE.out
      subst hn'
      exact ⟨⟨wrap64 (N.tmod 3), gN, w.heap.size + 1 + 1 + 1, l, 1⟩, rfl, ⟨((((((hd.set (by simp; omega) _).set (by simp; omega) _).set (by simp; omega) _).set (by simp; omega) _).set (by simp; omega) _).set (by simp; omega) _).set (by simp; omega) _, hng', by show l.length ≤ 1024; omega⟩,
        ((((((hbb.setCell (by simp) _).setCell (by simp) _).setCell (by simp) _).setCell (by simp) _).setCell (by simp) _).setCell (by simp) _).setCell (by simp) _⟩

set_option maxRecDepth 20000 in
set_option maxHeartbeats 1000000 in
theorem mk9nf (N G A0 A1 A2 L : Int) (w : World) (gN lN : Nat) (hG0 : 0 ≤ G) (hG1 : G ≤ 255) (hG : G % 3 = (gN : Int)) (hg2 : gN ≤ 2) (hL0 : 0 ≤ L) (hL1 : L ≤ 255) (hL : L % 4 = (lN : Int)) (hl3 : lN ≤ 3)
   (a0 : 0 ≤ A0 ∧ A0 ≤ 255) (a1 : 0 ≤ A1 ∧ A1 ≤ 255) (a2 : 0 ≤ A2 ∧ A2 ≤ 255) (hlt : ¬ lN < gN + 1) :
    Calls Yba.prog 9 #[.agg #[.int .i8 N, .int .u8 G, .int .u8 A0, .int .u8 A1, .int .u8 A2, .int .u8 L, .bool false]] w fun e w' => Made w e w' := by
  obtain ⟨n, hn⟩ : ∃ n, n = lN := ⟨_, rfl⟩
  have hn3 : n ≤ 3 := by omega
  have hng : gN < n := by omega
  have hmk : ∀ w, (Instr.makeSlice 34 (.int .i64 ((lN : Int))) (.int .i64 ((lN : Int)))).run Yba.prog w = .ok (.slice (some ⟨w.heap.size, 0, none⟩) n n) (w.alloc (.cells (madeCells #[.int .u32 0] n) 65)) := fun w => by
    have := run_make34 n (by omega) w
    rw [hn] at this ⊢
    simpa using this
  obtain ⟨W0, hW0⟩ : ∃ W0, W0 = ((w.alloc (.cells #[.int .i8 N, .int .u8 G, .int .u8 A0, .int .u8 A1, .int .u8 A2, .int .u8 L, .bool false] 25)).alloc (.cells #[.int .i64 0, .string { data := #[] }, .int .i64 0, .int .u64 0, .int .i64 0, .slice none 0 0, .int .u64 0] 36)).alloc (.cells #[.int .u32 (A0 % 4), .int .u32 (A1 % 4), .int .u32 (A2 % 4)] 66) := ⟨_, rfl⟩
  have c0 : W0.cell? ⟨w.heap.size, 0, none⟩ = some (.int .i8 N) := by rw [hW0]; simp [go_sem]
  have c6 : W0.cell? ⟨w.heap.size, 6, none⟩ = some (.bool false) := by rw [hW0]; simp [go_sem]
  have s0 : W0.heap[w.heap.size + 1]? = some (.cells #[.int .i64 0, .string { data := #[] }, .int .i64 0, .int .u64 0, .int .i64 0, .slice none 0 0, .int .u64 0] 36 (0, 0)) := by
    rw [hW0, Below.heap_alloc _ _ _ (by simp)]
    have := heap_alloc_new (w.alloc (.cells #[.int .i8 N, .int .u8 G, .int .u8 A0, .int .u8 A1, .int .u8 A2, .int .u8 L, .bool false] 25)) (.cells #[.int .i64 0, .string { data := #[] }, .int .i64 0, .int .u64 0, .int .i64 0, .slice none 0 0, .int .u64 0] 36)
    simpa using this
  have x0 : W0.cell? ⟨w.heap.size + 1 + 1, 0, none⟩ = some (.int .u32 (A0 % 4)) := by rw [hW0]; simp [go_sem]
  have x1 : W0.cell? ⟨w.heap.size + 1 + 1, 1, none⟩ = some (.int .u32 (A1 % 4)) := by rw [hW0]; simp [go_sem]
  have x2 : W0.cell? ⟨w.heap.size + 1 + 1, 2, none⟩ = some (.int .u32 (A2 % 4)) := by rw [hW0]; simp [go_sem]
  have z0 : W0.heap.size = w.heap.size + 1 + 1 + 1 := by rw [hW0]; simp [go_sem]
  have bl : Below w.heap.size w W0 := by rw [hW0]; exact (((Below.refl _ _).alloc (Nat.le_refl _) _).alloc (by simp) _).alloc (by simp; omega) _
  obtain ⟨S, hS⟩ : ∃ S : Nat → Nat, ∀ k, k < 3 → W0.cell? ⟨w.heap.size + 1 + 1, k, none⟩ = some (.int .u32 ((S k : Nat) : Int)) := by
    refine ⟨fun k => if k = 0 then (A0 % 4).toNat else if k = 1 then (A1 % 4).toNat else (A2 % 4).toNat, fun k hk => ?_⟩
    match k, hk with
    | 0, _ => rw [x0]; congr 2; simp; omega
    | 1, _ => rw [x1]; congr 2; simp; omega
    | 2, _ => rw [x2]; congr 2; simp; omega
  have HS : Hid (∀ k, k < 3 → W0.cell? ⟨w.heap.size + 1 + 1, k, none⟩ = some (.int .u32 ((S k : Nat) : Int))) := hS
  have HW : Hid (W0 = ((w.alloc (.cells #[.int .i8 N, .int .u8 G, .int .u8 A0, .int .u8 A1, .int .u8 A2, .int .u8 L, .bool false] 25)).alloc (.cells #[.int .i64 0, .string { data := #[] }, .int .i64 0, .int .u64 0, .int .i64 0, .slice none 0 0, .int .u64 0] 36)).alloc (.cells #[.int .u32 (A0 % 4), .int .u32 (A1 % 4), .int .u32 (A2 % 4)] 66)) := hW0
  have HZ : Hid (W0.heap.size = w.heap.size + 1 + 1 + 1) := z0
  have HN : Hid (n = lN) := hn
  clear hS hW0 x0 x1 x2 z0 hn
  go_enter Yba.func9, Yba.ntmps9
  go_wp2_with fail
  go_loopw [7] (fun i wr => ∃ l : List Nat, l.length ≤ n ∧ i = .int .i64 (l.length : Int) ∧ ClkTo wr (w.heap.size + 1 + 1 + 1) n l ∧ Below (w.heap.size + 1 + 1 + 1) W0 wr) (fun i _ => n - (intOf i).toNat)
  case atStart =>
    refine ⟨[], Nat.zero_le _, rfl, ?_, ?_⟩
    · rw [← HW.out, ← HZ.out]; exact ClkTo.start _ _ _
    · rw [← HW.out, ← HZ.out]; exact (Below.refl _ _).alloc (Nat.le_refl _) _
  case round =>
    obtain ⟨l, hk, rfl, hc, hb⟩ := hrel
    obtain ⟨k, hkl⟩ : ∃ k, k = l.length := ⟨_, rfl⟩
    have HK : Hid (k = l.length) := hkl
    rw [← hkl] at hk ⊢
    by_cases hkn : k < n
    · have hcr : wr.cell? ⟨w.heap.size + 1 + 1, k, none⟩ = some (.int .u32 ((S k : Nat) : Int)) := (hb.cell (by simp)).trans (HS.out k (by omega))
      obtain ⟨⟨o1, ho1⟩, hf1⟩ := hc.room k hkn
      have hkI : (k : Int) < 3 := by omega
      have hkI2 : (k : Int) < (lN : Int) := by have := HN.out; omega
      generalize S k = z at *
      clear hkl hmk c0 c6 s0
      go_wp2
      go_roundw
      case rel => exact ⟨l ++ [z], by rw [List.length_append, ← HK.out]; simp; omega, by rw [List.length_append, ← HK.out]; simp, hc.step (by rw [← HK.out]; exact hkn) z HK.out rfl, hb.setCell (by simp) _⟩
      case measure => simp [intOf]; omega
    · have e : n = l.length := by have := HK.out; omega
      have hd : Clk wr (w.heap.size + 1 + 1 + 1) l := hc.done e.symm
      have d0 : wr.cell? ⟨w.heap.size, 0, none⟩ = some (.int .i8 N) := (hb.cell (by simp; omega)).trans c0
      have d6 : wr.cell? ⟨w.heap.size, 6, none⟩ = some (.bool false) := (hb.cell (by simp; omega)).trans c6
      have t0 := (hb.block (w.heap.size + 1) (by omega)).trans s0
      have f : ∀ j, wr.frozen? ⟨w.heap.size + 1, j, none⟩ = false := fun j => frozen_of_row wr _ j _ 36 t0
      have e0 : wr.cell? ⟨w.heap.size + 1, 0, none⟩ = some (.int .i64 0) := by rw [cell_of_row wr _ _ _ 36 (0, 0) t0]; rfl
      have e1 : wr.cell? ⟨w.heap.size + 1, 1, none⟩ = some (.string { data := #[] }) := by rw [cell_of_row wr _ _ _ 36 (0, 0) t0]; rfl
      have e2 : wr.cell? ⟨w.heap.size + 1, 2, none⟩ = some (.int .i64 0) := by rw [cell_of_row wr _ _ _ 36 (0, 0) t0]; rfl
      have e3 : wr.cell? ⟨w.heap.size + 1, 3, none⟩ = some (.int .u64 0) := by rw [cell_of_row wr _ _ _ 36 (0, 0) t0]; rfl
      have e4 : wr.cell? ⟨w.heap.size + 1, 4, none⟩ = some (.int .i64 0) := by rw [cell_of_row wr _ _ _ 36 (0, 0) t0]; rfl
      have e5 : wr.cell? ⟨w.heap.size + 1, 5, none⟩ = some (.slice none 0 0) := by rw [cell_of_row wr _ _ _ 36 (0, 0) t0]; rfl
      have e6 : wr.cell? ⟨w.heap.size + 1, 6, none⟩ = some (.int .u64 0) := by rw [cell_of_row wr _ _ _ 36 (0, 0) t0]; rfl
      have hbb : Below w.heap.size w wr := bl.trans (hb.mono (by omega))
      have hkI2 : ¬ (k : Int) < (lN : Int) := by have := HN.out; omega
      have HE : Hid (n = l.length) := e
      have hng' : gN < l.length := by omega
      clear hmk hkl e t0 s0 c0 c6
      go_wp2
      refine bodyPost_ret (v := .agg #[.int .i64 (wrap64 (N.tmod 3)), .string { data := #[] }, .int .i64 0, .int .u64 0, .int .i64 (gN : Int), .slice (some ⟨w.heap.size + 1 + 1 + 1, 0, none⟩) n n, .int .u64 0]) (by simp [results, Yba.results9, go_sem, e0, e1, e2, e3, e4, e5, e6]) rfl ?_
      have hn' := HE.out
      subst hn'
      exact ⟨⟨wrap64 (N.tmod 3), gN, w.heap.size + 1 + 1 + 1, l, 0⟩, rfl, ⟨((((((hd.set (by simp; omega) _).set (by simp; omega) _).set (by simp; omega) _).set (by simp; omega) _).set (by simp; omega) _).set (by simp; omega) _).set (by simp; omega) _, hng', by show l.length ≤ 1024; omega⟩,
        ((((((hbb.setCell (by simp) _).setCell (by simp) _).setCell (by simp) _).setCell (by simp) _).setCell (by simp) _).setCell (by simp) _).setCell (by simp) _⟩

theorem mk9 (N G A0 A1 A2 L : Int) (F : Bool) (w : World) (hG : 0 ≤ G ∧ G ≤ 255) (a0 : 0 ≤ A0 ∧ A0 ≤ 255) (a1 : 0 ≤ A1 ∧ A1 ≤ 255) (a2 : 0 ≤ A2 ∧ A2 ≤ 255) (hL : 0 ≤ L ∧ L ≤ 255) :
    Calls Yba.prog 9 #[.agg #[.int .i8 N, .int .u8 G, .int .u8 A0, .int .u8 A1, .int .u8 A2, .int .u8 L, .bool F]] w fun e w' => Made w e w' := by
  have hg : G % 3 = (((G % 3).toNat : Nat) : Int) := by omega
  have hl : L % 4 = (((L % 4).toNat : Nat) : Int) := by omega
  have hg2 : (G % 3).toNat ≤ 2 := by omega
  have hl3 : (L % 4).toNat ≤ 3 := by omega
  by_cases h : (L % 4).toNat < (G % 3).toNat + 1
  · cases F
    · exact mk9lf N G A0 A1 A2 L w _ _ hG.1 hG.2 hg hg2 hL.1 hL.2 hl hl3 a0 a1 a2 h
    · exact mk9lt N G A0 A1 A2 L w _ _ hG.1 hG.2 hg hg2 hL.1 hL.2 hl hl3 a0 a1 a2 h
  · cases F
    · exact mk9nf N G A0 A1 A2 L w _ _ hG.1 hG.2 hg hg2 hL.1 hL.2 hl hl3 a0 a1 a2 h
    · exact mk9nt N G A0 A1 A2 L w _ _ hG.1 hG.2 hg hg2 hL.1 hL.2 hl hl3 a0 a1 a2 h
end Go.Proofs.Ybulkbhxe.AMem
