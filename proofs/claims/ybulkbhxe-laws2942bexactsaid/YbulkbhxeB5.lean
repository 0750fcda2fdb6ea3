/-
  A slice of bytes that came in ('Pre'): copied from, appended from, read as a string; a made row of bytes.
-/
import Derived.Test.YbulkbhxeB3
import Derived.Laws.CopyOwn
namespace Go.Proofs.Ybulkbhxe.BVal
open Go.ChangeShapes Go.WideShapes Go.ChangeAt Go.RowKit

/-- The slice at a, of n bytes, holds pl; or it is nil. -/
structure Pre (w : World) (a : Option Addr) (n c : Nat) (pl : List UInt8) : Prop where
  len : pl.length = n
  none : a = Option.none → n = 0 ∧ c = 0
  cell : ∀ x, a = some x → ∀ j u, (bc pl)[j]? = some u → w.cell? (x.add j) = some u

theorem Pre.carry {w w' : World} {a : Option Addr} {n c : Nat} {pl : List UInt8} (h : Pre w a n c pl) (hb : Below w.heap.size w w') : Pre w' a n c pl := by
  refine ⟨h.len, h.none, fun x hx j u hu => ?_⟩
  have hc := h.cell x hx j u hu
  exact (hb.cell (World.block_lt_of_cell? _ _ hc)).trans hc

theorem run_string_pre {w : World} {a : Option Addr} {n c : Nat} {pl : List UInt8} (h : Pre w a n c pl) : (convert 26 9 (.slice a n c)).run Yba.prog w = .ok (.string ⟨pl.toArray⟩) w := by
  cases a with
  | none =>
    obtain ⟨h0, _⟩ := h.none rfl
    have : pl = [] := List.eq_nil_of_length_eq_zero (by rw [h.len]; exact h0)
    subst this
    exact run_convert_bytes_nil w 26 5 Yba.underlying26 Yba.underlying5 n c 9 Yba.underlying9
  | some x =>
    have hl : (loadCells x n).run Yba.prog w = .ok ((pl.map fun b => (b.toNat : Int)).map (Value.int .u8)).toArray w := by
      have := run_loadCells_list (P := Yba.prog) w x (bc pl) (h.cell x rfl)
      rw [bc_length, h.len] at this
      rw [this, bc, List.map_map]
      rfl
    rw [run_convert_bytes_string w 26 9 5 _ n c Yba.underlying26 Yba.underlying5 Yba.underlying9, run_bytesToString w x n c _ hl, foldl_push_bytes]
    congr 2
    have e : List.map (fun n : Int => UInt8.ofNat n.toNat) (List.map (fun b : UInt8 => (b.toNat : Int)) pl) = pl := by
      rw [List.map_map]
      conv => rhs; rw [← List.map_id pl]
      apply List.map_congr_left
      intro b _
      simp
    rw [e]
    simp [ByteArray.empty, ByteArray.emptyWithCapacity]
    rfl

/-- 'append(v, prefix...)'. -/
theorem wpList_put_pre {ops : Array Oper} {rest : List Oper} {o : Oper} {a : Act} {Q : Exit → Act → World → Prop} (w : World) (hgd : o.guard = Option.none) (s x : Operand)
    (ho : o.op = .call { callee := .builtin .append, args := #[s, x], argTypes := #[26, 26] })
    (Pr : Nat → Prop) (v : Value) (l : List UInt8) (hs : a.eval s = v) (hown : Row w Pr v l)
    (ao : Option Addr) (m c : Nat) (news : List UInt8) (hx : a.eval x = .slice ao m c) (hp : Pre w ao m c news)
    (hbytes : l.length + m ≤ 1000000) (hpr : ∀ k, Pr k → k < w.heap.size)
    (h : ∀ v' w', Row w' Pr v' (l ++ news) → Step Pr l.length w w' → wpList Yba.prog ops Q rest (a.put o.dst v') w') : wpList Yba.prog ops Q (o :: rest) a w := by
  cases ao with
  | some ad => exact wpList_put w hgd s x ho Pr v l hs hown ad m c news hx hp.len (hp.cell ad rfl) hbytes hpr h
  | none =>
    obtain ⟨rfl, rfl⟩ := hp.none rfl
    have e : news = [] := List.eq_nil_of_length_eq_zero hp.len
    subst e
    obtain ⟨i, hi, hz0, hz1, hz2⟩ := info_parts info5
    refine wpList_plain hgd fun K hK => ?_
    have hrun := run_append_owned_none (P := Yba.prog) (w := w) 0 26 o.type 5 i 1 Yba.underlying26 hi v l.length (bc l) hown.1
    have := h v w (by simpa using hown) (Step.refl _ _ _)
    unfold Oper.wp
    simp [execOp, ho, resolve, invoke, builtin, hs, hx, hrun, Result.andThen]
    exact hK _ _ this

theorem run_make26 (n : Nat) (hn : n ≤ 100000) (w : World) : (Instr.makeSlice 26 (.int .i64 (n : Int)) (.int .i64 (n : Int))).run Yba.prog w =
    .ok (.slice (some ⟨w.heap.size, 0, none⟩) n n) (w.alloc (.cells (madeCells #[.int .u8 0] n) 5)) := by
  obtain ⟨i, hi, hz0, hz1, hz2⟩ := info_parts info5
  have h := run_make (P := Yba.prog) w 26 5 i _ Yba.underlying26 hi hz0 .i64 .i64 n n (by omega) (by omega) (by rw [hz2]; omega) (by omega)
  rw [hz1] at h
  simpa [Value.cells] using h

theorem run_make26z (n : Int) (h0 : 0 ≤ n) (hn : n ≤ 100000) (w : World) : (Instr.makeSlice 26 (.int .i64 0) (.int .i64 n)).run Yba.prog w =
    .ok (.slice (some ⟨w.heap.size, 0, none⟩) 0 n.toNat) (w.alloc (.cells (madeCells #[.int .u8 0] n.toNat) 5)) := by
  obtain ⟨i, hi, hz0, hz1, hz2⟩ := info_parts info5
  have h := run_make (P := Yba.prog) w 26 5 i _ Yba.underlying26 hi hz0 .i64 .i64 0 n (by omega) (by omega) (by rw [hz2]; omega) (by omega)
  rw [hz1] at h
  simpa [Value.cells] using h

/-- A block that holds just the bytes l is owned by the slice over it. -/
theorem row_of_block {w : World} {g : Nat} {l : List UInt8} (hg : w.heap[g]? = some (.cells (bc l).toArray 5 (0, 0))) (hl : l.length ≤ 100000) {Pr : Nat → Prop} (hp : ¬ Pr g) : Row w Pr (.slice (some ⟨g, 0, none⟩) l.length l.length) l := by
  refine ⟨⟨by rw [bc_length]; omega, .inr ⟨g, l.length, _, rfl, Nat.zero_le _, hg, Nat.le_refl _, ?_, ?_, ?_⟩⟩, ?_⟩
  · unfold maxLen; omega
  · rw [List.size_toArray, bc_length]; omega
  · simp [← bc_length]
  · intro k hk
    simp [Value.ownBlock] at hk
    subst hk
    exact hp

/-- A made row of no elements. -/
theorem row_made (w : World) (cap : Nat) (hc : cap ≤ 100000) {Pr : Nat → Prop} (hp : ¬ Pr w.heap.size) : Row (w.alloc (.cells (madeCells #[.int .u8 0] cap) 5)) Pr (.slice (some ⟨w.heap.size, 0, none⟩) 0 cap) [] := by
  refine ⟨World.ownsRow_made w _ cap (Nat.zero_le _) (by unfold maxLen; omega) (by rw [size_madeCells]; omega), ?_⟩
  intro k hk
  simp [Value.ownBlock] at hk
  subst hk
  exact hp
end Go.Proofs.Ybulkbhxe.BVal
