/-
  (memory).store (function 12): what is known while it runs, and how it ends.
-/
import Derived.Test.YbulkbhxeA9
namespace Go.Proofs.Ybulkbhxe.AMem
open Go.ChangeShapes Go.WideShapes Go.ChangeAt Go.RowKit
set_option linter.unusedVariables false

/-- But for the blocks M and r all that was there is as it was. -/
structure Rest (w0 : World) (M r : Nat) (w : World) : Prop where
  os : w.os = w0.os
  tape : w.tape = w0.tape
  output : w.output = w0.output
  size : w0.heap.size ≤ w.heap.size
  block : ∀ k, k < w0.heap.size → k ≠ M → k ≠ r → w.heap[k]? = w0.heap[k]?
theorem Rest.refl (w0 : World) (M r : Nat) : Rest w0 M r w0 := ⟨rfl, rfl, rfl, Nat.le_refl _, fun _ _ _ _ => rfl⟩
theorem Rest.drewN {w0 w : World} {M r : Nat} (h : Rest w0 M r w) (n : Nat) : Rest w0 M r (w.drewN n) := ⟨h.os, h.tape, h.output, h.size, h.block⟩
theorem Rest.drew {w0 w : World} {M r : Nat} (h : Rest w0 M r w) : Rest w0 M r w.drew := ⟨h.os, h.tape, h.output, h.size, h.block⟩
theorem Rest.alloc {w0 w : World} {M r : Nat} (h : Rest w0 M r w) (o : Obj) : Rest w0 M r (w.alloc o) :=
  ⟨h.os, h.tape, h.output, by have := h.size; simp; omega, fun k hk h1 h2 => (Below.heap_alloc w o k (by have := h.size; omega)).trans (h.block k hk h1 h2)⟩
theorem Rest.setCell {w0 w : World} {M r : Nat} (h : Rest w0 M r w) {a : Addr} (ha : a.block = M ∨ a.block = r ∨ w0.heap.size ≤ a.block) (v : Value) : Rest w0 M r (w.setCell a v) :=
  ⟨h.os, h.tape, h.output, by have := h.size; simpa [World.setCell] using this, fun k hk h1 h2 => (heap_setCell_other w a k v (by rcases ha with ha | ha | ha <;> omega)).trans (h.block k hk h1 h2)⟩
theorem Rest.grown {w0 w w' : World} {M r g : Nat} (h : Rest w0 M r w) (hg : w.grownBy w' (some g)) (hgr : g = M ∨ g = r ∨ w0.heap.size ≤ g) : Rest w0 M r w' :=
  ⟨hg.os.trans h.os, hg.tape.trans h.tape, hg.output.trans h.output, Nat.le_trans h.size hg.size, fun k hk h1 h2 => (hg.block k (by have := h.size; omega) (by intro e; injection e with e; rcases hgr with h' | h' | h' <;> omega)).trans (h.block k hk h1 h2)⟩
theorem Rest.setRow {w0 w : World} {M r g : Nat} (h : Rest w0 M r w) (hgr : g = M ∨ g = r ∨ w0.heap.size ≤ g) (cs : Array Value) : Rest w0 M r (w.setRow g cs) :=
  ⟨h.os, h.tape, h.output, by have := h.size; simpa using this, fun k hk h1 h2 => (setRow_other w g k cs (by rcases hgr with h' | h' | h' <;> omega)).trans (h.block k hk h1 h2)⟩

/-- How store ends: row g holds what is left, and the memory names it. -/
def Done (w0 : World) (M v : Nat) (mc : Array Value) (r : Nat) (K : List Wr) (w : World) : Prop :=
  ∃ g cap, Own w g cap K ∧ w.heap[M]? = some (.cells (mc.setIfInBounds (v * 2 + 1) (.slice (some ⟨g, 0, none⟩) K.length cap)) 42 (0, 0)) ∧ Rest w0 M r w ∧ (g = r ∨ w0.heap.size ≤ g)

theorem ne_of_type {w : World} {a b : Nat} {c d : Array Value} {t u : TypeId} {fr fr' : Nat × Nat} (h : w.heap[a]? = some (.cells c t fr)) (h' : w.heap[b]? = some (.cells d u fr')) (hn : t ≠ u) : a ≠ b := by
  intro e
  subst e
  rw [h] at h'
  injection h' with h'
  injection h' with _ h2 _
  exact hn h2

theorem done_of {w0 w : World} {M v : Nat} {mc : Array Value} {r g cap : Nat} {K : List Wr} (hM : w.heap[M]? = some (.cells mc 42 (0, 0))) (ho : Own w g cap K) (hr : Rest w0 M r w) (hg : g = r ∨ w0.heap.size ≤ g) {n : Nat} (hn : n = K.length) :
    Done w0 M v mc r K (w.setCell ⟨M, v * 2 + 1, none⟩ (.slice (some ⟨g, 0, none⟩) n cap)) := by
  subst hn
  obtain ⟨cur, hc, _⟩ := ho.block
  have hne := ne_of_type hc hM (by decide)
  exact ⟨g, cap, ho.same (heap_setCell_other w _ g _ hne), heap_setCell_same w M _ mc 42 _ hM, hr.setCell (.inl rfl) _, hg⟩

theorem At.of_block {w : World} {b : Nat} {x : Wr} {t : TypeId} {fr : Nat × Nat} (h : w.heap[b]? = some (.cells (wc x).toArray t fr)) : At w b 0 x :=
  ⟨by rw [cell_of_row w b _ _ t fr h]; rfl, by rw [cell_of_row w b _ _ t fr h]; rfl, by rw [cell_of_row w b _ _ t fr h]; rfl, by rw [cell_of_row w b _ _ t fr h]; rfl, by rw [cell_of_row w b _ _ t fr h]; rfl, by rw [cell_of_row w b _ _ t fr h]; rfl, by rw [cell_of_row w b _ _ t fr h]; rfl⟩

/-- What is known while store runs: the memory, the row, the write in its box, the floor. -/
structure Env (w0 w : World) (M v mn : Nat) (mc : Array Value) (r cap : Nat) (W : List Wr) (B : Nat) (x : Wr) (fb : Nat) (fl : List Nat) : Prop where
  hM : w.heap[M]? = some (.cells mc 42 (0, 0))
  ms : mc.size = mn * 2
  mv : mc[v * 2 + 1]? = some (.slice (some ⟨r, 0, none⟩) W.length cap)
  own : Own w r cap W
  gs : Goods w W
  box : w.heap[B]? = some (.cells (wc x).toArray 36 (0, 0))
  gx : Good w x
  clk : Clk w fb fl
  rest : Rest w0 M r w
  hB : w0.heap.size ≤ B
  hr : r < w0.heap.size
  hMl : M < w0.heap.size

theorem Env.drewN {w0 w : World} {M v mn : Nat} {mc : Array Value} {r cap : Nat} {W : List Wr} {B : Nat} {x : Wr} {fb : Nat} {fl : List Nat} (h : Env w0 w M v mn mc r cap W B x fb fl) (n : Nat) : Env w0 (w.drewN n) M v mn mc r cap W B x fb fl :=
  ⟨h.hM, h.ms, h.mv, h.own, h.gs.drewN n, h.box, h.gx.drewN n, h.clk, h.rest.drewN n, h.hB, h.hr, h.hMl⟩
theorem Env.cellM {w0 w : World} {M v mn : Nat} {mc : Array Value} {r cap : Nat} {W : List Wr} {B : Nat} {x : Wr} {fb : Nat} {fl : List Nat} (h : Env w0 w M v mn mc r cap W B x fb fl) : w.cell? ⟨M, v * 2 + 1, none⟩ = some (.slice (some ⟨r, 0, none⟩) W.length cap) ∧ w.frozen? ⟨M, v * 2 + 1, none⟩ = false :=
  ⟨by rw [cell_of_row w M _ mc 42 (0, 0) h.hM]; exact h.mv, frozen_of_row w M _ mc 42 h.hM⟩
theorem Env.at {w0 w : World} {M v mn : Nat} {mc : Array Value} {r cap : Nat} {W : List Wr} {B : Nat} {x : Wr} {fb : Nat} {fl : List Nat} (h : Env w0 w M v mn mc r cap W B x fb fl) : At w B 0 x := At.of_block h.box

theorem Env.start {w : World} {M v mn : Nat} {mc : Array Value} {r cap : Nat} {W : List Wr} {x : Wr} {fb : Nat} {fl : List Nat} (hM : w.heap[M]? = some (.cells mc 42 (0, 0))) (ms : mc.size = mn * 2) (mv : mc[v * 2 + 1]? = some (.slice (some ⟨r, 0, none⟩) W.length cap))
    (own : Own w r cap W) (gs : Goods w W) (gx : Good w x) (clk : Clk w fb fl) : Env w (w.alloc (.cells #[.int .i64 x.N, .string ByteArray.empty, .int .i64 0, .int .u64 0, .int .i64 (x.g : Int), .slice (some ⟨x.b, 0, none⟩) x.at'.length x.at'.length, .int .u64 x.f] 36)) M v mn mc r cap W w.heap.size x fb fl := by
  have hb : Below w.heap.size w (w.alloc (.cells #[.int .i64 x.N, .string ByteArray.empty, .int .i64 0, .int .u64 0, .int .i64 (x.g : Int), .slice (some ⟨x.b, 0, none⟩) x.at'.length x.at'.length, .int .u64 x.f] 36)) := (Below.refl _ _).alloc (Nat.le_refl _) _
  have hMl : M < w.heap.size := (Array.getElem?_eq_some_iff.1 hM).1
  exact ⟨(hb.block M hMl).trans hM, ms, mv, own.below hb, gs.below hb, heap_alloc_new w _, gx.below hb, clk.below hb, (Rest.refl _ _ _).alloc _, Nat.le_refl _, own.lt, hMl⟩

/-- What stands behind an append to the row. -/
structure Env2 (w0 w : World) (M : Nat) (mc : Array Value) (r : Nat) (W : List Wr) (B : Nat) (x : Wr) (fb : Nat) (fl : List Nat) : Prop where
  hM : w.heap[M]? = some (.cells mc 42 (0, 0))
  gs : Goods w W
  box : w.heap[B]? = some (.cells (wc x).toArray 36 (0, 0))
  gx : Good w x
  clk : Clk w fb fl
  rest : Rest w0 M r w
theorem Env.grown {w0 w w3 : World} {M v mn : Nat} {mc : Array Value} {r cap : Nat} {W : List Wr} {B : Nat} {x : Wr} {fb : Nat} {fl : List Nat} (h : Env w0 w M v mn mc r cap W B x fb fl) {o : Obj} (G : (w.alloc o).grownBy w3 (some r)) : Env2 w0 w3 M mc r W B x fb fl := by
  obtain ⟨cur, hc, _⟩ := h.own.block
  have same : ∀ k, k < w.heap.size → k ≠ r → w3.heap[k]? = w.heap[k]? := fun k hk hn => (G.block k (by simp; omega) (by simpa using hn)).trans (Below.heap_alloc w o k hk)
  have hMr : M ≠ r := ne_of_type h.hM hc (by decide)
  have hBl : B < w.heap.size := (Array.getElem?_eq_some_iff.1 h.box).1
  have hcl : ∀ b l, Clk w b l → Clk w3 b l := fun b l hb => (same b hb.lt (hb.ne hc (by decide))).trans hb
  exact ⟨(same M (Array.getElem?_eq_some_iff.1 h.hM).1 hMr).trans h.hM, fun y hy => ⟨hcl _ _ (h.gs y hy).clk, (h.gs y hy).lt, (h.gs y hy).small⟩, (same B hBl (by have := h.hB; have := h.hr; omega)).trans h.box,
    ⟨hcl _ _ h.gx.clk, h.gx.lt, h.gx.small⟩, hcl _ _ h.clk, (h.rest.alloc o).grown G (.inr (.inl rfl))⟩
theorem Env2.cellM {w0 w : World} {M : Nat} {mc : Array Value} {r : Nat} {W : List Wr} {B : Nat} {x : Wr} {fb : Nat} {fl : List Nat} (h : Env2 w0 w M mc r W B x fb fl) {j : Nat} (hj : j < mc.size) : (∃ u, w.cell? ⟨M, j, none⟩ = some u) ∧ w.frozen? ⟨M, j, none⟩ = false :=
  ⟨⟨mc[j], by rw [cell_of_row w M _ mc 42 (0, 0) h.hM]; exact Array.getElem?_eq_getElem hj⟩, frozen_of_row w M _ mc 42 h.hM⟩
theorem undrew_grown {w w' : World} {row : Option Nat} (h : w.drew.grownBy w' row) : w.grownBy w' row := ⟨h.os, h.tape, h.output, h.size, h.block⟩
end Go.Proofs.Ybulkbhxe.AMem
